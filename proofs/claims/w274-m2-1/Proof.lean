import JvmDerived
import JvmDerived.Pilot.@@N@@Statement
import JvmDerived.Pilot.@@N@@Code
set_option linter.unusedVariables false
set_option linter.unusedSimpArgs false
namespace Jvm.Own
open Jvm Jvm.ClassFile Sem Op Lib Jvm.Free Jvm.Stand Jvm.LawKit Jvm.RoadKit Bundle
section Base
variable {p : Program} {l : Launch} {e : Env} {R : Room} {s : State} {m : MethodId} {args : Array Value} {below : List Frame} {meth : Method} {c : Code} {T : State} {locs : List Loc} {cells slots : Nat} {Z : State} {a0 : Array Value} {h : Heap}
/-- from t the run ends, and its end is as Qf says -/
def Go (p : Program) (e : Env) (below : List Frame) (Qf : Outcome → State → Prop) (t : State) : Prop :=
  ∃ s₂ o, Steps p.tables e below t s₂ ∧ s₂.status = .running ∧ Ended s₂ below o ∧ Qf o s₂
theorem Go.step {Qf : Outcome → State → Prop} {t t' : State} (k : ∀ u, Steps p.tables e below t' u → Steps p.tables e below t u) (h : Go p e below Qf t') : Go p e below Qf t := by
  obtain ⟨s₂, o, h1, h2⟩ := h
  exact ⟨s₂, o, k _ h1, h2⟩
theorem own_join {Qf : Outcome → State → Prop} {t t' : State} (h : Go p e below Qf t → Go p e below Qf t') (k : Go p e below Qf t) : Go p e below Qf t' := h k
theorem own_joinA {α : Type} {P : α → Prop} {Qf : Outcome → State → Prop} {t : α → State} {t' : State} (h : (∀ v, P v → Go p e below Qf (t v)) → Go p e below Qf t') (k : ∀ v, P v → Go p e below Qf (t v)) : Go p e below Qf t' := h k
theorem own_top {Qf : Outcome → State → Prop} {pc : Nat} {Ls : Array Slot} {rest : List Value} {a b : Value} (h : a = b) (k : Go p e below Qf (T.setTop (mkF m pc Ls (b :: rest)))) : Go p e below Qf (T.setTop (mkF m pc Ls (a :: rest))) := by subst h; exact k
/-- the end of a narrow walk -/
def QN (s : State) (rm : Room) (Q : Option Value → Heap → List Loc → Prop) (o : Outcome) (U' : State) : Prop := ∃ v L, o = .returned v ∧ Q v U'.heap L ∧ FrameEnd s o U' L rm.cells rm.slots
abbrev CN (l : Launch) (Z : State) (y : MethodName) (ws : List Jvm.Cond) (rm : Room) (as : Array Value) (h0 : Heap) (Q : Option Value → Heap → List Loc → Prop) : Prop :=
  MetFree l y (head1 ws rm) (fun a U => a = as ∧ Z.Warmed39 U.vm ∧ U.heap = h0) (fun _ _ _ _ _ => True) (fun _ U o U' => ∃ v L, o = .returned v ∧ Q v U'.heap L ∧ FrameEnd U o U' L rm.cells rm.slots)
theorem CN.of {y : MethodName} {bytes : ByteArray} {maxL : Nat} {ret : Option FieldType} {ws : List Jvm.Cond} {rm : Room} {as : Array Value} {h0 : Heap} {Q : Option Value → Heap → List Loc → Prop} {L0 : Array Slot}
    (hp : plainFor y = true) (ef : ∀ m, entryFrame m as maxL = mkF m 0 L0 [])
    (body : ∀ (p : Program) (e : Env) (s : State) (m : MethodId) (below : List Frame) (meth : Method) (c : Code) (s₁ : State), p.tables.exec = Jvm.exec → c.code = bytes → c.maxLocals = maxL → meth.sig.returnType = ret → meth.locks = false → Z.Warmed39 s.vm → s.vm.findClass y.cls = some m.cls → meth.name = y.name → Stand p l e rm s m as below meth c s₁ [] 0 0 → s₁.heap = h0 → Go p e below (QN s rm Q) (s₁.setTop (mkF m 0 L0 []))) :
    CN l Z y (Jvm.Cond.code y bytes maxL ret :: ws) rm as h0 Q := by
  refine MetFree.of_bodySF hp hisR ?_
  intro p e s m args below meth c s₁ Bd hml0 hP hK
  obtain ⟨rfl, hZ, hh⟩ := hP
  have q := body p e s m below meth c s₁ Bd.exec Bd.bytes hml0 Bd.returns Bd.notSynchronized hZ (findClass_of_methodNamed Bd.named) (name_of_methodNamed Bd.named Bd.method).1 (Stand.of_body Bd) (by rw [← hh, Bd.state]; rfl)
  rw [← ef m] at q
  exact q
theorem Go.ret {Q : Option Value → Heap → List Loc → Prop} {rm : Room} {t : State} (X : Stand p l e R s m args below meth c T locs cells slots) (hlk : meth.locks = false) (v : Option Value) (hv : meth.sig.returnType = none → v = none) (hc : cells ≤ rm.cells) (hs : slots ≤ rm.slots) (q : Q v T.heap locs)
    (st : ∀ fs, (∀ (f : JFrame) (acts : List Action), f.method = m → f.locked = none → f.entered = [] → (doReturn e (T.setTop f) acts v).1 = T.setFrames fs) → Steps p.tables e below t (T.setFrames fs)) : Go p e below (QN s rm Q) t := by
  obtain ⟨fs, hr, hrun, hended, hW, hsame⟩ := X.leave (v := v) hv hlk
  exact ⟨_, _, st fs hr, hrun, hended, v, locs, rfl, q, ⟨v, rfl⟩, hW, hsame.mono hc hs⟩
/-- a value comes back -/
theorem Go.retV {Q : Option Value → Heap → List Loc → Prop} {rm : Room} (X : Stand p l e R s m args below meth c T locs cells slots) (hx : p.tables.exec = Jvm.exec) (hlk : meth.locks = false) {pc : Nat} {Ls : Array Slot} {w : Value} {t : FieldType} {i : Instr} {rest : List Value} (hret : meth.sig.returnType = some t) (hn : narrow t w = w)
    (hi : (i = .ireturn ∧ (t = .int ∨ t = .boolean ∨ t = .byte ∨ t = .char ∨ t = .short) ∧ ∃ z, w = .int z) ∨ (i = .lreturn ∧ t = .long ∧ ∃ z, w = .long z) ∨ (i = .dreturn ∧ t = .double ∧ ∃ z, w = .double z) ∨ (i = .freturn ∧ t = .float ∧ ∃ z, w = .float z) ∨ (i = .areturn ∧ t.isReference = true ∧ w.isRef = true))
    (hd : decode c.code pc = .ok (i, 1)) (hc : cells ≤ rm.cells) (hs : slots ≤ rm.slots) (q : Q (some w) T.heap locs) : Go p e below (QN s rm Q) (T.setTop (mkF m pc Ls (w :: rest))) :=
  Go.ret X hlk (some w) (fun h => by rw [hret] at h; cases h) hc hs q fun fs hr => retOut X hx hret hn hi hd hr
/-- nothing comes back -/
theorem Go.ret0 {Q : Option Value → Heap → List Loc → Prop} {rm : Room} (X : Stand p l e R s m args below meth c T locs cells slots) (hx : p.tables.exec = Jvm.exec) (hlk : meth.locks = false) {pc : Nat} {Ls : Array Slot} (hret : meth.sig.returnType = none)
    (hd : decode c.code pc = .ok (.return_, 1)) (hc : cells ≤ rm.cells) (hs : slots ≤ rm.slots) (q : Q none T.heap locs) : Go p e below (QN s rm Q) (T.setTop (mkF m pc Ls [])) :=
  Go.ret X hlk none (fun _ => rfl) hc hs q fun fs hr => X.returnOut hx hret hd hr
/-- what pays a call -/
abbrev Pay (l : Launch) (R : Room) (p : Program) (e : Env) (below : List Frame) (s : State) (args : Array Value) (y : MethodName) (W : Nat) (as : Array Value) (h : Heap) (kc ks : Nat) (QQ : Option Value → Heap → List Loc → Prop) : Prop :=
  Back l R p e below s args y 3 W (fun P a => a = as ∧ P.U.heap = h ∧ P.cells + kc ≤ R.cells ∧ P.slots + ks ≤ R.slots) (fun P _ v B => ∃ L, QQ v B.U.heap L ∧ B.locs = P.locs ++ L ∧ B.cells = P.cells + kc ∧ B.slots = P.slots + ks)
theorem goS (X : Stand p l e R s m args below meth c T locs cells slots) (hx : p.tables.exec = Jvm.exec) (hZ : Z.Warmed39 s.vm) {own : String} {index : Nat} {y : MethodName} {bytes : ByteArray} {maxL : Nat} {ret : Option FieldType} (hown : s.vm.findClass own = some m.cls)
    (w1 : (Jvm.Cond.methodLink own index y).before a0 Z = true) (w2 : (Jvm.Cond.static y).before a0 Z = true) (w3 : (Jvm.Cond.initialized y.cls).before a0 Z = true) (w4 : (Jvm.Cond.code y bytes maxL ret).before a0 Z = true) (hy : y.cls ≠ "java/lang/invoke/MethodHandle" ∧ y.cls ≠ "java/lang/invoke/VarHandle")
    {W kc ks : Nat} {as : Array Value} {QQ : Option Value → Heap → List Loc → Prop} (K : Pay l R p e below s args y W as h kc ks QQ) (eT : T.heap = h) {g : JFrame} (hg : g.method = m) (hsize : g.locals.size = c.maxLocals) {argsL rest : List Value} (has : argsL.toArray = as)
    (hlen : ∀ sig, parseMethodDescriptor y.desc = some sig → argsL.length = sig.parameters.length) (hstack : g.stack = argsL.reverse ++ rest) (hW : 2 * g.monitorRoom + (rest.map fun v => v.category).sum ≤ W) (hd : decode c.code g.pc = .ok (.invokestatic index, 3)) (hc : cells + kc ≤ R.cells) (hs : slots + ks ≤ R.slots) :
    ∃ v T' L, Stand p l e R s m args below meth c T' (locs ++ L) (cells + kc) (slots + ks) ∧ QQ v T'.heap L ∧ ∀ u, Steps p.tables e below (T'.setTop { g with pc := g.pc + 3, stack := v.toList ++ rest }) u → Steps p.tables e below (T.setTop g) u := by
  obtain ⟨v, _, ⟨T', L', k', n'⟩, -, X', ⟨L, hQ, l1, y1, z1⟩, st⟩ := Jvm.LawKit.callS X hx hown (mvT hZ w1) (mvT hZ w2) (mvT hZ w3) (mvT hZ w4) hy K hg hsize hlen hstack hW hd (fun _ _ => ⟨has, eT, hc, hs⟩)
  try dsimp only [Pt.U, Pt.locs, Pt.cells, Pt.slots] at X' l1 y1 z1 st hQ
  subst l1 y1 z1
  exact ⟨v, T', L, X', hQ, st⟩
theorem goC (X : Stand p l e R s m args below meth c T locs cells slots) (hx : p.tables.exec = Jvm.exec) (hZ : Z.Warmed39 s.vm) {own : String} {index : Nat} {y : MethodName} {bytes : ByteArray} {maxL : Nat} (hown : s.vm.findClass own = some m.cls)
    (hy1 : y.name = "<init>") (w1 : (Jvm.Cond.methodLink own index y).before a0 Z = true) (w2 : (Jvm.Cond.instanceMethod y).before a0 Z = true) (w4 : (Jvm.Cond.code y bytes maxL none).before a0 Z = true) (hy : y.cls ≠ "java/lang/invoke/MethodHandle" ∧ y.cls ≠ "java/lang/invoke/VarHandle")
    {W kc ks : Nat} {as : Array Value} {QQ : Option Value → Heap → List Loc → Prop} (K : Pay l R p e below s args y W as h kc ks QQ) (eT : T.heap = h) {g : JFrame} (hg : g.method = m) (hsize : g.locals.size = c.maxLocals) {a : Addr} {argsL rest : List Value} (has : (.ref a :: argsL).toArray = as)
    (hlen : ∀ sig, parseMethodDescriptor y.desc = some sig → argsL.length = sig.parameters.length) (hstack : g.stack = argsL.reverse ++ .ref a :: rest) (hW : 2 * g.monitorRoom + (rest.map fun v => v.category).sum ≤ W) (hd : decode c.code g.pc = .ok (.invokespecial index, 3)) (hc : cells + kc ≤ R.cells) (hs : slots + ks ≤ R.slots) :
    ∃ v T' L, Stand p l e R s m args below meth c T' (locs ++ L) (cells + kc) (slots + ks) ∧ QQ v T'.heap L ∧ ∀ u, Steps p.tables e below (T'.setTop { g with pc := g.pc + 3, stack := v.toList ++ rest }) u → Steps p.tables e below (T.setTop g) u := by
  obtain ⟨v, _, ⟨T', L', k', n'⟩, -, X', ⟨L, hQ, l1, y1, z1⟩, st⟩ := X.specialBack hx hy1 hown (mvT hZ w1) (mvT hZ w2) (mvT hZ w4) hy K hg hsize (Steps.refl _) hlen hstack hW hd (fun _ _ => ⟨has, eT, hc, hs⟩)
  try dsimp only [Pt.U, Pt.locs, Pt.cells, Pt.slots] at X' l1 y1 z1 st hQ
  subst l1 y1 z1
  exact ⟨v, T', L, X', hQ, fun u k => st.trans k⟩
theorem goV (X : Stand p l e R s m args below meth c T locs cells slots) (hx : p.tables.exec = Jvm.exec) (hZ : Z.Warmed39 s.vm) {own C : String} {index : Nat} {y z : MethodName} (hown : s.vm.findClass own = some m.cls)
    (w1 : (Jvm.Cond.methodLink own index y).before a0 Z = true) (w2 : (Jvm.Cond.declares y).before a0 Z = true) (hnf : NotFace s y) (w3 : (Jvm.Cond.selects C y z).before a0 Z = true) (w4 : (Jvm.Cond.instanceMethod z).before a0 Z = true) (hy : y.cls ≠ "java/lang/invoke/MethodHandle" ∧ y.cls ≠ "java/lang/invoke/VarHandle")
    {W kc ks : Nat} {as : Array Value} {QQ : Option Value → Heap → List Loc → Prop} (K : Pay l R p e below s args z W as h kc ks QQ) (eT : T.heap = h) {a : Addr} (E : Exa Z h a C) {g : JFrame} (hg : g.method = m) (hsize : g.locals.size = c.maxLocals) {argsL rest : List Value} (has : (.ref a :: argsL).toArray = as)
    (hlen : ∀ sig, parseMethodDescriptor y.desc = some sig → argsL.length = sig.parameters.length) (hstack : g.stack = argsL.reverse ++ .ref a :: rest) (hW : 2 * g.monitorRoom + (rest.map fun v => v.category).sum ≤ W) (hd : decode c.code g.pc = .ok (.invokevirtual index, 3)) (hc : cells + kc ≤ R.cells) (hs : slots + ks ≤ R.slots) :
    ∃ v T' L, Stand p l e R s m args below meth c T' (locs ++ L) (cells + kc) (slots + ks) ∧ QQ v T'.heap L ∧ ∀ u, Steps p.tables e below (T'.setTop { g with pc := g.pc + 3, stack := v.toList ++ rest }) u → Steps p.tables e below (T.setTop g) u := by
  obtain ⟨cB, kB, q1, q2, q3⟩ := isOf hZ eT E
  obtain ⟨v, _, ⟨T', L', k', n'⟩, -, X', ⟨L, hQ, l1, y1, z1⟩, st⟩ := X.virtualBack hx hown (mvT hZ w1) (mvT hZ w2) hnf (mvT hZ w3) (mvT hZ w4) hy K q1 q3 hg hsize (Steps.refl _) hlen hstack hW hd (fun _ _ => ⟨has, eT, hc, hs⟩)
  try dsimp only [Pt.U, Pt.locs, Pt.cells, Pt.slots] at X' l1 y1 z1 st hQ
  subst l1 y1 z1
  exact ⟨v, T', L, X', hQ, fun u k => st.trans k⟩
/-- .. whose named class does not declare it -/
theorem goU (X : Stand p l e R s m args below meth c T locs cells slots) (hx : p.tables.exec = Jvm.exec) (hZ : Z.Warmed39 s.vm) {own C owner : String} {index : Nat} {y z : MethodName} (hown : s.vm.findClass own = some m.cls)
    (w1 : (Jvm.Cond.methodLink own index y).before a0 Z = true) (w5 : (Jvm.Cond.sameMethod y.cls owner y.name y.desc).before a0 Z = true) (w2 : (Jvm.Cond.declares ⟨owner, y.name, y.desc⟩).before a0 Z = true) (w3 : (Jvm.Cond.selects C y z).before a0 Z = true) (w4 : (Jvm.Cond.instanceMethod z).before a0 Z = true) (hy : owner ≠ "java/lang/invoke/MethodHandle" ∧ owner ≠ "java/lang/invoke/VarHandle")
    {W kc ks : Nat} {as : Array Value} {QQ : Option Value → Heap → List Loc → Prop} (K : Pay l R p e below s args z W as h kc ks QQ) (eT : T.heap = h) {a : Addr} (E : Exa Z h a C) {g : JFrame} (hg : g.method = m) (hsize : g.locals.size = c.maxLocals) {argsL rest : List Value} (has : (.ref a :: argsL).toArray = as)
    (hlen : ∀ sig, parseMethodDescriptor y.desc = some sig → argsL.length = sig.parameters.length) (hstack : g.stack = argsL.reverse ++ .ref a :: rest) (hW : 2 * g.monitorRoom + (rest.map fun v => v.category).sum ≤ W) (hd : decode c.code g.pc = .ok (.invokevirtual index, 3)) (hc : cells + kc ≤ R.cells) (hs : slots + ks ≤ R.slots) :
    ∃ v T' L, Stand p l e R s m args below meth c T' (locs ++ L) (cells + kc) (slots + ks) ∧ QQ v T'.heap L ∧ ∀ u, Steps p.tables e below (T'.setTop { g with pc := g.pc + 3, stack := v.toList ++ rest }) u → Steps p.tables e below (T.setTop g) u := by
  obtain ⟨cB, kB, q1, q2, q3⟩ := isOf hZ eT E
  obtain ⟨v, _, ⟨T', L', k', n'⟩, -, X', ⟨L, hQ, l1, y1, z1⟩, st⟩ := X.virtualBackUp hx hown (mvT hZ w1) (mvT hZ w5) (mvT hZ w2) hy (mvT hZ w3) (mvT hZ w4) K q1 q3 hg hsize (Steps.refl _) hlen hstack hW hd (fun _ _ => ⟨has, eT, hc, hs⟩)
  try dsimp only [Pt.U, Pt.locs, Pt.cells, Pt.slots] at X' l1 y1 z1 st hQ
  subst l1 y1 z1
  exact ⟨v, T', L, X', hQ, fun u k => st.trans k⟩
/-- a private method by invokevirtual -/
theorem goP (X : Stand p l e R s m args below meth c T locs cells slots) (hx : p.tables.exec = Jvm.exec) (hZ : Z.Warmed39 s.vm) {own C : String} {index : Nat} {y : MethodName} {bytes : ByteArray} {maxL : Nat} {ret : Option FieldType} (hown : s.vm.findClass own = some m.cls)
    (w1 : (Jvm.Cond.methodLink own index y).before a0 Z = true) (w2 : (Jvm.Cond.instanceMethod y).before a0 Z = true) (w3 : (Jvm.Cond.selects y.cls y y).before a0 Z = true) (w5 : (Jvm.Cond.privateMethod y).before a0 Z = true) (w4 : (Jvm.Cond.code y bytes maxL ret).before a0 Z = true) (hy : y.cls ≠ "java/lang/invoke/MethodHandle" ∧ y.cls ≠ "java/lang/invoke/VarHandle")
    {W kc ks : Nat} {as : Array Value} {QQ : Option Value → Heap → List Loc → Prop} (K : Pay l R p e below s args y W as h kc ks QQ) (eT : T.heap = h) {a : Addr} (E : Exa Z h a C) {g : JFrame} (hg : g.method = m) (hsize : g.locals.size = c.maxLocals) {argsL rest : List Value} (has : (.ref a :: argsL).toArray = as)
    (hlen : ∀ sig, parseMethodDescriptor y.desc = some sig → argsL.length = sig.parameters.length) (hstack : g.stack = argsL.reverse ++ .ref a :: rest) (hW : 2 * g.monitorRoom + (rest.map fun v => v.category).sum ≤ W) (hd : decode c.code g.pc = .ok (.invokevirtual index, 3)) (hc : cells + kc ≤ R.cells) (hs : slots + ks ≤ R.slots) :
    ∃ v T' L, Stand p l e R s m args below meth c T' (locs ++ L) (cells + kc) (slots + ks) ∧ QQ v T'.heap L ∧ ∀ u, Steps p.tables e below (T'.setTop { g with pc := g.pc + 3, stack := v.toList ++ rest }) u → Steps p.tables e below (T.setTop g) u := by
  obtain ⟨cq, q1, q2⟩ := E.cell
  obtain ⟨v, _, ⟨T', L', k', n'⟩, -, X', ⟨L, hQ, l1, y1, z1⟩, st⟩ := X.privateBack hx hown (mvT hZ w1) (mvT hZ w2) (mvT hZ w3) (Cond.privateMethod_at (mvP hZ w5 (args := #[]))) (mvT hZ w4) hy K hg hsize (Steps.refl _) (by rw [eT]; exact q1) q2 hlen hstack hW hd (fun _ _ => ⟨has, eT, hc, hs⟩)
  try dsimp only [Pt.U, Pt.locs, Pt.cells, Pt.slots] at X' l1 y1 z1 st hQ
  subst l1 y1 z1
  exact ⟨v, T', L, X', hQ, fun u k => st.trans k⟩
theorem lremM {g : JFrame} {target : State} (X : Stand p l e R s m args below meth c T locs cells slots) (hx : p.tables.exec = Jvm.exec) (hg : g.method = m) {x y : Int64} {rest : List Value} (hd : decode c.code g.pc = .ok (.lrem, 1)) (hs : g.stack = .long y :: .long x :: rest) (hy : y ≠ 0)
    (hr : Steps p.tables e below (T.setTop { g with pc := g.pc + 1, stack := .long (x % y) :: rest }) target) : Steps p.tables e below (T.setTop g) target :=
  XS.lrem X.here hx hg hd hs hy (by rw [lrem_mod]; exact hr)
theorem own_cat {v : Value} (h : v.isRef = true) : v.category = 1 := by cases v <;> first | rfl | (simp [Value.isRef] at h; done)
theorem own_narrow_ref {t : FieldType} {v : Value} (h : v.isRef = true) : narrow t v = v := by cases v <;> first | (simp [Value.isRef] at h; done) | (cases t <;> rfl)
theorem own_fits_ref {C : String} {v : Value} (h : v.isRef = true) : fits (.object C) v = true := by cases v <;> simp_all [Value.isRef, fits]
/-- what the case's words say of a static -/
theorem sta_obj {C n d K : String} (hi : (Jvm.Cond.initializedFor C n d).before args s = true ∨ ((Jvm.Cond.initialized C).before args s = true ∧ (Jvm.Cond.laysStatic C n d).before args s = true)) (hx : (Jvm.Cond.exactly (.static C n d) K).value args s none s [] = some true) :
    ∃ a, Sta s s.heap C n d (.ref a) ∧ Exa s s.heap a K ∧ (Term.static C n d).eval args s none [] s = some (.ref a) := by
  obtain ⟨a, e⟩ := exa_v hx
  exact ⟨a, Sta.start e hi, Exa.start e hx, e⟩
theorem fld_l {t : Term} {a : Addr} {C f d : String} {v : Int64} (ev : t.eval args s none [] s = some (.ref a)) (h : (Jvm.Cond.eq (.field t C f d) (.long v)).value args s none s [] = some true) : Fld s s.heap a C f d (.long v) :=
  Fld.start (by rw [← fld_at ev]; exact eqv_l (long_at v) h)
theorem fld_i {t : Term} {a : Addr} {C f d : String} {v : Int32} (ev : t.eval args s none [] s = some (.ref a)) (h : (Jvm.Cond.eq (.field t C f d) (.int v)).value args s none s [] = some true) : Fld s s.heap a C f d (.int v) :=
  Fld.start (by rw [← fld_at ev]; exact eqv_i (Term.int_eval v) h)
theorem b01_ne {P : Prop} [Decidable P] (q : P) : ¬ (if P then (1 : Int32) else 0) = 0 := by rw [if_pos q]; decide
theorem b01_eq {P : Prop} [Decidable P] (q : ¬ P) : (if P then (1 : Int32) else 0) = 0 := if_neg q
theorem b01_nar {P : Prop} [Decidable P] : narrow .boolean (.int (if P then (1 : Int32) else 0)) = .int (if P then (1 : Int32) else 0) := by split <;> rfl
end Base
end Jvm.Own
namespace Jvm.Own
open Jvm Jvm.ClassFile Sem Op Lib Jvm.Free Jvm.Stand Jvm.LawKit Jvm.RoadKit Bundle
section Wide
variable {p : Program} {l : Launch} {e : Env} {R : Room} {s : State} {m : MethodId} {args : Array Value} {below : List Frame} {meth : Method} {c : Code} {T : State} {locs : List Loc} {cells slots : Nat} {Z : State} {a0 : Array Value} {h h0 : Heap} {EL : List (String × Nat)} {vm0 : Vm} {k0 : Nat}
/-- the end of a walk that may intern -/
def QW (Z : State) (EL : List (String × Nat)) (s : State) (rm : Room) (Q : Option Value → Heap → List Loc → Prop) (o : Outcome) (U' : State) : Prop := ∃ v L, o = .returned v ∧ Q v U'.heap L ∧ CHr Z EL s.vm s.heap U'.vm U'.heap ∧ ReturnedEndW s o U' L rm.cells rm.slots
abbrev CW (l : Launch) (Z : State) (EL : List (String × Nat)) (y : MethodName) (ws : List Jvm.Cond) (rm : Room) (as : Array Value) (h0 : Heap) (Q : Option Value → Heap → List Loc → Prop) : Prop :=
  MetFree l y (head1 ws rm) (fun a U => a = as ∧ Z.Warmed39 U.vm ∧ U.heap = h0 ∧ CHv Z EL U.vm h0) (fun _ _ _ _ _ => True) (fun _ U o U' => ∃ v L, o = .returned v ∧ Q v U'.heap L ∧ CHr Z EL U.vm U.heap U'.vm U'.heap ∧ ReturnedEndW U o U' L rm.cells rm.slots)
theorem CW.of {y : MethodName} {bytes : ByteArray} {maxL : Nat} {ret : Option FieldType} {ws : List Jvm.Cond} {rm : Room} {as : Array Value} {Q : Option Value → Heap → List Loc → Prop} {L0 : Array Slot}
    (hp : plainFor y = true) (ef : ∀ m, entryFrame m as maxL = mkF m 0 L0 [])
    (body : ∀ (p : Program) (e : Env) (s : State) (m : MethodId) (below : List Frame) (meth : Method) (c : Code) (s₁ : State), p.tables.exec = Jvm.exec → c.code = bytes → c.maxLocals = maxL → meth.sig.returnType = ret → meth.locks = false → Z.Warmed39 s.vm → s.vm.findClass y.cls = some m.cls → meth.name = y.name → Stand p l e rm (s.setVm s.vm) m as below meth c s₁ [] 0 0 → s₁.heap = h0 → s.Since s.vm h0.size → h0.size ≤ h0.size → CHv Z EL s.vm h0 → s.heap = h0 → Go p e below (QW Z EL s rm Q) (s₁.setTop (mkF m 0 L0 []))) :
    CW l Z EL y (Jvm.Cond.code y bytes maxL ret :: ws) rm as h0 Q := by
  refine MetFree.of_bodySF hp hisR ?_
  intro p e s m args below meth c s₁ Bd hml0 hP hK
  obtain ⟨rfl, hZ, hh, hC⟩ := hP
  have q := body p e s m below meth c s₁ Bd.exec Bd.bytes hml0 Bd.returns Bd.notSynchronized hZ (findClass_of_methodNamed Bd.named) (name_of_methodNamed Bd.named Bd.method).1 (Stand.of_body Bd) (by rw [← hh, Bd.state]; rfl) (State.WarmedH.since (State.WarmedH.refl s) _) (Nat.le_refl _) hC hh
  rw [← ef m] at q
  exact q
theorem Go.retW {Q : Option Value → Heap → List Loc → Prop} {rm : Room} {t : State} (X : Stand p l e R (s.setVm vm0) m args below meth c T locs cells slots) (eT : T.heap = h) (hS : s.Since vm0 k0) (hk : k0 ≤ h.size) (hZ : Z.Warmed39 vm0) (hEL : EW Z a0 EL) (hh0 : s.heap = h0) (HC : CHr Z EL s.vm h0 vm0 h) (hlk : meth.locks = false) (v : Option Value) (hv : meth.sig.returnType = none → v = none) (hc : cells ≤ rm.cells) (hs : slots ≤ rm.slots) (q : Q v T.heap locs)
    (st : ∀ fs, (∀ (f : JFrame) (acts : List Action), f.method = m → f.locked = none → f.entered = [] → (doReturn e (T.setTop f) acts v).1 = T.setFrames fs) → Steps p.tables e below t (T.setFrames fs)) : Go p e below (QW Z EL s rm Q) t := by
  subst eT hh0
  obtain ⟨fs, hr, hrun, hended, hR⟩ := X.leaveW hS hk (v := v) hv hlk
  have q2 : CHr Z EL vm0 T.heap T.vm T.heap := CHv.at X hZ hEL HC.1
  exact ⟨_, _, st fs hr, hrun, hended, v, locs, rfl, q, HC.trans q2, hR.1, hR.2.1, hR.2.2.1, hR.2.2.2.mono hc hs⟩
theorem Go.retVW {Q : Option Value → Heap → List Loc → Prop} {rm : Room} (X : Stand p l e R (s.setVm vm0) m args below meth c T locs cells slots) (eT : T.heap = h) (hS : s.Since vm0 k0) (hk : k0 ≤ h.size) (hZ : Z.Warmed39 vm0) (hEL : EW Z a0 EL) (hh0 : s.heap = h0) (HC : CHr Z EL s.vm h0 vm0 h) (hx : p.tables.exec = Jvm.exec) (hlk : meth.locks = false) {pc : Nat} {Ls : Array Slot} {w : Value} {t : FieldType} {i : Instr} {rest : List Value} (hret : meth.sig.returnType = some t) (hn : narrow t w = w)
    (hi : (i = .ireturn ∧ (t = .int ∨ t = .boolean ∨ t = .byte ∨ t = .char ∨ t = .short) ∧ ∃ z, w = .int z) ∨ (i = .lreturn ∧ t = .long ∧ ∃ z, w = .long z) ∨ (i = .dreturn ∧ t = .double ∧ ∃ z, w = .double z) ∨ (i = .freturn ∧ t = .float ∧ ∃ z, w = .float z) ∨ (i = .areturn ∧ t.isReference = true ∧ w.isRef = true))
    (hd : decode c.code pc = .ok (i, 1)) (hc : cells ≤ rm.cells) (hs : slots ≤ rm.slots) (q : Q (some w) T.heap locs) : Go p e below (QW Z EL s rm Q) (T.setTop (mkF m pc Ls (w :: rest))) :=
  Go.retW X eT hS hk hZ hEL hh0 HC hlk (some w) (fun h => by rw [hret] at h; cases h) hc hs q fun fs hr => retOut X hx hret hn hi hd hr
theorem Go.ret0W {Q : Option Value → Heap → List Loc → Prop} {rm : Room} (X : Stand p l e R (s.setVm vm0) m args below meth c T locs cells slots) (eT : T.heap = h) (hS : s.Since vm0 k0) (hk : k0 ≤ h.size) (hZ : Z.Warmed39 vm0) (hEL : EW Z a0 EL) (hh0 : s.heap = h0) (HC : CHr Z EL s.vm h0 vm0 h) (hx : p.tables.exec = Jvm.exec) (hlk : meth.locks = false) {pc : Nat} {Ls : Array Slot} (hret : meth.sig.returnType = none)
    (hd : decode c.code pc = .ok (.return_, 1)) (hc : cells ≤ rm.cells) (hs : slots ≤ rm.slots) (q : Q none T.heap locs) : Go p e below (QW Z EL s rm Q) (T.setTop (mkF m pc Ls [])) :=
  Go.retW X eT hS hk hZ hEL hh0 HC hlk none (fun _ => rfl) hc hs q fun fs hr => X.returnOut hx hret hd hr
/-- a String whose value isn't set yet is no booked one -/
theorem own_safe_null {x : Addr} {k : Nat} {vm : Vm} (hal : Z.vm.Alike vm) (E : Exa Z h x "java/lang/String") (F : Fld Z h x "java/lang/String" "value" "[B" .null) (wi : (Jvm.Cond.instantiable "java/lang/String" k).before a0 Z = true) : Safe Z EL vm h x := fun B => by
  obtain ⟨p, -, u, a, -, q, -, G, rfl | rfl⟩ := B
  · obtain ⟨cell, cf, k1, i, f, e1, e2, e3, e4, e5, e6, e7⟩ := F
    cases (show h[q.sa]? = some q.sC from G.ha).symm.trans e1
    obtain ⟨cS, ⟨⟨s1, s2, s3, ⟨cv, kv, iv, s4, s4'⟩, ⟨cc, kc, ic, s5, s5'⟩, s6, s7, s8, s9, r⟩, hfS, hcS⟩, r2⟩ := G
    obtain ⟨kv', z4⟩ := ff_back (U := Wst Z vm h) hal s4
    have e8 := e2.symm.trans z4
    simp only [Option.some.injEq, Prod.mk.injEq] at e8
    rw [e8.2.2.2, s8] at e7
    cases e7
  · obtain ⟨cell, k1, e1, e2, e3, -, -⟩ := E
    cases (show h[q.sd]? = some q.SA from G.hd).symm.trans e1
    obtain ⟨cS, -, -, f, -⟩ := G
    have f : vm.findClass "[B" = some q.SA.cls := f
    rw [hal.findClass] at f
    obtain ⟨k2, q1, q2⟩ := Vm.findClass_spec f
    obtain ⟨k3, q3, q4⟩ := Vm.findClass_spec e2
    cases q1.symm.trans q3
    exact absurd (q2.symm.trans q4) (by decide)
abbrev PayW (l : Launch) (R : Room) (p : Program) (e : Env) (below : List Frame) (Z : State) (EL : List (String × Nat)) (s : State) (vm0 : Vm) (args : Array Value) (y : MethodName) (W : Nat) (as : Array Value) (h : Heap) (kc ks : Nat) (QQ : Option Value → Heap → List Loc → Prop) : Prop :=
  BackS l R p e below (s.setVm vm0) args y 3 W (fun P a => a = as ∧ P.U.heap = h ∧ P.cells + kc ≤ R.cells ∧ P.slots + ks ≤ R.slots) (fun P _ v B => ∃ L, QQ v B.U.heap L ∧ B.locs = P.locs ++ L ∧ B.cells = P.cells + kc ∧ B.slots = P.slots + ks ∧ CHr Z EL vm0 h B.U.vm B.U.heap)
/-- what stands behind a call that may intern -/
abbrev AftW (p : Program) (l : Launch) (e : Env) (R : Room) (s : State) (m : MethodId) (args : Array Value) (below : List Frame) (meth : Method) (c : Code) (T : State) (locs : List Loc) (cells slots : Nat) (Z : State) (EL : List (String × Nat)) (vm0 : Vm) (h : Heap) (own : String) (kc ks : Nat) (QQ : Option Value → Heap → List Loc → Prop) (g : JFrame) (rest : List Value) : Prop :=
  ∃ v T' L, Stand p l e R (s.setVm T'.vm) m args below meth c T' (locs ++ L) (cells + kc) (slots + ks) ∧ QQ v T'.heap L ∧ s.Since T'.vm T'.heap.size ∧ Z.Warmed39 T'.vm ∧ T'.vm.findClass own = some m.cls ∧ CHr Z EL vm0 h T'.vm T'.heap ∧ ∀ u, Steps p.tables e below (T'.setTop { g with pc := g.pc + 3, stack := v.toList ++ rest }) u → Steps p.tables e below (T.setTop g) u
theorem goSW (X : Stand p l e R (s.setVm vm0) m args below meth c T locs cells slots) (hx : p.tables.exec = Jvm.exec) (hZ : Z.Warmed39 vm0) {own : String} {index : Nat} {y : MethodName} {bytes : ByteArray} {maxL : Nat} {ret : Option FieldType} (hown : vm0.findClass own = some m.cls) (hS : s.Since vm0 k0) (hk : k0 ≤ h.size)
    (w1 : (Jvm.Cond.methodLink own index y).before a0 Z = true) (w2 : (Jvm.Cond.static y).before a0 Z = true) (w3 : (Jvm.Cond.initialized y.cls).before a0 Z = true) (w4 : (Jvm.Cond.code y bytes maxL ret).before a0 Z = true) (hy : y.cls ≠ "java/lang/invoke/MethodHandle" ∧ y.cls ≠ "java/lang/invoke/VarHandle")
    {W kc ks : Nat} {as : Array Value} {QQ : Option Value → Heap → List Loc → Prop} (K : PayW l R p e below Z EL s vm0 args y W as h kc ks QQ) (eT : T.heap = h) {g : JFrame} (hg : g.method = m) (hsize : g.locals.size = c.maxLocals) {argsL rest : List Value} (has : argsL.toArray = as)
    (hlen : ∀ sig, parseMethodDescriptor y.desc = some sig → argsL.length = sig.parameters.length) (hstack : g.stack = argsL.reverse ++ rest) (hW : 2 * g.monitorRoom + (rest.map fun v => v.category).sum ≤ W) (hd : decode c.code g.pc = .ok (.invokestatic index, 3)) (hc : cells + kc ≤ R.cells) (hs : slots + ks ≤ R.slots) :
    AftW p l e R s m args below meth c T locs cells slots Z EL vm0 h own kc ks QQ g rest := by
  subst eT
  obtain ⟨v, _, ⟨T', L', k', n'⟩, -, X', h2, gl, ⟨L, hQ, l1, y1, z1, hC⟩, st⟩ := callSS X hx hown (mvT (s := s.setVm vm0) hZ w1) (mvT (s := s.setVm vm0) hZ w2) (mvT (s := s.setVm vm0) hZ w3) (mvT (s := s.setVm vm0) hZ w4) hy K hg hsize hlen hstack hW hd (fun _ _ => ⟨has, rfl, hc, hs⟩)
  try dsimp only [Pt.U, Pt.locs, Pt.cells, Pt.slots] at X' l1 y1 z1 st hQ h2 gl hC
  subst l1 y1 z1
  obtain ⟨a1, a2, a3, a4⟩ := rebS hS hk X' h2 gl hZ hown
  exact ⟨v, T', L, a1, hQ, a2, a3, a4, hC, fun u k => st.trans k⟩
theorem goCW (X : Stand p l e R (s.setVm vm0) m args below meth c T locs cells slots) (hx : p.tables.exec = Jvm.exec) (hZ : Z.Warmed39 vm0) {own : String} {index : Nat} {y : MethodName} {bytes : ByteArray} {maxL : Nat} (hown : vm0.findClass own = some m.cls) (hS : s.Since vm0 k0) (hk : k0 ≤ h.size)
    (hy1 : y.name = "<init>") (w1 : (Jvm.Cond.methodLink own index y).before a0 Z = true) (w2 : (Jvm.Cond.instanceMethod y).before a0 Z = true) (w4 : (Jvm.Cond.code y bytes maxL none).before a0 Z = true) (hy : y.cls ≠ "java/lang/invoke/MethodHandle" ∧ y.cls ≠ "java/lang/invoke/VarHandle")
    {W kc ks : Nat} {as : Array Value} {QQ : Option Value → Heap → List Loc → Prop} (K : PayW l R p e below Z EL s vm0 args y W as h kc ks QQ) (eT : T.heap = h) {g : JFrame} (hg : g.method = m) (hsize : g.locals.size = c.maxLocals) {a : Addr} {argsL rest : List Value} (has : (.ref a :: argsL).toArray = as)
    (hlen : ∀ sig, parseMethodDescriptor y.desc = some sig → argsL.length = sig.parameters.length) (hstack : g.stack = argsL.reverse ++ .ref a :: rest) (hW : 2 * g.monitorRoom + (rest.map fun v => v.category).sum ≤ W) (hd : decode c.code g.pc = .ok (.invokespecial index, 3)) (hc : cells + kc ≤ R.cells) (hs : slots + ks ≤ R.slots) :
    AftW p l e R s m args below meth c T locs cells slots Z EL vm0 h own kc ks QQ g rest := by
  subst eT
  obtain ⟨v, _, ⟨T', L', k', n'⟩, -, X', h2, gl, ⟨L, hQ, l1, y1, z1, hC⟩, st⟩ := X.specialBackS hx hy1 hown (mvT (s := s.setVm vm0) hZ w1) (mvT (s := s.setVm vm0) hZ w2) (mvT (s := s.setVm vm0) hZ w4) hy K hg hsize (Steps.refl _) hlen hstack hW hd (fun _ _ => ⟨has, rfl, hc, hs⟩)
  try dsimp only [Pt.U, Pt.locs, Pt.cells, Pt.slots] at X' l1 y1 z1 st hQ h2 gl hC
  subst l1 y1 z1
  obtain ⟨a1, a2, a3, a4⟩ := rebS hS hk X' h2 gl hZ hown
  exact ⟨v, T', L, a1, hQ, a2, a3, a4, hC, fun u k => st.trans k⟩
theorem goVW (X : Stand p l e R (s.setVm vm0) m args below meth c T locs cells slots) (hx : p.tables.exec = Jvm.exec) (hZ : Z.Warmed39 vm0) {own C : String} {index : Nat} {y z : MethodName} (hown : vm0.findClass own = some m.cls) (hS : s.Since vm0 k0) (hk : k0 ≤ h.size)
    (w1 : (Jvm.Cond.methodLink own index y).before a0 Z = true) (w2 : (Jvm.Cond.declares y).before a0 Z = true) (hnf : NotFace (s.setVm vm0) y) (w3 : (Jvm.Cond.selects C y z).before a0 Z = true) (w4 : (Jvm.Cond.instanceMethod z).before a0 Z = true) (hy : y.cls ≠ "java/lang/invoke/MethodHandle" ∧ y.cls ≠ "java/lang/invoke/VarHandle")
    {W kc ks : Nat} {as : Array Value} {QQ : Option Value → Heap → List Loc → Prop} (K : PayW l R p e below Z EL s vm0 args z W as h kc ks QQ) (eT : T.heap = h) {a : Addr} (E : Exa Z h a C) {g : JFrame} (hg : g.method = m) (hsize : g.locals.size = c.maxLocals) {argsL rest : List Value} (has : (.ref a :: argsL).toArray = as)
    (hlen : ∀ sig, parseMethodDescriptor y.desc = some sig → argsL.length = sig.parameters.length) (hstack : g.stack = argsL.reverse ++ .ref a :: rest) (hW : 2 * g.monitorRoom + (rest.map fun v => v.category).sum ≤ W) (hd : decode c.code g.pc = .ok (.invokevirtual index, 3)) (hc : cells + kc ≤ R.cells) (hs : slots + ks ≤ R.slots) :
    AftW p l e R s m args below meth c T locs cells slots Z EL vm0 h own kc ks QQ g rest := by
  subst eT
  obtain ⟨cB, kB, q1, q2, q3⟩ := isOf (s := s.setVm vm0) hZ rfl E
  obtain ⟨v, _, ⟨T', L', k', n'⟩, -, X', h2, gl, ⟨L, hQ, l1, y1, z1, hC⟩, st⟩ := X.virtualBackS hx hown (mvT (s := s.setVm vm0) hZ w1) (mvT (s := s.setVm vm0) hZ w2) hnf (mvT (s := s.setVm vm0) hZ w3) (mvT (s := s.setVm vm0) hZ w4) hy K q1 q3 hg hsize (Steps.refl _) hlen hstack hW hd (fun _ _ => ⟨has, rfl, hc, hs⟩)
  try dsimp only [Pt.U, Pt.locs, Pt.cells, Pt.slots] at X' l1 y1 z1 st hQ h2 gl hC
  subst l1 y1 z1
  obtain ⟨a1, a2, a3, a4⟩ := rebS hS hk X' h2 gl hZ hown
  exact ⟨v, T', L, a1, hQ, a2, a3, a4, hC, fun u k => st.trans k⟩
end Wide
end Jvm.Own
namespace Jvm.Own
open Jvm Jvm.ClassFile Sem Op Lib Jvm.Free Jvm.Stand Jvm.LawKit Jvm.RoadKit Bundle
section Strs
variable {Z : State} {h h' : Heap} {x : Addr} {cs : List Int32} {B B' : Nat} {a : Addr} {sl : Nat} {v : Value} {ws : List Addr}
/-- at x stands a String of the chars cs (each 0 to 255), it and its array below B -/
def Str (Z : State) (B : Nat) (h : Heap) (x : Addr) (cs : List Int32) : Prop := ∃ (t : Addr) (kb : ClassId), x < B ∧ t < B ∧ Exa Z h x "java/lang/String" ∧ Fld Z h x "java/lang/String" "value" "[B" (.ref t) ∧ Fld Z h x "java/lang/String" "coder" "B" (.int 0) ∧ Arv Z h t kb .byte (Int32.ofNat cs.length) ((cs.map fun c => c.toInt8.toInt32).map Value.int) (.int 0) ∧ (∀ c ∈ cs, ¬ c < 0 ∧ ¬ (255 : Int32) < c) ∧ cs.length ≤ 4000
theorem Str.ext (F : Str Z B h x cs) (E : Ext h h') : Str Z B h' x cs := by
  obtain ⟨t, kb, h1, h2, a, b, c, d, r⟩ := F; exact ⟨t, kb, h1, h2, a.ext E, b.ext E, c.ext E, d.ext E, r⟩
theorem Str.wr (F : Str Z B h x cs) (W : Wr h h' a sl v) (q : B ≤ a) : Str Z B h' x cs := by
  obtain ⟨t, kb, h1, h2, a, b, c, d, r⟩ := F
  exact ⟨t, kb, h1, h2, a.wr W, b.other W (Or.inl (Nat.ne_of_lt (Nat.lt_of_lt_of_le h1 q))), c.other W (Or.inl (Nat.ne_of_lt (Nat.lt_of_lt_of_le h1 q))), d.other W (Nat.ne_of_lt (Nat.lt_of_lt_of_le h2 q)), r⟩
theorem Str.wrE {C : String} {k : Nat} {a0 : Array Value} (F : Str Z B h x cs) (W : Wr h h' a sl v) (E : Exa Z h a C) (hC : C ≠ "java/lang/String") (wi : (Jvm.Cond.instantiable C k).before a0 Z = true) : Str Z B h' x cs := by
  obtain ⟨t, kb, h1, h2, a, b, c, d, r⟩ := F
  have n1 := (ne_exa E a hC).symm
  exact ⟨t, kb, h1, h2, a.wr W, b.other W (Or.inl n1), c.other W (Or.inl n1), d.other W (Exa.neArv E d wi).symm, r⟩
theorem Str.keep (F : Str Z B h x cs) (K : Keep h h' ws) (q : ∀ w ∈ ws, B ≤ w) : Str Z B h' x cs := by
  obtain ⟨t, kb, h1, h2, a, b, c, d, r⟩ := F
  have n1 : x ∉ ws := fun z => absurd h1 (Nat.not_lt.mpr (q _ z))
  have n2 : t ∉ ws := fun z => absurd h2 (Nat.not_lt.mpr (q _ z))
  exact ⟨t, kb, h1, h2, a.keep K, b.keep K n1, c.keep K n1, d.keep K n2, r⟩
theorem Str.keepE (F : Str Z B h x cs) (K : Keep h h' ws) (q : ∀ w ∈ ws, B ≤ w ∨ ∃ (C : String) (k : Nat) (a0 : Array Value), Exa Z h w C ∧ C ≠ "java/lang/String" ∧ (Jvm.Cond.instantiable C k).before a0 Z = true) : Str Z B h' x cs := by
  obtain ⟨t, kb, h1, h2, a, b, c, d, r⟩ := F
  have n1 : x ∉ ws := fun z => (q _ z).elim (fun u => absurd h1 (Nat.not_lt.mpr u)) (fun ⟨C, k, a0, E, hC, wi⟩ => ne_exa E a hC rfl)
  have n2 : t ∉ ws := fun z => (q _ z).elim (fun u => absurd h2 (Nat.not_lt.mpr u)) (fun ⟨C, k, a0, E, hC, wi⟩ => Exa.neArv E d wi rfl)
  exact ⟨t, kb, h1, h2, a.keep K, b.keep K n1, c.keep K n1, d.keep K n2, r⟩
theorem Str.mono (F : Str Z B h x cs) (q : B ≤ B') : Str Z B' h x cs := by
  obtain ⟨t, kb, h1, h2, r⟩ := F; exact ⟨t, kb, Nat.lt_of_lt_of_le h1 q, Nat.lt_of_lt_of_le h2 q, r⟩
theorem Str.lt (F : Str Z B h x cs) : x < B := by obtain ⟨t, kb, h1, r⟩ := F; exact h1
theorem Str.exa (F : Str Z B h x cs) : Exa Z h x "java/lang/String" := by obtain ⟨t, kb, h1, h2, a, r⟩ := F; exact a
theorem Str.lat (F : Str Z B h x cs) : ∀ c ∈ cs, ¬ c < 0 ∧ ¬ (255 : Int32) < c := by obtain ⟨t, kb, h1, h2, a, b, c, d, r, -⟩ := F; exact r
theorem Str.le4 (F : Str Z B h x cs) : cs.length ≤ 4000 := by obtain ⟨t, kb, h1, h2, a, b, c, d, r, q⟩ := F; exact q
theorem up255 {cs : List Int32} (hp : ∀ c ∈ cs, ¬ c < 0 ∧ ¬ (255 : Int32) < c) : ∀ c ∈ cs, ¬ c < 0 ∧ ¬ (65535 : Int32) < c := fun c hc => ⟨(hp c hc).1, fun q => (hp c hc).2 (by
  rw [Int32.lt_iff_toInt_lt] at q ⊢
  have e1 : (65535 : Int32).toInt = 65535 := by decide
  have e2 : (255 : Int32).toInt = 255 := by decide
  omega)⟩
end Strs
end Jvm.Own
namespace Jvm.Own
open Jvm Jvm.ClassFile Sem Op Lib Jvm.Free Jvm.Stand Jvm.LawKit Jvm.RoadKit Bundle
section Olds
variable {s : State} {args : Array Value} {t : Term} {a : Addr} {cl : Cell} {ty : FieldType}
theorem own_fit (hh : Jvm.Pilot.@@N@@.Jvm.D.heapFits s = true) : Fit s := by
  intro x c hc i hi
  obtain ⟨hx, rfl⟩ := Array.getElem?_eq_some_iff.mp hc
  have h1 := (Array.all_eq_true.mp hh) x hx
  have h2 := List.all_eq_true.mp h1 i (List.mem_range.mpr hi)
  rw [Array.getElem?_eq_getElem hi] at h2
  exact h2
theorem eqv_r {X F : Term} {y : Addr} (hF : F.eval args s none [] s = some (.ref y)) (h : (Jvm.Cond.eq X F).value args s none s [] = some true) : X.eval args s none [] s = some (.ref y) := Cond.eq_refs (beq_iff_eq.mpr h) hF rfl
theorem len_cell {z : Int32} (ev : t.eval args s none [] s = some (.ref a)) (h : (Jvm.Cond.eq (.length t) (.int z)).value args s none s [] = some true) (A : Arr s s.heap a cl ty) : cl.slots.size < 2 ^ 31 ∧ cl.slots.size.toInt32 = z := by
  have h := eqv_i (Term.int_eval z) h
  obtain ⟨a', c', e1, e2, e3⟩ := Term.length_spec h
  cases ev.symm.trans e1
  cases (arrayAt_spec e2).1.symm.trans A.1
  by_cases q : cl.slots.size < 2 ^ 31
  · exact ⟨q, (Value.int.inj e3).symm⟩
  · simp [Term.eval, ev, e2, q] at h
theorem el_at {j : Int32} {v : Value} {n : Nat} (h : (Term.elem t (.int j)).eval args s none [] s = some v) (ev : t.eval args s none [] s = some (.ref a)) (A : Arr s s.heap a cl ty) (e : j.toNatClampNeg = n) : cl.slots[n]? = some v := e ▸ (elem_in h ev (Term.int_eval j) A.1).2
theorem el_i {j y : Int32} {n : Nat} (h : (Jvm.Cond.eq (.elem t (.int j)) (.int y)).value args s none s [] = some true) (ev : t.eval args s none [] s = some (.ref a)) (A : Arr s s.heap a cl ty) (e : j.toNatClampNeg = n) : cl.slots[n]? = some (.int y) := el_at (eqv_i (Term.int_eval y) h) ev A e
theorem el_r {j : Int32} {F : Term} {y : Addr} {n : Nat} (h : (Jvm.Cond.eq (.elem t (.int j)) F).value args s none s [] = some true) (hF : F.eval args s none [] s = some (.ref y)) (ev : t.eval args s none [] s = some (.ref a)) (A : Arr s s.heap a cl ty) (e : j.toNatClampNeg = n) : cl.slots[n]? = some (.ref y) := el_at (eqv_r hF h) ev A e
theorem arv_start {z : Int32} {vs : List Value} {dv : Value} (hf : Fit s) (ev : t.eval args s none [] s = some (.ref a)) (hA : (Jvm.Cond.arrayOf t ty).value args s none s [] = some true) (hL : (Jvm.Cond.eq (.length t) (.int z)).value args s none s [] = some true) (hz : ¬ z < 0) (hl : z.toNatClampNeg = vs.length) (H : ∀ cl, Arr s s.heap a cl ty → HasL cl 0 vs) : ∃ k, Arv s s.heap a k ty z vs dv := by
  obtain ⟨cl, A⟩ := Arr.start ev hA
  obtain ⟨q1, q2⟩ := len_cell ev hL A
  exact ⟨_, Arv.start hf A q1 q2 hz hl (H cl A)⟩
/-- a String that stood when the law began, out of the case's words -/
theorem str_start {z : Int32} {cs : List Int32} (hf : Fit s) (ev : t.eval args s none [] s = some (.ref a)) (hX : (Jvm.Cond.exactly t "java/lang/String").value args s none s [] = some true) (hC : (Jvm.Cond.eq (.field t "java/lang/String" "coder" "B") (.int (0 : Int32))).value args s none s [] = some true)
    (hA : (Jvm.Cond.arrayOf (.field t "java/lang/String" "value" "[B") .byte).value args s none s [] = some true) (hL : (Jvm.Cond.eq (.length (.field t "java/lang/String" "value" "[B")) (.int z)).value args s none s [] = some true) (hz : ¬ z < 0) (hl : z.toNatClampNeg = ((cs.map fun c => c.toInt8.toInt32).map Value.int).length) (hzz : z = Int32.ofNat cs.length) (hlat : ∀ c ∈ cs, ¬ c < 0 ∧ ¬ (255 : Int32) < c) (h4 : cs.length ≤ 4000)
    (H : ∀ b cl, (Term.field t "java/lang/String" "value" "[B").eval args s none [] s = some (.ref b) → Arr s s.heap b cl .byte → HasL cl 0 ((cs.map fun c => c.toInt8.toInt32).map Value.int)) : Str s s.heap.size s.heap a cs := by
  obtain ⟨b, eb⟩ := arr_v hA
  obtain ⟨k, V⟩ := arv_start (dv := .int 0) hf eb hA hL hz hl (fun cl A => H b cl eb A)
  have E := Exa.start ev hX
  refine ⟨b, k, E.lt, V.lt, E, Fld.start (by rw [← fld_at ev]; exact eb), fld_i ev hC, by rw [← hzz]; exact V, hlat, h4⟩
end Olds
end Jvm.Own
/- laws to paste: Road.backV, Road.lenW, Road.chN, Road.eqW, Road.codOf (cut by pick.py; bodies as the Statement names them) -/
namespace Jvm.Pilot.@@N@@
namespace StrChars
open Jvm Sem ClassFile Op Lib Jvm.Stand Jvm.Free.XT Jvm.Free.ALB Jvm.Free.JM Jvm.Free
open Jvm.Lib.Cold (StaticIs)
/-- a char array whose places are chars -/
def Ch (a : Addr) (A : Cell) (U : State) : Prop := Arr .char a A U ∧ Typed .char A
theorem Ch.mv {a : Addr} {A : Cell} {U U' : State} (h : Ch a A U) (hal : U.vm.Alike U'.vm) (hh : U'.heap = U.heap) : Ch a A U' := ⟨h.1.mv hal hh, h.2⟩
theorem Ch.keep {a : Addr} {A : Cell} {U U' : State} (h : Ch a A U) (hal : U.vm.Alike U'.vm) (hk : U'.heap[a]? = some A) : Ch a A U' := ⟨h.1.keep hal hk, h.2⟩
/-- what place i of a char[]'s cell holds -/
def cv (A : Cell) (i : Nat) : Int32 := match A.slots[i]? with | some (.int x) => x | _ => 0
theorem Ch.get {a : Addr} {A : Cell} {U : State} (h : Ch a A U) {i : Nat} (hi : i < A.slots.size) : A.slots[i]? = some (.int (cv A i)) := by
  have e := Array.getElem?_eq_getElem hi
  have f := h.2 i _ e
  unfold cv; rw [e]
  generalize A.slots[i] = v at f
  cases v <;> simp [fits] at f ⊢
/-- the byte that i2b leaves of a char -/
def lo8 (x : Int32) : Int32 := x.toInt8.toInt32
theorem fits_lo8 (y : Int32) : fits .byte (.int (lo8 y)) = true := by
  have h1 := y.toInt8.le_toInt
  have h2 := y.toInt8.toInt_lt
  simp only [lo8, fits, Bool.and_eq_true, decide_eq_true_eq, Int32.le_iff_toInt_le, Int8.toInt_toInt32, show (-128 : Int32).toInt = -128 from by decide, show (127 : Int32).toInt = 127 from by decide]
  omega
/-- A' is A but that each place j of lo .. hi - 1 holds f j -/
def Laid (A A' : Cell) (lo hi : Nat) (f : Nat → Value) : Prop := A'.cls = A.cls ∧ A'.vm = A.vm ∧ A'.slots.size = A.slots.size ∧ ∀ i, A'.slots[i]? = if lo ≤ i ∧ i < hi then some (f i) else A.slots[i]?
theorem Laid.zero (A : Cell) (lo : Nat) (f : Nat → Value) : Laid A A lo (lo + 0) f := ⟨rfl, rfl, rfl, fun i => by rw [if_neg (by omega)]⟩
theorem Laid.step {A Ak : Cell} {lo k : Nat} {f : Nat → Value} {v : Value} (h : Laid A Ak lo k f) (hlo : lo ≤ k) (hk : k < Ak.slots.size) (hv : v = f k) : Laid A (Ak.setSlot k v) lo (k + 1) f := by
  refine ⟨h.1, h.2.1, by simpa [Cell.setSlot] using h.2.2.1, fun i => ?_⟩
  by_cases e : k = i
  · subst e; rw [Cell.slots_setSlot_self v hk, if_pos (by omega), hv]
  · rw [Cell.slots_setSlot_ne v e, h.2.2.2 i]
    by_cases q : lo ≤ i ∧ i < k
    · rw [if_pos q, if_pos (by omega)]
    · rw [if_neg q, if_neg (by omega)]
def U16 : String := "java/lang/StringUTF16"
namespace Cmp5
def yN : MethodName := ⟨"java/lang/StringUTF16", "compress", "([CI[BII)I"⟩
abbrev yB : ByteArray := jdk_52_method_21_code
theorem d0 : decode yB 0 = .ok (.iconst 0, 1) := by decide +kernel
theorem d1 : decode yB 1 = .ok (.istore 5, 2) := by decide +kernel
theorem d3 : decode yB 3 = .ok (.iload 5, 2) := by decide +kernel
theorem d5 : decode yB 5 = .ok (.iload 4, 2) := by decide +kernel
theorem d7 : decode yB 7 = .ok (.if_icmp (.ge) 37, 3) := by decide +kernel
theorem d10 : decode yB 10 = .ok (.aload_n 0, 1) := by decide +kernel
theorem d11 : decode yB 11 = .ok (.iload_n 1, 1) := by decide +kernel
theorem d12 : decode yB 12 = .ok (.caload, 1) := by decide +kernel
theorem d13 : decode yB 13 = .ok (.istore 6, 2) := by decide +kernel
theorem d15 : decode yB 15 = .ok (.iload 6, 2) := by decide +kernel
theorem d17 : decode yB 17 = .ok (.sipush 255, 3) := by decide +kernel
theorem d20 : decode yB 20 = .ok (.if_icmp (.le) 6, 3) := by decide +kernel
theorem d26 : decode yB 26 = .ok (.aload_n 2, 1) := by decide +kernel
theorem d27 : decode yB 27 = .ok (.iload_n 3, 1) := by decide +kernel
theorem d28 : decode yB 28 = .ok (.iload 6, 2) := by decide +kernel
theorem d30 : decode yB 30 = .ok (.i2b, 1) := by decide +kernel
theorem d31 : decode yB 31 = .ok (.bastore, 1) := by decide +kernel
theorem d32 : decode yB 32 = .ok (.iinc 1 1, 3) := by decide +kernel
theorem d35 : decode yB 35 = .ok (.iinc 3 1, 3) := by decide +kernel
theorem d38 : decode yB 38 = .ok (.iinc 5 1, 3) := by decide +kernel
theorem d41 : decode yB 41 = .ok (.goto (-38), 3) := by decide +kernel
theorem d44 : decode yB 44 = .ok (.iload 4, 2) := by decide +kernel
theorem d46 : decode yB 46 = .ok (.ireturn, 1) := by decide +kernel
def site : List Cond := []
def tab : Cond := tabOf yN yB 7 (some .int) site
def P (b : Addr) (A : Cell) (d : Addr) (B : Cell) (o q len : Nat) (args : Array Value) (s : State) : Prop := args = #[.ref b, .int (Int32.ofNat o), .ref d, .int (Int32.ofNat q), .int (Int32.ofNat len)] ∧ Ch b A s ∧ Arr .byte d B s ∧ b ≠ d ∧ o + len ≤ A.slots.size ∧ q + len ≤ B.slots.size ∧ ∀ i, i < len → ¬ 255 < cv A (o + i)
def E (b : Addr) (A : Cell) (d : Addr) (B : Cell) (o q len : Nat) (r : Option Value) (s u : State) : Prop := r = some (.int (Int32.ofNat len)) ∧ ∃ B', Put d B' s u ∧ Laid B B' q (q + len) (fun j => Value.int (lo8 (cv A (o + (j - q)))))
/-- no char of the range above 255: len; the places written hold each char's low byte -/
theorem law (l : Launch) (b : Addr) (A : Cell) (d : Addr) (B : Cell) (o q len : Nat) : Law l yN 5 5 0 0 yB 7 (some .int) site (P b A d B o q len) (E b A d B o q len) (copyLocs d q len) 0 0 := by
  refine Law.of_walk (plainFor_of_name (by decide +kernel)) (by decide +kernel) (by decide +kernel) (by decide) (fun _ _ h => by rw [h.1]; rfl) (fun _ U U' hal hh h => ⟨h.1, h.2.1.mv hal hh, h.2.2.1.mv hal hh, h.2.2.2⟩) (fun r U U' V V' h1 hal h2 h => ⟨h.1, h.2.elim fun B' q => ⟨B', q.1.mv h1 h2, q.2⟩⟩) ?_
  intro p e s m args below meth c s₁ X0 hexec hbytes hml hret hlk hnm hown hh0 W hP
  obtain ⟨rfl, hA, hB, hne, l1, l2, hp⟩ := hP
  have c1 : Steps p.tables e below (s₁.setTop (entryFrame m #[.ref b, .int (Int32.ofNat o), .ref d, .int (Int32.ofNat q), .int (Int32.ofNat len)] 7)) (s₁.setTop (mkF m 0 #[.val (.ref b), .val (.int (Int32.ofNat o)), .val (.ref d), .val (.int (Int32.ofNat q)), .val (.int (Int32.ofNat len)), .unset, .unset] [])) := entry rfl
  have hA0 := hA.1.mv X0.warmed.alike hh0
  have hB0 := hB.mv X0.warmed.alike hh0
  have a31 := hA.1.2.2.2
  have c2 : Steps p.tables e below (s₁.setTop (entryFrame m #[.ref b, .int (Int32.ofNat o), .ref d, .int (Int32.ofNat q), .int (Int32.ofNat len)] 7)) (s₁.setTop (mkF m 3 #[.val (.ref b), .val (.int (Int32.ofNat o)), .val (.ref d), .val (.int (Int32.ofNat q)), .val (.int (Int32.ofNat len)), .val (.int 0), .unset] [])) := c1.trans (by
    refine iconstV X0.here hexec rfl 0 (hb hbytes d0) (by decide) ?_
    refine XS.istore X0.here hexec rfl (hb hbytes d1) rfl rfl ?_
    exact Steps.refl _)
  have loop : ∀ (r i : Nat), i + r = len → ∀ (z : Slot), (z = .unset ∨ ∃ w, z = .val w ∧ w.category = 1) → ∀ (Tl : State) (Bk : Cell), Stand p l e { frames := 0, locals := 0, cells := 0, slots := 0 } s m #[.ref b, .int (Int32.ofNat o), .ref d, .int (Int32.ofNat q), .int (Int32.ofNat len)] below meth c Tl ([] ++ copyLocs d q i) 0 0 → Put d Bk s₁ Tl → Laid B Bk q (q + i) (fun j => Value.int (lo8 (cv A (o + (j - q))))) →
      Steps p.tables e below (s₁.setTop (entryFrame m #[.ref b, .int (Int32.ofNat o), .ref d, .int (Int32.ofNat q), .int (Int32.ofNat len)] 7)) (Tl.setTop (mkF m 3 #[.val (.ref b), .val (.int (Int32.ofNat (o + i))), .val (.ref d), .val (.int (Int32.ofNat (q + i))), .val (.int (Int32.ofNat len)), .val (.int (Int32.ofNat i)), z] [])) → ∃ (T' : State) (B' : Cell) (z' : Slot), Stand p l e { frames := 0, locals := 0, cells := 0, slots := 0 } s m #[.ref b, .int (Int32.ofNat o), .ref d, .int (Int32.ofNat q), .int (Int32.ofNat len)] below meth c T' ([] ++ copyLocs d q len) 0 0 ∧ Put d B' s₁ T' ∧ Laid B B' q (q + len) (fun j => Value.int (lo8 (cv A (o + (j - q))))) ∧
      Steps p.tables e below (s₁.setTop (entryFrame m #[.ref b, .int (Int32.ofNat o), .ref d, .int (Int32.ofNat q), .int (Int32.ofNat len)] 7)) (T'.setTop (mkF m 3 #[.val (.ref b), .val (.int (Int32.ofNat (o + len))), .val (.ref d), .val (.int (Int32.ofNat (q + len))), .val (.int (Int32.ofNat len)), .val (.int (Int32.ofNat len)), z'] [])) := by
    intro r
    induction r with
    | zero =>
      intro i hi z hz Tl Bk Xl pl fl cl
      have hil : i = len := by omega
      rw [hil] at Xl fl cl
      exact ⟨Tl, Bk, z, Xl, pl, fl, cl⟩
    | succ r ih =>
      intro i hi z hz Tl Bk Xl pl fl cl
      have all := X0.warmed.alike.symm.trans Xl.warmed.alike
      have hAl := hA0.keep all (pl.other hne hA0.1)
      have hBk := hB0.like all pl.1 fl.1 fl.2.1 fl.2.2.1
      have hlt : q + i < Bk.slots.size := by rw [fl.2.2.1]; omega
      have c3 : Steps p.tables e below (s₁.setTop (entryFrame m #[.ref b, .int (Int32.ofNat o), .ref d, .int (Int32.ofNat q), .int (Int32.ofNat len)] 7)) (Tl.setTop (mkF m 12 #[.val (.ref b), .val (.int (Int32.ofNat (o + i))), .val (.ref d), .val (.int (Int32.ofNat (q + i))), .val (.int (Int32.ofNat len)), .val (.int (Int32.ofNat i)), z] [.int (Int32.ofNat (o + i)), .ref b])) := cl.trans (by
        refine XS.iload Xl.here hexec rfl (hb hbytes d3) rfl ?_
        refine XS.iload Xl.here hexec rfl (hb hbytes d5) rfl ?_
        refine XS.icmpNo Xl.here hexec rfl (hb hbytes d7) rfl (ii_ge_f (lt32 (by omega) (by omega))) ?_
        refine XS.aloadN Xl.here hexec rfl (hb hbytes d10) rfl rfl ?_
        refine XS.iloadN Xl.here hexec rfl (hb hbytes d11) rfl ?_
        exact Steps.refl _)
      have c4 : Steps p.tables e below (s₁.setTop (entryFrame m #[.ref b, .int (Int32.ofNat o), .ref d, .int (Int32.ofNat q), .int (Int32.ofNat len)] 7)) (Tl.setTop (mkF m 13 #[.val (.ref b), .val (.int (Int32.ofNat (o + i))), .val (.ref d), .val (.int (Int32.ofNat (q + i))), .val (.int (Int32.ofNat len)), .val (.int (Int32.ofNat i)), z] [.int (cv A (o + i))])) := c3.trans (by
        refine Xl.aget hexec hAl rfl (hA.get (i := o + i) (by omega)) rfl rfl (hb hbytes d12) ?_
        exact Steps.refl _)
      have c5 : Steps p.tables e below (s₁.setTop (entryFrame m #[.ref b, .int (Int32.ofNat o), .ref d, .int (Int32.ofNat q), .int (Int32.ofNat len)] 7)) (Tl.setTop (mkF m 15 #[.val (.ref b), .val (.int (Int32.ofNat (o + i))), .val (.ref d), .val (.int (Int32.ofNat (q + i))), .val (.int (Int32.ofNat len)), .val (.int (Int32.ofNat i)), .val (.int (cv A (o + i)))] [])) := c4.trans (by
        refine XS.istoreS Xl.here hexec rfl (hb hbytes d13) rfl rfl hz ?_
        exact Steps.refl _)
      have c6 : Steps p.tables e below (s₁.setTop (entryFrame m #[.ref b, .int (Int32.ofNat o), .ref d, .int (Int32.ofNat q), .int (Int32.ofNat len)] 7)) (Tl.setTop (mkF m 31 #[.val (.ref b), .val (.int (Int32.ofNat (o + i))), .val (.ref d), .val (.int (Int32.ofNat (q + i))), .val (.int (Int32.ofNat len)), .val (.int (Int32.ofNat i)), .val (.int (cv A (o + i)))] [.int (lo8 (cv A (o + i))), .int (Int32.ofNat (q + i)), .ref d])) := c5.trans (by
        refine XS.iload Xl.here hexec rfl (hb hbytes d15) rfl ?_
        refine sipushV Xl.here hexec rfl 255 (hb hbytes d17) (by decide) ?_
        refine XS.icmpYes Xl.here hexec rfl (pc0 := 20) rfl (hb hbytes d20) rfl (ii_le_t (hp i (by omega))) (by decide) rfl ?_
        refine XS.aloadN Xl.here hexec rfl (hb hbytes d26) rfl rfl ?_
        refine XS.iloadN Xl.here hexec rfl (hb hbytes d27) rfl ?_
        refine XS.iload Xl.here hexec rfl (hb hbytes d28) rfl ?_
        refine i2b Xl.here hexec rfl (hb hbytes d30) rfl ?_
        exact Steps.refl _)
      obtain ⟨T7, X7, p7, st7⟩ := Xl.aput hexec hBk rfl hlt rfl (fits_lo8 (cv A (o + i))) (g := (mkF m 31 #[.val (.ref b), .val (.int (Int32.ofNat (o + i))), .val (.ref d), .val (.int (Int32.ofNat (q + i))), .val (.int (Int32.ofNat len)), .val (.int (Int32.ofNat i)), .val (.int (cv A (o + i)))] [.int (lo8 (cv A (o + i))), .int (Int32.ofNat (q + i)), .ref d])) rfl (rest := []) rfl (hb hbytes d31)
      have c8 : Steps p.tables e below (s₁.setTop (entryFrame m #[.ref b, .int (Int32.ofNat o), .ref d, .int (Int32.ofNat q), .int (Int32.ofNat len)] 7)) (T7.setTop (mkF m 32 #[.val (.ref b), .val (.int (Int32.ofNat (o + i))), .val (.ref d), .val (.int (Int32.ofNat (q + i))), .val (.int (Int32.ofNat len)), .val (.int (Int32.ofNat i)), .val (.int (cv A (o + i)))] [])) := c6.trans (st7 _ (Steps.refl _))
      have c9 : Steps p.tables e below (s₁.setTop (entryFrame m #[.ref b, .int (Int32.ofNat o), .ref d, .int (Int32.ofNat q), .int (Int32.ofNat len)] 7)) (T7.setTop (mkF m 3 #[.val (.ref b), .val (.int (Int32.ofNat (o + i) + 1)), .val (.ref d), .val (.int (Int32.ofNat (q + i) + 1)), .val (.int (Int32.ofNat len)), .val (.int (Int32.ofNat i + 1)), .val (.int (cv A (o + i)))] [])) := c8.trans (by
        refine iincV X7.here hexec rfl 1 (hb hbytes d32) (by decide) rfl rfl ?_
        refine iincV X7.here hexec rfl 1 (hb hbytes d35) (by decide) rfl rfl ?_
        refine iincV X7.here hexec rfl 1 (hb hbytes d38) (by decide) rfl rfl ?_
        refine XS.goto X7.here hexec rfl (pc0 := 41) rfl (hb hbytes d41) (by decide) rfl ?_
        exact Steps.refl _)
      have c10 : Steps p.tables e below (s₁.setTop (entryFrame m #[.ref b, .int (Int32.ofNat o), .ref d, .int (Int32.ofNat q), .int (Int32.ofNat len)] 7)) (T7.setTop (mkF m 3 #[.val (.ref b), .val (.int (Int32.ofNat (o + (i + 1)))), .val (.ref d), .val (.int (Int32.ofNat (q + (i + 1)))), .val (.int (Int32.ofNat len)), .val (.int (Int32.ofNat (i + 1))), .val (.int (cv A (o + i)))] [])) := by
        have := c9
        rw [succ32, succ32, succ32] at this
        exact this
      exact ih (i + 1) (by omega) _ (Or.inr ⟨_, rfl, rfl⟩) T7 _ (by rw [copyLocs_step, ← List.append_assoc]; exact X7) (pl.trans p7) (fl.step (by omega) hlt (by simp)) c10
  obtain ⟨T9, B9, z9, X9, p9, f9, g9⟩ := loop len 0 (by omega) .unset (Or.inl rfl) s₁ B (by simpa [copyLocs] using X0) ⟨hB0.1, fun _ _ => rfl, rfl⟩ (Laid.zero _ _ _) c2
  have c11 : Steps p.tables e below (s₁.setTop (entryFrame m #[.ref b, .int (Int32.ofNat o), .ref d, .int (Int32.ofNat q), .int (Int32.ofNat len)] 7)) (T9.setTop (mkF m 46 #[.val (.ref b), .val (.int (Int32.ofNat (o + len))), .val (.ref d), .val (.int (Int32.ofNat (q + len))), .val (.int (Int32.ofNat len)), .val (.int (Int32.ofNat len)), z9] [.int (Int32.ofNat len)])) := g9.trans (by
    refine XS.iload X9.here hexec rfl (hb hbytes d3) rfl ?_
    refine XS.iload X9.here hexec rfl (hb hbytes d5) rfl ?_
    refine XS.icmpYes X9.here hexec rfl (pc0 := 7) rfl (hb hbytes d7) rfl (ii_ge_t (nlt32 (by omega) (Nat.le_refl _))) (by decide) rfl ?_
    refine XS.iload X9.here hexec rfl (hb hbytes d44) rfl ?_
    exact Steps.refl _)
  exact ⟨T9, some (.int (Int32.ofNat len)), _, _, _, X9, by simp, rfl, rfl, (fun h => by cases h), ⟨rfl, B9, p9.from hh0, f9⟩, fun fs hl => c11.trans (X9.ireturnOut hexec hret rfl (Or.inl rfl) (hb hbytes d46) hl)⟩
end Cmp5
namespace Cmp3
def yN : MethodName := ⟨"java/lang/StringUTF16", "compress", "([CII)[B"⟩
abbrev yB : ByteArray := jdk_52_method_16_code
theorem d0 : decode yB 0 = .ok (.iload_n 2, 1) := by decide +kernel
theorem d1 : decode yB 1 = .ok (.newarray .byte, 2) := by decide +kernel
theorem d3 : decode yB 3 = .ok (.astore_n 3, 1) := by decide +kernel
theorem d4 : decode yB 4 = .ok (.aload_n 0, 1) := by decide +kernel
theorem d5 : decode yB 5 = .ok (.iload_n 1, 1) := by decide +kernel
theorem d6 : decode yB 6 = .ok (.aload_n 3, 1) := by decide +kernel
theorem d7 : decode yB 7 = .ok (.iconst 0, 1) := by decide +kernel
theorem d8 : decode yB 8 = .ok (.iload_n 2, 1) := by decide +kernel
theorem d9 : decode yB 9 = .ok (.invokestatic 115, 3) := by decide +kernel
theorem d12 : decode yB 12 = .ok (.istore 4, 2) := by decide +kernel
theorem d14 : decode yB 14 = .ok (.iload 4, 2) := by decide +kernel
theorem d16 : decode yB 16 = .ok (.iload_n 2, 1) := by decide +kernel
theorem d17 : decode yB 17 = .ok (.if_icmp (.eq) 40, 3) := by decide +kernel
theorem d57 : decode yB 57 = .ok (.aload_n 3, 1) := by decide +kernel
theorem d58 : decode yB 58 = .ok (.areturn, 1) := by decide +kernel
def site : List Cond := [.arrayClass .byte, Cmp5.tab] ++ staticW U16 115 Cmp5.yN
def tab : Cond := tabOf yN yB 6 (some (.array .byte)) site
def P (b : Addr) (A : Cell) (o len : Nat) (args : Array Value) (s : State) : Prop := args = #[.ref b, .int (Int32.ofNat o), .int (Int32.ofNat len)] ∧ Ch b A s ∧ o + len ≤ A.slots.size ∧ len ≤ 536870912 ∧ ∀ i, i < len → ¬ 255 < cv A (o + i)
def E (b : Addr) (A : Cell) (o len : Nat) (r : Option Value) (s u : State) : Prop := NewArr .byte "[B" len (fun j => .int (lo8 (cv A (o + j)))) r s u ∧ u.heap.size = s.heap.size + 1
/-- no char of the range above 255: a new byte[] of their low bytes -/
theorem law (l : Launch) (b : Addr) (A : Cell) (o len : Nat) : Law l yN 3 3 1 18 yB 6 (some (.array .byte)) site (P b A o len) (E b A o len) [] 1 len := by
  refine Law.of_walk (plainFor_of_name (by decide +kernel)) (by decide +kernel) (by decide +kernel) (by decide) (fun _ _ h => by rw [h.1]; rfl) (fun _ U U' hal hh h => ⟨h.1, h.2.1.mv hal hh, h.2.2⟩) (fun r U U' V V' h1 hal h2 h => ⟨NewArr.mv r U U' V V' h1 hal h2 h.1, by rw [h1, h2]; exact h.2⟩) ?_
  intro p e s m args below meth c s₁ X0 hexec hbytes hml hret hlk hnm hown hh0 W hP
  obtain ⟨rfl, hA, l1, l2, hp⟩ := hP
  have a31 := hA.1.2.2.2
  have c1 : Steps p.tables e below (s₁.setTop (entryFrame m #[.ref b, .int (Int32.ofNat o), .int (Int32.ofNat len)] 6)) (s₁.setTop (mkF m 0 #[.val (.ref b), .val (.int (Int32.ofNat o)), .val (.int (Int32.ofNat len)), .unset, .unset, .unset] [])) := entry rfl
  have c2 : Steps p.tables e below (s₁.setTop (entryFrame m #[.ref b, .int (Int32.ofNat o), .int (Int32.ofNat len)] 6)) (s₁.setTop (mkF m 1 #[.val (.ref b), .val (.int (Int32.ofNat o)), .val (.int (Int32.ofNat len)), .unset, .unset, .unset] [.int (Int32.ofNat len)])) := c1.trans (by
    refine XS.iloadN X0.here hexec rfl (hb hbytes d0) rfl ?_
    exact Steps.refl _)
  obtain ⟨T3, B3, X3, ba3, bs3, bv3, bh3, bf3, st3⟩ := X0.anew hexec (atype := .byte) (wk W (.arrayClass .byte)) rfl (by show len * 1 ≤ _; omega) (by omega) (g := (mkF m 1 #[.val (.ref b), .val (.int (Int32.ofNat o)), .val (.int (Int32.ofNat len)), .unset, .unset, .unset] [.int (Int32.ofNat len)])) rfl (hb hbytes d1) (rest := []) rfl (Nat.le_refl _) (by show 0 + len ≤ len; omega)
  rw [hh0] at ba3 st3
  have kp3 : XT.Kept s T3 := (XT.Kept.of_eq hh0).push bh3
  have hA3 := hA.keep X3.warmed.alike (kp3 _ _ hA.1.1)
  have hne : b ≠ s.heap.size := hA.1.ne
  have c4 : Steps p.tables e below (s₁.setTop (entryFrame m #[.ref b, .int (Int32.ofNat o), .int (Int32.ofNat len)] 6)) (T3.setTop (mkF m 3 #[.val (.ref b), .val (.int (Int32.ofNat o)), .val (.int (Int32.ofNat len)), .unset, .unset, .unset] [.ref s.heap.size])) := c2.trans (st3 _ (Steps.refl _))
  have c5 : Steps p.tables e below (s₁.setTop (entryFrame m #[.ref b, .int (Int32.ofNat o), .int (Int32.ofNat len)] 6)) (T3.setTop (mkF m 9 #[.val (.ref b), .val (.int (Int32.ofNat o)), .val (.int (Int32.ofNat len)), .val (.ref s.heap.size), .unset, .unset] [.int (Int32.ofNat len), .int 0, .ref s.heap.size, .int (Int32.ofNat o), .ref b])) := c4.trans (by
    refine XS.astoreN X3.here hexec rfl (hb hbytes d3) rfl rfl rfl ?_
    refine XS.aloadN X3.here hexec rfl (hb hbytes d4) rfl rfl ?_
    refine XS.iloadN X3.here hexec rfl (hb hbytes d5) rfl ?_
    refine XS.aloadN X3.here hexec rfl (hb hbytes d6) rfl rfl ?_
    refine iconstV X3.here hexec rfl 0 (hb hbytes d7) (by decide) ?_
    refine XS.iloadN X3.here hexec rfl (hb hbytes d8) rfl ?_
    exact Steps.refl _)
  obtain ⟨v6, T6, X6, E6, g6⟩ := X3.callS hexec (Cmp5.law l b A s.heap.size B3 o 0 len) hown (wks W (staticW U16 115 Cmp5.yN)) (wk W Cmp5.tab) (W := 0) (Nat.le_of_ble_eq_true rfl) (Nat.le_of_ble_eq_true rfl) (Nat.le_refl _) (by show 0 + len + 0 ≤ len; omega) (g := (mkF m 9 #[.val (.ref b), .val (.int (Int32.ofNat o)), .val (.int (Int32.ofNat len)), .val (.ref s.heap.size), .unset, .unset] [.int (Int32.ofNat len), .int (Int32.ofNat 0), .ref s.heap.size, .int (Int32.ofNat o), .ref b])) rfl (by rw [hml]; rfl) c5 (argsL := [.ref b, .int (Int32.ofNat o), .ref s.heap.size, .int (Int32.ofNat 0), .int (Int32.ofNat len)]) (rest := []) rfl rfl (by show 2 * 0 + 0 ≤ _; decide) (hb hbytes d9) (⟨rfl, hA3, ba3, hne, l1, by rw [bs3]; simp, hp⟩)
  obtain ⟨rfl, B6, p6, f6⟩ := E6
  have c7 : Steps p.tables e below (s₁.setTop (entryFrame m #[.ref b, .int (Int32.ofNat o), .int (Int32.ofNat len)] 6)) (T6.setTop (mkF m 12 #[.val (.ref b), .val (.int (Int32.ofNat o)), .val (.int (Int32.ofNat len)), .val (.ref s.heap.size), .unset, .unset] [.int (Int32.ofNat len)])) := g6
  have c8 : Steps p.tables e below (s₁.setTop (entryFrame m #[.ref b, .int (Int32.ofNat o), .int (Int32.ofNat len)] 6)) (T6.setTop (mkF m 58 #[.val (.ref b), .val (.int (Int32.ofNat o)), .val (.int (Int32.ofNat len)), .val (.ref s.heap.size), .val (.int (Int32.ofNat len)), .unset] [.ref s.heap.size])) := c7.trans (by
    refine XS.istore X6.here hexec rfl (hb hbytes d12) rfl rfl ?_
    refine XS.iload X6.here hexec rfl (hb hbytes d14) rfl ?_
    refine XS.iloadN X6.here hexec rfl (hb hbytes d16) rfl ?_
    refine XS.icmpYes X6.here hexec rfl (pc0 := 17) rfl (hb hbytes d17) rfl (ii_eq_t rfl) (by decide) rfl ?_
    refine XS.aloadN X6.here hexec rfl (hb hbytes d57) rfl rfl ?_
    exact Steps.refl _)
  have X8 := X6.wide (L' := []) (cells' := 1) (slots' := len) (fun x hx hlt => by
    simp only [List.nil_append, copyLocs, List.mem_map, List.mem_range] at hx
    obtain ⟨i, -, rfl⟩ := hx
    exact absurd hlt (Nat.lt_irrefl _)) (Nat.le_refl _) (by omega)
  exact ⟨T6, some (.ref s.heap.size), _, _, _, X8, rfl, rfl, rfl, (fun h => by cases h), ⟨⟨rfl, B6, ba3.like (X3.warmed.alike.symm.trans X6.warmed.alike) p6.1 f6.1 f6.2.1 f6.2.2.1, f6.2.1.trans bv3, by rw [X6.warmed.alike.findClass, f6.1]; exact bf3, by rw [f6.2.2.1, bs3]; simp, fun j hj => by rw [f6.2.2.2 j, if_pos (by omega)]; rfl, kp3.put p6 (Nat.le_refl _)⟩, by rw [p6.2.2, bh3, hh0]; simp⟩, fun fs hl => c8.trans (X8.areturnOut hexec rfl hret rfl (hb hbytes d58) hl)⟩
end Cmp3
namespace CodL
def yN : MethodName := ⟨"java/lang/StringUTF16", "coderFromArrayLen", "([BI)B"⟩
abbrev yB : ByteArray := jdk_52_method_15_code
theorem d0 : decode yB 0 = .ok (.iload_n 1, 1) := by decide +kernel
theorem d1 : decode yB 1 = .ok (.aload_n 0, 1) := by decide +kernel
theorem d2 : decode yB 2 = .ok (.arraylength, 1) := by decide +kernel
theorem d3 : decode yB 3 = .ok (.isub, 1) := by decide +kernel
theorem d4 : decode yB 4 = .ok (.bipush 31, 2) := by decide +kernel
theorem d6 : decode yB 6 = .ok (.iushr, 1) := by decide +kernel
theorem d7 : decode yB 7 = .ok (.i2b, 1) := by decide +kernel
theorem d8 : decode yB 8 = .ok (.ireturn, 1) := by decide +kernel
def site : List Cond := []
def tab : Cond := tabOf yN yB 2 (some .byte) site
def P (d : Addr) (B : Cell) (args : Array Value) (s : State) : Prop := args = #[.ref d, .int (Int32.ofNat B.slots.size)] ∧ Arr .byte d B s
def E (r : Option Value) (s u : State) : Prop := XT.PureE (some (.int 0)) r s u
/-- an array as long as the number of chars: LATIN1 -/
theorem law (l : Launch) (d : Addr) (B : Cell) : Law l yN 2 2 0 0 yB 2 (some .byte) site (P d B) E [] 0 0 := by
  refine Law.of_walk (plainFor_of_name (by decide +kernel)) (by decide +kernel) (by decide +kernel) (by decide) (fun _ _ h => by rw [h.1]; rfl) (fun _ U U' hal hh h => ⟨h.1, h.2.mv hal hh⟩) (fun r U U' V V' h1 hal h2 h => XT.PureE.mv r U U' V V' h1 hal h2 h) ?_
  intro p e s m args below meth c s₁ X0 hexec hbytes hml hret hlk hnm hown hh0 W hP
  obtain ⟨rfl, hB⟩ := hP
  have hB0 := hB.mv X0.warmed.alike hh0
  have c1 : Steps p.tables e below (s₁.setTop (entryFrame m #[.ref d, .int (Int32.ofNat B.slots.size)] 2)) (s₁.setTop (mkF m 0 #[.val (.ref d), .val (.int (Int32.ofNat B.slots.size))] [])) := entry rfl
  have c2 : Steps p.tables e below (s₁.setTop (entryFrame m #[.ref d, .int (Int32.ofNat B.slots.size)] 2)) (s₁.setTop (mkF m 2 #[.val (.ref d), .val (.int (Int32.ofNat B.slots.size))] [.ref d, .int (Int32.ofNat B.slots.size)])) := c1.trans (by
    refine XS.iloadN X0.here hexec rfl (hb hbytes d0) rfl ?_
    refine XS.aloadN X0.here hexec rfl (hb hbytes d1) rfl rfl ?_
    exact Steps.refl _)
  have c3 : Steps p.tables e below (s₁.setTop (entryFrame m #[.ref d, .int (Int32.ofNat B.slots.size)] 2)) (s₁.setTop (mkF m 8 #[.val (.ref d), .val (.int (Int32.ofNat B.slots.size))] [.int (lo8 (ushr (Int32.ofNat B.slots.size - Int32.ofNat B.slots.size) 31))])) := c2.trans (by
    refine X0.alen hexec hB0 rfl rfl (hb hbytes d2) ?_
    refine XS.isub X0.here hexec rfl (hb hbytes d3) rfl ?_
    refine bipushV X0.here hexec rfl 31 (hb hbytes d4) (by decide) ?_
    refine iushr X0.here hexec rfl (hb hbytes d6) rfl ?_
    refine i2b X0.here hexec rfl (hb hbytes d7) rfl ?_
    exact Steps.refl _)
  have e0 : lo8 (ushr (Int32.ofNat B.slots.size - Int32.ofNat B.slots.size) 31) = 0 := by rw [Int32.sub_self]; decide
  rw [e0] at c3
  exact ⟨s₁, some (.int 0), _, _, _, X0, rfl, rfl, rfl, (fun h => by cases h), ⟨rfl, hh0⟩, fun fs hl => c3.trans (X0.ireturnOut hexec hret rfl (Or.inr (Or.inr (Or.inl rfl))) (hb hbytes d8) hl)⟩
end CodL
/-- the String at a is Latin-1 over a new byte[] (the heap's one new cell): the low bytes of the len chars of A from o on; every cell but a is kept -/
def Got (a : Addr) (D : Cell) (fV fC : Field) (A : Cell) (o len : Nat) (r : Option Value) (s u : State) : Prop := r = none ∧ ∃ D' V : Cell, Blank "java/lang/String" a D' u ∧ Same D D' [fV.slot, fC.slot] ∧ D'.slots[fV.slot]? = some (.ref s.heap.size) ∧ D'.slots[fC.slot]? = some (.int 0) ∧ Arr .byte s.heap.size V u ∧ V.vm = .none ∧ u.vm.findClass "[B" = some V.cls ∧ V.slots.size = len ∧ (∀ j, j < len → V.slots[j]? = some (.int (lo8 (cv A (o + j))))) ∧ (∀ (y : Addr) (c : Cell), y ≠ a → s.heap[y]? = some c → u.heap[y]? = some c) ∧ u.heap.size = s.heap.size + 1
theorem Got.mv {a : Addr} {D A : Cell} {fV fC : Field} {o len : Nat} : ∀ r (U U' V V' : State), U'.heap = U.heap → V.vm.Alike V'.vm → V'.heap = V.heap → Got a D fV fC A o len r U V → Got a D fV fC A o len r U' V' :=
  fun r U U' V V' h1 hal h2 ⟨e0, D', X, a1, a2, a3, a4, a5, a6, a7, a8, a9, a10, a11⟩ => ⟨e0, D', X, a1.mv hal h2, a2, by rw [h1]; exact a3, a4, by rw [h1]; exact a5.mv hal h2, a6, by rw [hal.findClass]; exact a7, a8, a9, by rw [h1, h2]; exact a10, by rw [h1, h2]; exact a11⟩
namespace New4
def yN : MethodName := ⟨"java/lang/String", "<init>", "([CIILjava/lang/Void;)V"⟩
abbrev yB : ByteArray := jdk_42_method_149_code
theorem d0 : decode yB 0 = .ok (.aload_n 0, 1) := by decide +kernel
theorem d1 : decode yB 1 = .ok (.invokespecial 1, 3) := by decide +kernel
theorem d4 : decode yB 4 = .ok (.iload_n 3, 1) := by decide +kernel
theorem d5 : decode yB 5 = .ok (.ifCond (.ne) 22, 3) := by decide +kernel
theorem d27 : decode yB 27 = .ok (.getstatic 38, 3) := by decide +kernel
theorem d30 : decode yB 30 = .ok (.ifCond (.eq) 28, 3) := by decide +kernel
theorem d33 : decode yB 33 = .ok (.aload_n 1, 1) := by decide +kernel
theorem d34 : decode yB 34 = .ok (.iload_n 2, 1) := by decide +kernel
theorem d35 : decode yB 35 = .ok (.iload_n 3, 1) := by decide +kernel
theorem d36 : decode yB 36 = .ok (.invokestatic 177, 3) := by decide +kernel
theorem d39 : decode yB 39 = .ok (.astore 5, 2) := by decide +kernel
theorem d41 : decode yB 41 = .ok (.aload_n 0, 1) := by decide +kernel
theorem d42 : decode yB 42 = .ok (.aload 5, 2) := by decide +kernel
theorem d44 : decode yB 44 = .ok (.iload_n 3, 1) := by decide +kernel
theorem d45 : decode yB 45 = .ok (.invokestatic 47, 3) := by decide +kernel
theorem d48 : decode yB 48 = .ok (.putfield 15, 3) := by decide +kernel
theorem d51 : decode yB 51 = .ok (.aload_n 0, 1) := by decide +kernel
theorem d52 : decode yB 52 = .ok (.aload 5, 2) := by decide +kernel
theorem d54 : decode yB 54 = .ok (.putfield 9, 3) := by decide +kernel
theorem d57 : decode yB 57 = .ok (.return_, 1) := by decide +kernel
def site : List Cond := [.fieldLink "java/lang/String" 38 "java/lang/String" "COMPACT_STRINGS" "Z", Cmp3.tab, CodL.tab, .laysFinal "java/lang/String" "java/lang/String" "value" "[B", .fieldLink "java/lang/String" 9 "java/lang/String" "value" "[B", .laysFinal "java/lang/String" "java/lang/String" "coder" "B", .fieldLink "java/lang/String" 15 "java/lang/String" "coder" "B"] ++ objW "java/lang/String" 1 ++ staticW "java/lang/String" 177 Cmp3.yN ++ staticW "java/lang/String" 47 CodL.yN
def tab : Cond := tabOf yN yB 6 none site
def P (a : Addr) (D : Cell) (fV fC : Field) (b : Addr) (A : Cell) (z : Int32) (o len : Nat) (args : Array Value) (s : State) : Prop := args = #[.ref a, .ref b, .int (Int32.ofNat o), .int (Int32.ofNat len), .null] ∧ Blank "java/lang/String" a D s ∧ Found "java/lang/String" "value" "[B" fV s ∧ Found "java/lang/String" "coder" "B" fC s ∧ Ch b A s ∧ StaticIs s "java/lang/String" "COMPACT_STRINGS" "Z" (.int z) ∧ ¬ z = 0 ∧ 0 < len ∧ o + len ≤ A.slots.size ∧ len ≤ 536870912 ∧ ∀ i, i < len → ¬ 255 < cv A (o + i)
def E (a : Addr) (D : Cell) (fV fC : Field) (A : Cell) (o len : Nat) (r : Option Value) (s u : State) : Prop := Got a D fV fC A o len r s u
/-- len > 0, no char of the range above 255: a Latin-1 String of their low bytes -/
theorem law (l : Launch) (a : Addr) (D : Cell) (fV fC : Field) (b : Addr) (A : Cell) (z : Int32) (o len : Nat) : Law l yN 5 4 2 35 yB 6 none site (P a D fV fC b A z o len) (E a D fV fC A o len) [⟨a, fC.slot⟩, ⟨a, fV.slot⟩] 1 len := by
  refine Law.of_walk (plainFor_of_name (by decide +kernel)) (by decide +kernel) (by decide +kernel) (by decide) (fun _ _ h => by rw [h.1]; rfl) (fun _ U U' hal hh h => ⟨h.1, h.2.1.mv hal hh, h.2.2.1.al hal, h.2.2.2.1.al hal, h.2.2.2.2.1.mv hal hh, h.2.2.2.2.2.1.there hal hh, h.2.2.2.2.2.2⟩) (fun r U U' V V' h1 hal h2 h => Got.mv r U U' V V' h1 hal h2 h) ?_
  intro p e s m args below meth c s₁ X0 hexec hbytes hml hret hlk hnm hown hh0 W hP
  obtain ⟨rfl, hB, f1, f2, hA, s1, hz, l0, l1, l2, hp⟩ := hP
  have a31 := hA.1.2.2.2
  have c1 : Steps p.tables e below (s₁.setTop (entryFrame m #[.ref a, .ref b, .int (Int32.ofNat o), .int (Int32.ofNat len), .null] 6)) (s₁.setTop (mkF m 0 #[.val (.ref a), .val (.ref b), .val (.int (Int32.ofNat o)), .val (.int (Int32.ofNat len)), .val .null, .unset] [])) := entry rfl
  have c2 : Steps p.tables e below (s₁.setTop (entryFrame m #[.ref a, .ref b, .int (Int32.ofNat o), .int (Int32.ofNat len), .null] 6)) (s₁.setTop (mkF m 1 #[.val (.ref a), .val (.ref b), .val (.int (Int32.ofNat o)), .val (.int (Int32.ofNat len)), .val .null, .unset] [.ref a])) := c1.trans (by
    refine XS.aloadN X0.here hexec rfl (hb hbytes d0) rfl rfl ?_
    exact Steps.refl _)
  obtain ⟨T3, X3, q3, st3⟩ := X0.oinit hexec hown (wks W (objW "java/lang/String" 1)) (g := (mkF m 1 #[.val (.ref a), .val (.ref b), .val (.int (Int32.ofNat o)), .val (.int (Int32.ofNat len)), .val .null, .unset] [.ref a])) rfl (by rw [hml]; rfl) (rest := []) rfl (hb hbytes d1) (W := 0) (by show 2 * 0 + 0 ≤ _; decide) (Nat.le_of_ble_eq_true rfl) (Nat.le_of_ble_eq_true rfl)
  have hh3 := q3.trans hh0
  have c4 : Steps p.tables e below (s₁.setTop (entryFrame m #[.ref a, .ref b, .int (Int32.ofNat o), .int (Int32.ofNat len), .null] 6)) (T3.setTop (mkF m 27 #[.val (.ref a), .val (.ref b), .val (.int (Int32.ofNat o)), .val (.int (Int32.ofNat len)), .val .null, .unset] [])) := (c2.trans (st3 _ (Steps.refl _))).trans (by
    refine XS.iloadN X3.here hexec rfl (hb hbytes d4) rfl ?_
    refine XS.ifYes X3.here hexec rfl (pc0 := 5) rfl (hb hbytes d5) rfl (i0_ne_t (nz32 (by omega) l0)) (by decide) rfl ?_
    exact Steps.refl _)
  obtain ⟨T5, X5, q5, st5⟩ := X3.sget hexec hown (wk W (.fieldLink "java/lang/String" 38 "java/lang/String" "COMPACT_STRINGS" "Z")) s1 (fun _ _ h => by rw [hh3]; exact h) (g := (mkF m 27 #[.val (.ref a), .val (.ref b), .val (.int (Int32.ofNat o)), .val (.int (Int32.ofNat len)), .val .null, .unset] [])) rfl (hb hbytes d27)
  have hh5 := q5.trans hh3
  have c6 : Steps p.tables e below (s₁.setTop (entryFrame m #[.ref a, .ref b, .int (Int32.ofNat o), .int (Int32.ofNat len), .null] 6)) (T5.setTop (mkF m 30 #[.val (.ref a), .val (.ref b), .val (.int (Int32.ofNat o)), .val (.int (Int32.ofNat len)), .val .null, .unset] [.int z])) := c4.trans (st5 _ (Steps.refl _))
  have c7 : Steps p.tables e below (s₁.setTop (entryFrame m #[.ref a, .ref b, .int (Int32.ofNat o), .int (Int32.ofNat len), .null] 6)) (T5.setTop (mkF m 36 #[.val (.ref a), .val (.ref b), .val (.int (Int32.ofNat o)), .val (.int (Int32.ofNat len)), .val .null, .unset] [.int (Int32.ofNat len), .int (Int32.ofNat o), .ref b])) := c6.trans (by
    refine XS.ifNo X5.here hexec rfl (hb hbytes d30) rfl (i0_eq_f hz) ?_
    refine XS.aloadN X5.here hexec rfl (hb hbytes d33) rfl rfl ?_
    refine XS.iloadN X5.here hexec rfl (hb hbytes d34) rfl ?_
    refine XS.iloadN X5.here hexec rfl (hb hbytes d35) rfl ?_
    exact Steps.refl _)
  obtain ⟨v8, T8, X8, E8, g8⟩ := X5.callS hexec (Cmp3.law l b A o len) hown (wks W (staticW "java/lang/String" 177 Cmp3.yN)) (wk W Cmp3.tab) (W := 0) (Nat.le_of_ble_eq_true rfl) (Nat.le_of_ble_eq_true rfl) (Nat.le_refl _) (by show 0 + len ≤ len; omega) (g := (mkF m 36 #[.val (.ref a), .val (.ref b), .val (.int (Int32.ofNat o)), .val (.int (Int32.ofNat len)), .val .null, .unset] [.int (Int32.ofNat len), .int (Int32.ofNat o), .ref b])) rfl (by rw [hml]; rfl) c7 (argsL := [.ref b, .int (Int32.ofNat o), .int (Int32.ofNat len)]) (rest := []) rfl rfl (by show 2 * 0 + 0 ≤ _; decide) (hb hbytes d36) (⟨rfl, hA.mv X5.warmed.alike hh5, l1, l2, hp⟩)
  obtain ⟨e8, z8⟩ := E8
  obtain ⟨rfl, N, n1, n2, n3, n4, n5, n6⟩ := NewArr.mv _ T5 s _ _ hh5.symm (Vm.Alike.refl _) rfl e8
  rw [hh5] at z8
  have hB1 := hB.keep X8.warmed.alike (n6 _ _ hB.1)
  have hne : s.heap.size ≠ a := (Nat.ne_of_lt (Array.getElem?_eq_some_iff.mp hB.1).1).symm
  have c9 : Steps p.tables e below (s₁.setTop (entryFrame m #[.ref a, .ref b, .int (Int32.ofNat o), .int (Int32.ofNat len), .null] 6)) (T8.setTop (mkF m 39 #[.val (.ref a), .val (.ref b), .val (.int (Int32.ofNat o)), .val (.int (Int32.ofNat len)), .val .null, .unset] [.ref s.heap.size])) := g8
  have c10 : Steps p.tables e below (s₁.setTop (entryFrame m #[.ref a, .ref b, .int (Int32.ofNat o), .int (Int32.ofNat len), .null] 6)) (T8.setTop (mkF m 45 #[.val (.ref a), .val (.ref b), .val (.int (Int32.ofNat o)), .val (.int (Int32.ofNat len)), .val .null, .val (.ref s.heap.size)] [.int (Int32.ofNat N.slots.size), .ref s.heap.size, .ref a])) := by
    have hc : Steps p.tables e below (s₁.setTop (entryFrame m #[.ref a, .ref b, .int (Int32.ofNat o), .int (Int32.ofNat len), .null] 6)) (T8.setTop (mkF m 45 #[.val (.ref a), .val (.ref b), .val (.int (Int32.ofNat o)), .val (.int (Int32.ofNat len)), .val .null, .val (.ref s.heap.size)] [.int (Int32.ofNat len), .ref s.heap.size, .ref a])) := c9.trans (by
      refine XS.astore X8.here hexec rfl (hb hbytes d39) rfl rfl rfl ?_
      refine XS.aloadN X8.here hexec rfl (hb hbytes d41) rfl rfl ?_
      refine XS.aload X8.here hexec rfl (hb hbytes d42) rfl rfl ?_
      refine XS.iloadN X8.here hexec rfl (hb hbytes d44) rfl ?_
      exact Steps.refl _)
    rw [n4]; exact hc
  obtain ⟨v11, T11, X11, E11, g11⟩ := X8.callS hexec (CodL.law l s.heap.size N) hown (wks W (staticW "java/lang/String" 47 CodL.yN)) (wk W CodL.tab) (W := 1) (Nat.le_of_ble_eq_true rfl) (Nat.le_of_ble_eq_true rfl) (Nat.le_refl _) (by show 0 + len + 0 ≤ len; omega) (g := (mkF m 45 #[.val (.ref a), .val (.ref b), .val (.int (Int32.ofNat o)), .val (.int (Int32.ofNat len)), .val .null, .val (.ref s.heap.size)] [.int (Int32.ofNat N.slots.size), .ref s.heap.size, .ref a])) rfl (by rw [hml]; rfl) c10 (argsL := [.ref s.heap.size, .int (Int32.ofNat N.slots.size)]) (rest := [.ref a]) rfl rfl (by show 2 * 0 + (1 + 0) ≤ _; decide) (hb hbytes d45) (⟨rfl, n1⟩)
  obtain ⟨rfl, q11⟩ := E11
  have hB11 := hB1.mv (X8.warmed.alike.symm.trans X11.warmed.alike) q11
  have c12 : Steps p.tables e below (s₁.setTop (entryFrame m #[.ref a, .ref b, .int (Int32.ofNat o), .int (Int32.ofNat len), .null] 6)) (T11.setTop (mkF m 48 #[.val (.ref a), .val (.ref b), .val (.int (Int32.ofNat o)), .val (.int (Int32.ofNat len)), .val .null, .val (.ref s.heap.size)] [.int 0, .ref a])) := g11
  obtain ⟨T13, X13, p13, bl13, sl13, st13⟩ := X11.finit hexec hown (wk W (.fieldLink "java/lang/String" 15 "java/lang/String" "coder" "B")) (Or.inr ⟨_, (wk W (.laysFinal "java/lang/String" "java/lang/String" "coder" "B"))⟩) (Or.inl ⟨rfl, hnm⟩) f2 (Or.inl rfl) hB11 (t := .byte) (by decide +kernel) rfl (g := (mkF m 48 #[.val (.ref a), .val (.ref b), .val (.int (Int32.ofNat o)), .val (.int (Int32.ofNat len)), .val .null, .val (.ref s.heap.size)] [.int 0, .ref a])) rfl (rest := []) rfl (hb hbytes d48)
  have c14 : Steps p.tables e below (s₁.setTop (entryFrame m #[.ref a, .ref b, .int (Int32.ofNat o), .int (Int32.ofNat len), .null] 6)) (T13.setTop (mkF m 54 #[.val (.ref a), .val (.ref b), .val (.int (Int32.ofNat o)), .val (.int (Int32.ofNat len)), .val .null, .val (.ref s.heap.size)] [.ref s.heap.size, .ref a])) := (c12.trans (st13 _ (Steps.refl _))).trans (by
    refine XS.aloadN X13.here hexec rfl (hb hbytes d51) rfl rfl ?_
    refine XS.aload X13.here hexec rfl (hb hbytes d52) rfl rfl ?_
    exact Steps.refl _)
  obtain ⟨T15, X15, p15, bl15, sl15, st15⟩ := X13.finit hexec hown (wk W (.fieldLink "java/lang/String" 9 "java/lang/String" "value" "[B")) (Or.inr ⟨_, (wk W (.laysFinal "java/lang/String" "java/lang/String" "value" "[B"))⟩) (Or.inl ⟨rfl, hnm⟩) f1 (Or.inl rfl) bl13 (t := (.array .byte)) (by decide +kernel) rfl (g := (mkF m 54 #[.val (.ref a), .val (.ref b), .val (.int (Int32.ofNat o)), .val (.int (Int32.ofNat len)), .val .null, .val (.ref s.heap.size)] [.ref s.heap.size, .ref a])) rfl (rest := []) rfl (hb hbytes d54)
  have c16 : Steps p.tables e below (s₁.setTop (entryFrame m #[.ref a, .ref b, .int (Int32.ofNat o), .int (Int32.ofNat len), .null] 6)) (T15.setTop (mkF m 57 #[.val (.ref a), .val (.ref b), .val (.int (Int32.ofNat o)), .val (.int (Int32.ofNat len)), .val .null, .val (.ref s.heap.size)] [])) := c14.trans (st15 _ (Steps.refl _))
  have ap := apart (Or.inr ⟨_, (wk W (.laysFinal "java/lang/String" "java/lang/String" "value" "[B"))⟩) (Or.inr ⟨_, (wk W (.laysFinal "java/lang/String" "java/lang/String" "coder" "B"))⟩) f1 f2 (t₁ := .array .byte) (t₂ := .byte) (by decide +kernel) (by decide +kernel) (by decide)
  have al := X8.warmed.alike.symm.trans X15.warmed.alike
  have n7 : T11.heap[s.heap.size]? = some N := by rw [q11]; exact n1.1
  exact ⟨T15, none, _, _, _, X15, by simp, rfl, by omega, (fun _ => rfl), ⟨rfl, _, N, bl15, ((Same.refl D _).set _ (by simp)).set _ (by simp), sl15, (Cell.slots_setSlot_ne _ ap).trans sl13, n1.keep al (p15.other hne (p13.other hne n7)), n2, by rw [al.findClass]; exact n3, n4, n5, fun y c h1 h2 => p15.other h1 (p13.other h1 (by rw [q11]; exact n6 y c h2)), by rw [p15.2.2, p13.2.2, q11]; exact z8⟩, fun fs hl => c16.trans (X15.returnOut hexec hret (hb hbytes d57) hl)⟩
end New4
namespace New1
def yN : MethodName := ⟨"java/lang/String", "<init>", "([C)V"⟩
abbrev yB : ByteArray := jdk_42_method_3_code
theorem d0 : decode yB 0 = .ok (.aload_n 0, 1) := by decide +kernel
theorem d1 : decode yB 1 = .ok (.aload_n 1, 1) := by decide +kernel
theorem d2 : decode yB 2 = .ok (.iconst 0, 1) := by decide +kernel
theorem d3 : decode yB 3 = .ok (.aload_n 1, 1) := by decide +kernel
theorem d4 : decode yB 4 = .ok (.arraylength, 1) := by decide +kernel
theorem d5 : decode yB 5 = .ok (.aconst_null, 1) := by decide +kernel
theorem d6 : decode yB 6 = .ok (.invokespecial 27, 3) := by decide +kernel
theorem d9 : decode yB 9 = .ok (.return_, 1) := by decide +kernel
def site : List Cond := [New4.tab] ++ initW "java/lang/String" 27 New4.yN
def tab : Cond := tabOf yN yB 2 none site
def P (a : Addr) (D : Cell) (fV fC : Field) (b : Addr) (A : Cell) (z : Int32) (args : Array Value) (s : State) : Prop := args = #[.ref a, .ref b] ∧ Blank "java/lang/String" a D s ∧ Found "java/lang/String" "value" "[B" fV s ∧ Found "java/lang/String" "coder" "B" fC s ∧ Ch b A s ∧ StaticIs s "java/lang/String" "COMPACT_STRINGS" "Z" (.int z) ∧ ¬ z = 0 ∧ 0 < A.slots.size ∧ A.slots.size ≤ 536870912 ∧ ∀ i, i < A.slots.size → ¬ 255 < cv A i
def E (a : Addr) (D : Cell) (fV fC : Field) (A : Cell) (r : Option Value) (s u : State) : Prop := Got a D fV fC A 0 A.slots.size r s u
/-- new String(chars), not empty, no char above 255: a Latin-1 String of their low bytes -/
theorem law (l : Launch) (a : Addr) (D : Cell) (fV fC : Field) (b : Addr) (A : Cell) (z : Int32) : Law l yN 2 1 3 52 yB 2 none site (P a D fV fC b A z) (E a D fV fC A) [⟨a, fC.slot⟩, ⟨a, fV.slot⟩] 1 A.slots.size := by
  refine Law.of_walk (plainFor_of_name (by decide +kernel)) (by decide +kernel) (by decide +kernel) (by decide) (fun _ _ h => by rw [h.1]; rfl) (fun _ U U' hal hh h => ⟨h.1, h.2.1.mv hal hh, h.2.2.1.al hal, h.2.2.2.1.al hal, h.2.2.2.2.1.mv hal hh, h.2.2.2.2.2.1.there hal hh, h.2.2.2.2.2.2⟩) (fun r U U' V V' h1 hal h2 h => Got.mv r U U' V V' h1 hal h2 h) ?_
  intro p e s m args below meth c s₁ X0 hexec hbytes hml hret hlk hnm hown hh0 W hP
  obtain ⟨rfl, hB, f1, f2, hA, s1, hz, l0, l2, hp⟩ := hP
  have c1 : Steps p.tables e below (s₁.setTop (entryFrame m #[.ref a, .ref b] 2)) (s₁.setTop (mkF m 0 #[.val (.ref a), .val (.ref b)] [])) := entry rfl
  have c2 : Steps p.tables e below (s₁.setTop (entryFrame m #[.ref a, .ref b] 2)) (s₁.setTop (mkF m 6 #[.val (.ref a), .val (.ref b)] [.null, .int (Int32.ofNat A.slots.size), .int 0, .ref b, .ref a])) := c1.trans (by
    refine XS.aloadN X0.here hexec rfl (hb hbytes d0) rfl rfl ?_
    refine XS.aloadN X0.here hexec rfl (hb hbytes d1) rfl rfl ?_
    refine iconstV X0.here hexec rfl 0 (hb hbytes d2) (by decide) ?_
    refine XS.aloadN X0.here hexec rfl (hb hbytes d3) rfl rfl ?_
    refine X0.alen hexec (hA.1.mv X0.warmed.alike hh0) rfl rfl (hb hbytes d4) ?_
    refine XS.aconstNull X0.here hexec rfl (hb hbytes d5) ?_
    exact Steps.refl _)
  obtain ⟨v3, T3, X3, E3, g3⟩ := X0.callN hexec (New4.law l a D fV fC b A z 0 A.slots.size) rfl hown (wks W (initW "java/lang/String" 27 New4.yN)) (W New4.tab (by simp only [site, List.mem_cons, List.mem_append, true_or, or_true])) (W := 0) (Nat.le_of_ble_eq_true rfl) (Nat.le_of_ble_eq_true rfl) (Nat.le_refl _) (by show 0 + A.slots.size ≤ A.slots.size; omega) (g := (mkF m 6 #[.val (.ref a), .val (.ref b)] [.null, .int (Int32.ofNat A.slots.size), .int (Int32.ofNat 0), .ref b, .ref a])) rfl (by rw [hml]; rfl) c2 (argsL := [.ref b, .int (Int32.ofNat 0), .int (Int32.ofNat A.slots.size), .null]) (rest := []) rfl rfl (by show 2 * 0 + 0 ≤ _; decide) (hb hbytes d6) (⟨rfl, hB.mv X0.warmed.alike hh0, f1.al X0.warmed.alike, f2.al X0.warmed.alike, hA.mv X0.warmed.alike hh0, s1.there X0.warmed.alike hh0, hz, l0, by omega, l2, fun i hi => by rw [Nat.zero_add]; exact hp i hi⟩)
  have e0 := Got.mv _ s₁ s _ _ hh0.symm (Vm.Alike.refl _) rfl E3
  obtain rfl := e0.1
  have c4 : Steps p.tables e below (s₁.setTop (entryFrame m #[.ref a, .ref b] 2)) (T3.setTop (mkF m 9 #[.val (.ref a), .val (.ref b)] [])) := g3
  exact ⟨T3, none, _, _, _, X3, by simp, rfl, by omega, (fun _ => rfl), e0, fun fs hl => c4.trans (X3.returnOut hexec hret (hb hbytes d9) hl)⟩
theorem pays {l : Launch} {R : Room} {p : Program} {e : Env} {below : List Frame} {s : State} {sargs : Array Value} {len W : Nat} (a : Addr) (D : Cell) (fV fC : Field) (b : Addr) (A : Cell) (z : Int32) (htab : tab.before sargs s = true) (hfr : 4 ≤ R.frames) (hlo : W + 65 ≤ R.locals) :
    Back l R p e below s sargs yN len W (fun A₁ a₁ => A₁.cells + 1 ≤ R.cells ∧ A₁.slots + A.slots.size ≤ R.slots ∧ P a D fV fC b A z a₁ A₁.U) (fun A₁ _ v₁ B₁ => E a D fV fC A v₁ A₁.U B₁.U ∧ B₁.locs = A₁.locs ++ [⟨a, fC.slot⟩, ⟨a, fV.slot⟩] ∧ B₁.cells = A₁.cells + 1 ∧ B₁.slots = A₁.slots + A.slots.size) :=
  (law l a D fV fC b A z).pays htab hfr (by omega)
end New1
/-- the byte, read back as charAt reads it, is the char -/
theorem lo8_mask {x : Int32} (h0 : ¬ x < 0) (h1 : ¬ 255 < x) : lo8 x &&& 255 = x := by
  have t : ∀ k : Fin 256, lo8 (Int32.ofNat k.val) &&& 255 = Int32.ofNat k.val := by decide +kernel
  rw [Int32.lt_iff_toInt_lt] at h0 h1
  have e0 : (0 : Int32).toInt = 0 := rfl
  have e1 : (255 : Int32).toInt = 255 := rfl
  obtain ⟨k, hk⟩ : ∃ k : Nat, x.toInt = k := ⟨x.toInt.toNat, by omega⟩
  have hx : x = Int32.ofNat k := Int32.toInt_inj.mp (by rw [hk, Int32.toInt_ofNat_small (by omega)])
  rw [hx]
  exact t ⟨k, by omega⟩
end StrChars
namespace StrChars.Road
open Jvm Sem ClassFile Op Lib Jvm.Stand Jvm.Free Jvm.Free.XT
open Jvm.Lib.Cold (StaticIs)
abbrev ST : String := "java/lang/String"
/-- every table word that New1's law asks, flat -/
abbrev words : List Jvm.Cond := [.code New1.yN New1.yB 2 none, .initialized ST, .methodLink ST 27 New4.yN, .instanceMethod New4.yN,
  .code New4.yN New4.yB 6 none, .fieldLink ST 38 ST "COMPACT_STRINGS" "Z", .laysFinal ST ST "value" "[B", .fieldLink ST 9 ST "value" "[B", .laysFinal ST ST "coder" "B", .fieldLink ST 15 ST "coder" "B",
  .methodLink ST 1 Lib.objectInit, .instanceMethod Lib.objectInit, .code Lib.objectInit ⟨#[0xb1]⟩ 1 none, .methodLink ST 177 Cmp3.yN, .static Cmp3.yN, .methodLink ST 47 CodL.yN, .static CodL.yN,
  .code Cmp3.yN Cmp3.yB 6 (some (.array .byte)), .initialized U16, .arrayClass .byte, .methodLink U16 115 Cmp5.yN, .static Cmp5.yN, .code Cmp5.yN Cmp5.yB 7 (some .int), .code CodL.yN CodL.yB 2 (some .byte)]
theorem tab_of {a : Array Value} {s : State} (h : ∀ w ∈ words, w.before a s = true) : New1.tab.before a s = true := by
  have h5 : Cmp5.tab.before a s = true := unparts (wk h (.code Cmp5.yN Cmp5.yB 7 (some .int))) (wks h (.initialized Cmp5.yN.cls :: Cmp5.site))
  have hc : CodL.tab.before a s = true := unparts (wk h (.code CodL.yN CodL.yB 2 (some .byte))) (wks h (.initialized CodL.yN.cls :: CodL.site))
  have q5 : ∀ w ∈ Cmp5.tab :: words, w.before a s = true := fun w hw => (List.mem_cons.mp hw).elim (fun e => e ▸ h5) (h w)
  have h3 : Cmp3.tab.before a s = true := unparts (wk q5 (.code Cmp3.yN Cmp3.yB 6 (some (.array .byte)))) (wks q5 (.initialized Cmp3.yN.cls :: Cmp3.site))
  have q3 : ∀ w ∈ Cmp3.tab :: CodL.tab :: words, w.before a s = true := fun w hw => (List.mem_cons.mp hw).elim (fun e => e ▸ h3) fun hw => (List.mem_cons.mp hw).elim (fun e => e ▸ hc) (h w)
  have h4 : New4.tab.before a s = true := unparts (wk q3 (.code New4.yN New4.yB 6 none)) (wks q3 (.initialized New4.yN.cls :: New4.site))
  have q4 : ∀ w ∈ New4.tab :: words, w.before a s = true := fun w hw => (List.mem_cons.mp hw).elim (fun e => e ▸ h4) (h w)
  exact unparts (wk q4 (.code New1.yN New1.yB 2 none)) (wks q4 (.initialized New1.yN.cls :: New1.site))
/-- the words ride from the start Z to the walk's own state -/
theorem moved {Z s : State} {a0 args : Array Value} (hZ : Z.Warmed39 s.vm) (hw : ∀ d ∈ words, d.before a0 Z = true) : ∀ d ∈ words, d.before args s = true := fun d hd => by
  have q := hw d hd
  have t : ∀ d ∈ words, d = .arrayClass .byte ∨ (d.onTables && d.keepsFace) = true := by decide +kernel
  rcases t d hd with rfl | t
  · exact RoadKit.mvA hZ q
  · exact RoadKit.mv hZ q t
/-- WHAT COMES BACK, over the tables of the start Z: h the heap at the call, h' behind it -/
def Q (Z : State) (x : Addr) (A : Cell) (h : Heap) (v : Option Value) (h' : Heap) (L : List Loc) : Prop := v = none ∧ (∀ y ∈ L, y.base = x) ∧ RoadKit.Keep h h' [x] ∧ h'.size = h.size + 1 ∧ RoadKit.Exa Z h' x ST ∧ RoadKit.Fld Z h' x ST "value" "[B" (.ref h.size) ∧ RoadKit.Fld Z h' x ST "coder" "B" (.int 0) ∧
  (∃ V : Cell, RoadKit.Arr Z h' h.size V .byte ∧ V.vm = .none ∧ Z.vm.findClass "[B" = some V.cls ∧ V.slots.size = A.slots.size ∧ ∀ j, j < A.slots.size → V.slots[j]? = some (.int (lo8 (cv A j)))) ∧
  ∀ (O n d : String) (w : Value), RoadKit.Fld Z h x O n d w → RoadKit.slotOf Z O n d ≠ RoadKit.slotOf Z ST "value" "[B" → RoadKit.slotOf Z O n d ≠ RoadKit.slotOf Z ST "coder" "B" → RoadKit.Fld Z h' x O n d w
/-- **new String(chars) AT A CALL, IN THE ROAD'S FORM**: for specialBack behind newO: x the fresh String, b the char[] with the cell A -/
theorem back {p : Program} {l : Launch} {e : Env} {R : Room} {s : State} {args : Array Value} {below : List Frame} {len W : Nat} {Z : State} {a0 : Array Value} {h : Heap} (hZ : Z.Warmed39 s.vm) (hw : ∀ d ∈ words, d.before a0 Z = true) {kI : Nat} (wi : (Jvm.Cond.instantiable ST kI).before a0 Z = true)
    {x b : Addr} {A : Cell} {z : Int32} {v0 c0 : Value} (E : RoadKit.Exa Z h x ST) (V : RoadKit.Fld Z h x ST "value" "[B" v0) (C : RoadKit.Fld Z h x ST "coder" "B" c0) (K : RoadKit.Arr Z h b A .char) (hty : Typed .char A) (S : RoadKit.Sta Z h ST "COMPACT_STRINGS" "Z" (.int z)) (hz : ¬ z = 0)
    (l0 : 0 < A.slots.size) (l2 : A.slots.size ≤ 536870912) (hp : ∀ i, i < A.slots.size → ¬ 255 < cv A i) (hfr : 4 ≤ R.frames) (hlo : W + 65 ≤ R.locals) :
    Back l R p e below s args New1.yN len W (fun P a => a = #[.ref x, .ref b] ∧ P.U.heap = h ∧ P.cells + 1 ≤ R.cells ∧ P.slots + A.slots.size ≤ R.slots)
      (fun P _ v B => ∃ L, Q Z x A h v B.U.heap L ∧ B.locs = P.locs ++ L ∧ B.cells = P.cells + 1 ∧ B.slots = P.slots + A.slots.size) := by
  intro m meth c P g ig mk a X hg hsize hdg hW hn hp'
  obtain ⟨rfl, rfl, r1, r2⟩ := hp'
  have al : Z.vm.Alike P.U.vm := hZ.alike.trans X.warmed.alike
  obtain ⟨D, cfV, kV, iV, fV, hD, gV, stV, knV, obV, asV, slV⟩ := id V
  obtain ⟨D', cfC, kC, iC, fC, hD', gC, stC, -, -, asC, slC⟩ := id C
  cases hD.symm.trans hD'
  obtain ⟨D2, kD, e1, e2, e3, e4, e5⟩ := id E
  cases hD.symm.trans e1
  obtain ⟨c2, k2, i1, i2, i3, -⟩ := Cond.instantiable_spec wi
  cases e2.symm.trans i1
  cases e3.symm.trans i2
  obtain ⟨kU, u1, u2⟩ := al.2.2 _ _ e3
  have hB : Blank ST x D P.U := ⟨hD, ⟨knV, fun q hq => by rw [hq] at obV; cases obV⟩, by rw [al.findClass]; exact e2, kU, u1, by rw [u2]; exact i3, by rw [u2]; exact e5 i3⟩
  have F1 : Found ST "value" "[B" fV P.U := ⟨SBG.found_only al ⟨cfV, kV, iV, gV⟩, stV⟩
  have F2 : Found ST "coder" "B" fC P.U := ⟨SBG.found_only al ⟨cfC, kC, iC, gC⟩, stC⟩
  have hA : Ch b A P.U := ⟨⟨K.1, State.isArrayOf_alike al K.2.1, K.2.2, by omega⟩, hty⟩
  have hS : StaticIs P.U ST "COMPACT_STRINGS" "Z" (.int z) := by
    obtain ⟨cfS, iS, kS, fS, st, cS, t1, t2, t3, t4, t5, t6, t7⟩ := S
    exact StaticIs.there (s := { Z with heap := P.U.heap }) ⟨cfS, iS, kS, fS, st, cS, t1, t2, t3, t4, t5, (fun q => by rw [q] at t6; cases t6), t7⟩ al rfl
  obtain ⟨v, B, X', ⟨⟨hv, E', V', q1, q2, q3, q4, q5, q6, q7, q8, q9, q10, q11⟩, hl, hc, hs⟩, st⟩ := New1.pays x D fV fC b A z (tab_of (moved hZ hw)) hfr hlo m meth c P g ig mk _ X hg hsize hdg hW hn ⟨r1, r2, rfl, hB, F1, F2, hA, hS, hz, l0, l2, hp⟩
  have al' : Z.vm.Alike B.U.vm := hZ.alike.trans X'.warmed.alike
  have hsz : E'.slots.size = D.slots.size := by
    obtain ⟨-, -, -, kB, w1, w2, w3⟩ := q1
    obtain ⟨kB', y1, y2⟩ := al'.2.2 _ _ e3
    rw [q2.2.1] at w1
    cases w1.symm.trans y1
    rw [w3, e5 i3, y2]
  refine ⟨v, B, X', ⟨_, ⟨hv, ?_, ⟨by omega, fun y cy hy hn' => q10 y cy (by simpa using hn') hy, fun y cy hy => ?_⟩, q11, ⟨E', _, q1.1, by rw [q2.2.1]; exact e2, by rw [q2.2.1]; exact e3, by rw [q2.1]; exact obV, fun _ => by rw [hsz]; exact e5 i3⟩,
    ⟨E', cfV, kV, iV, fV, q1.1, gV, stV, by rw [q2.1]; exact knV, by rw [q2.1]; exact obV, by rw [q2.2.1]; exact asV, q3⟩, ⟨E', cfC, kC, iC, fC, q1.1, gC, stC, by rw [q2.1]; exact knV, by rw [q2.1]; exact obV, by rw [q2.2.1]; exact asC, q4⟩,
    ⟨V', ⟨q5.1, State.isArrayOf_alike al'.symm q5.2.1, q5.2.2.1⟩, q6, by rw [← al'.findClass]; exact q7, q8, fun j hj => by have := q9 j hj; rwa [Nat.zero_add] at this⟩, fun O n d w F n1 n2 => ?_⟩, hl, hc, hs⟩, st⟩
  · intro y hy
    simp only [List.mem_cons, List.not_mem_nil, or_false] at hy
    rcases hy with rfl | rfl <;> rfl
  · by_cases q : y = x
    · subst q
      cases hD.symm.trans hy
      exact ⟨E', q1.1, q2.2.1, q2.1, hsz⟩
    · exact ⟨cy, q10 y cy q hy, rfl, rfl, rfl⟩
  · obtain ⟨D3, cf, k, i, f, g1, g2, g3, g4, g5, g6, g7⟩ := F
    cases hD.symm.trans g1
    simp only [RoadKit.slotOf, g2, gV, gC, Option.map_some, Option.getD_some] at n1 n2
    exact ⟨E', cf, k, i, f, q1.1, g2, g3, by rw [q2.1]; exact g4, by rw [q2.1]; exact g5, by rw [q2.2.1]; exact g6, by rw [q2.2.2 f.slot (by simp [n1, n2])]; exact g7⟩
end StrChars.Road
namespace StrChars.Road
open Jvm Sem ClassFile Op Lib Jvm.Stand Jvm.Free Jvm.Free.XT
/-- WHAT COMES BACK, the byte[] as a list of values -/
def QA (Z : State) (x : Addr) (zn : Int32) (cs : List Int32) (h : Heap) (v : Option Value) (h' : Heap) (L : List Loc) : Prop := v = none ∧ (∀ y ∈ L, y.base = x) ∧ RoadKit.Keep h h' [x] ∧ h'.size = h.size + 1 ∧ RoadKit.Exa Z h' x ST ∧ RoadKit.Fld Z h' x ST "value" "[B" (.ref h.size) ∧ RoadKit.Fld Z h' x ST "coder" "B" (.int 0) ∧
  (∃ kb, Z.vm.findClass "[B" = some kb ∧ RoadKit.Arv Z h' h.size kb .byte zn (cs.map fun c => .int (lo8 c)) (.int 0)) ∧
  ∀ (O n d : String) (w : Value), RoadKit.Fld Z h x O n d w → RoadKit.slotOf Z O n d ≠ RoadKit.slotOf Z ST "value" "[B" → RoadKit.slotOf Z O n d ≠ RoadKit.slotOf Z ST "coder" "B" → RoadKit.Fld Z h' x O n d w
/-- **new String(chars) AT A CALL, THE ARRAYS AS LISTS**: the char[] at b holds cs, not empty, no char above 255 -/
theorem backArv {p : Program} {l : Launch} {e : Env} {R : Room} {s : State} {args : Array Value} {below : List Frame} {len W : Nat} {Z : State} {a0 : Array Value} {h : Heap} (hZ : Z.Warmed39 s.vm) (hw : ∀ d ∈ words, d.before a0 Z = true) {kI : Nat} (wi : (Jvm.Cond.instantiable ST kI).before a0 Z = true)
    {x b : Addr} {k : ClassId} {zn z : Int32} {cs : List Int32} {dv v0 c0 : Value} (E : RoadKit.Exa Z h x ST) (V : RoadKit.Fld Z h x ST "value" "[B" v0) (C : RoadKit.Fld Z h x ST "coder" "B" c0) (K : RoadKit.Arv Z h b k .char zn (cs.map Value.int) dv) (S : RoadKit.Sta Z h ST "COMPACT_STRINGS" "Z" (.int z)) (hz : ¬ z = 0)
    (hlen : zn.toNatClampNeg = cs.length) (h0 : 0 < cs.length) (hbig : cs.length ≤ 536870912) (hall : ∀ c ∈ cs, ¬ 255 < c) (hfr : 4 ≤ R.frames) (hlo : W + 65 ≤ R.locals) :
    Back l R p e below s args New1.yN len W (fun P a => a = #[.ref x, .ref b] ∧ P.U.heap = h ∧ P.cells + 1 ≤ R.cells ∧ P.slots + cs.length ≤ R.slots)
      (fun P _ v B => ∃ L, QA Z x zn cs h v B.U.heap L ∧ B.locs = P.locs ++ L ∧ B.cells = P.cells + 1 ∧ B.slots = P.slots + cs.length) := by
  obtain ⟨A, K1, K2, K3, K4, K5, K6⟩ := K
  have e : A.slots.size = cs.length := K3.trans hlen
  have hat : ∀ (i : Nat) (hi : i < cs.length), A.slots[i]? = some (.int cs[i]) := fun i hi => by rw [K5 i (by omega)]; simp [List.getD_eq_getElem?_getD, hi]
  have hcv : ∀ (i : Nat) (hi : i < cs.length), cv A i = cs[i] := fun i hi => by unfold cv; rw [hat i hi]
  have hty : Typed .char A := fun i v hv => by
    have hi : i < A.slots.size := (Array.getElem?_eq_some_iff.mp hv).1
    have q := K5 i hi
    rw [hv] at q
    rw [Option.some.inj q]
    exact K6 i hi
  refine Back.mono (back hZ hw wi E V C K1 hty S hz (by omega) (by omega) (fun i hi => by rw [hcv i (by omega)]; exact hall _ (List.getElem_mem _)) hfr hlo) (fun P a hp => ⟨hp.1, hp.2.1, hp.2.2.1, by rw [e]; exact hp.2.2.2⟩) (fun P a v B hp hq => ?_)
  obtain ⟨L, ⟨q1, q2, q3, q4, q5, q6, q7, ⟨V', v1, v2, v3, v4, v5⟩, q9⟩, hl, hc, hs⟩ := hq
  refine ⟨L, ⟨q1, q2, q3, q4, q5, q6, q7, ⟨V'.cls, v3, V', v1, rfl, by rw [v4, e, hlen], K4, fun i hi => ?_, fun i hi => ?_⟩, q9⟩, hl, hc, by rw [hs, e]⟩
  · have hi' : i < cs.length := by omega
    rw [v5 i (by omega), hcv i hi']; simp [List.getD_eq_getElem?_getD, hi']
  · have hi' : i < cs.length := by omega
    simp only [List.getD_eq_getElem?_getD, List.getElem?_map, List.getElem?_eq_getElem hi', Option.map_some, Option.getD_some]
    exact fits_lo8 _
end StrChars.Road
namespace StrChars.Road
open Jvm Sem ClassFile Op Lib Jvm.Stand Jvm.Free Jvm.Free.XT
/-- WHAT COMES BACK, in the writer's own shape -/
def QV (Z : State) (x : Addr) (N : Int32) (bs : List Int32) (h : Heap) (n0 : Nat) (v : Option Value) (h' : Heap) (L : List Loc) : Prop := v = none ∧ RoadKit.Fr n0 L ∧ RoadKit.Keep h h' [x] ∧ RoadKit.Exa Z h' x ST ∧ RoadKit.Fld Z h' x ST "coder" "B" (.int 0) ∧
  ∃ (t : Addr) (kb : ClassId), n0 ≤ t ∧ h.size ≤ t ∧ ¬ t = x ∧ RoadKit.Fld Z h' x ST "value" "[B" (.ref t) ∧ RoadKit.Arv Z h' t kb .byte N (bs.map Value.int) (.int 0)
/-- **new String(chars) AT A CALL, FOR THE WRITER**: a char[] of n known ints, each 0 to 255 -/
theorem backV {p : Program} {l : Launch} {e : Env} {R : Room} {s : State} {args : Array Value} {below : List Frame} {len W : Nat} {Z : State} {a0 : Array Value} {h : Heap} (hZ : Z.Warmed39 s.vm) (hw : ∀ d ∈ words, d.before a0 Z = true) {kI : Nat} (wi : (Jvm.Cond.instantiable ST kI).before a0 Z = true)
    {x b : Addr} {kC : ClassId} {cs bs : List Int32} {d v0 c0 : Value} {z N : Int32} {n n0 : Nat} (hx0 : n0 ≤ x) (hh0 : n0 ≤ h.size) (E : RoadKit.Exa Z h x ST) (V : RoadKit.Fld Z h x ST "value" "[B" v0) (C : RoadKit.Fld Z h x ST "coder" "B" c0) (K : RoadKit.Arv Z h b kC .char N (cs.map Value.int) d) (S : RoadKit.Sta Z h ST "COMPACT_STRINGS" "Z" (.int z)) (hz : ¬ z = 0)
    (hn : cs.length = n) (hN : N = Int32.ofNat n) (l0 : 0 < n) (l2 : n ≤ 4000) (hp : ∀ c ∈ cs, ¬ c < 0 ∧ ¬ (255 : Int32) < c) (hb : bs = cs.map (fun c => c.toInt8.toInt32)) (hfr : 4 ≤ R.frames) (hlo : W + 65 ≤ R.locals) :
    Back l R p e below s args (⟨"java/lang/String", "<init>", "([C)V"⟩ : MethodName) len W (fun P a => a = #[.ref x, .ref b] ∧ P.U.heap = h ∧ P.cells + 1 ≤ R.cells ∧ P.slots + n ≤ R.slots)
      (fun P _ v B => ∃ L, QV Z x N bs h n0 v B.U.heap L ∧ B.locs = P.locs ++ L ∧ B.cells = P.cells + 1 ∧ B.slots = P.slots + n) := by
  subst hn hN hb
  refine Back.mono (backArv hZ hw wi E V C K S hz (n32 (by omega)) l0 (by omega) (fun c hc => (hp c hc).2) hfr hlo) (fun P a hp => hp) (fun P a v B hp hq => ?_)
  obtain ⟨L, ⟨q1, q2, q3, q4, q5, q6, q7, ⟨kb, v1, v2⟩, q9⟩, hl, hc, hs⟩ := hq
  exact ⟨L, ⟨q1, fun y hy => by rw [q2 y hy]; exact hx0, q3, q5, q7, h.size, kb, hh0, Nat.le_refl _, Nat.ne_of_gt E.lt, q6, by rw [List.map_map]; exact v2⟩, hl, hc, hs⟩
end StrChars.Road
namespace StrChars
open Jvm Sem ClassFile Op Lib Jvm.Stand Jvm.Free.XT Jvm.Free.ALB Jvm.Free.JM Jvm.Free
open Jvm.Lib.Cold (StaticIs)
def hi8 (x : Int32) : Int32 := lo8 (x >>> ((8 : Int32) &&& 31))
/-- what StringUTF16.getChar makes of two bytes -/
def pairCh (u v : Int32) : Int32 := (((u &&& 255) <<< ((0 : Int32) &&& 31)) ||| ((v &&& 255) <<< ((8 : Int32) &&& 31))).toUInt32.toUInt16.toUInt32.toInt32
theorem shr0 (c : Int32) : c >>> ((0 : Int32) &&& 31) = c := by
  have e : ((0 : Int32) &&& 31) = 0 := by decide
  rw [e]
  apply Int32.toBitVec_inj.mp
  rw [Int32.toBitVec_shiftRight]
  have e1 : ((0 : Int32).toBitVec.smod 32) = 0#32 := by decide
  rw [e1, BitVec.sshiftRight_eq']
  exact BitVec.sshiftRight_zero
theorem lo8_and (x : Int32) : (lo8 x &&& 255).toBitVec.toNat = x.toBitVec.toNat % 256 := by
  have h : (lo8 x).toBitVec = (x.toBitVec.signExtend 8).signExtend 32 := by rw [lo8, Int8.toBitVec_toInt32, Int32.toBitVec_toInt8]
  rw [Int32.toBitVec_and, BitVec.toNat_and, h]
  have e : ((x.toBitVec.signExtend 8).signExtend 32).toNat % 256 = x.toBitVec.toNat % 256 := by
    rw [BitVec.toNat_signExtend]
    have hlt := x.toBitVec.isLt
    simp only [BitVec.toNat_setWidth, BitVec.toNat_signExtend]
    split <;> split <;> omega
  rw [← e]
  exact Nat.and_two_pow_sub_one_eq_mod _ 8
theorem pair_says {c : Int32} (h0 : ¬ c < 0) (h1 : ¬ 65535 < c) : pairCh (lo8 c) (hi8 c) = c := by
  rw [Int32.lt_iff_toInt_lt] at h0 h1
  have e0 : (0 : Int32).toInt = 0 := rfl
  have e1 : (65535 : Int32).toInt = 65535 := rfl
  have hc : c.toInt = c.toBitVec.toNat := by
    have := c.toBitVec.isLt
    have e : c.toInt = c.toBitVec.toInt := rfl
    rw [e] at h0 h1
    rw [e]
    rw [BitVec.toInt_eq_toNat_cond] at h0 h1 ⊢
    split at h0 <;> split <;> omega
  have hn : c.toBitVec.toNat < 65536 := by omega
  have a1 := lo8_and c
  have a2 : (hi8 c &&& 255).toBitVec.toNat = c.toBitVec.toNat / 256 := by
    rw [hi8, lo8_and]
    have e : ((8 : Int32) &&& 31) = 8 := by decide
    rw [e, Int32.toBitVec_shiftRight]
    have e2 : ((8 : Int32).toBitVec.smod 32) = 8#32 := by decide
    rw [e2, BitVec.sshiftRight_eq', BitVec.toNat_sshiftRight_of_msb_false (by rw [BitVec.msb_eq_false_iff_two_mul_lt]; omega)]
    show c.toBitVec.toNat >>> 8 % 256 = _
    rw [Nat.shiftRight_eq_div_pow]
    omega
  unfold pairCh
  apply Int32.toBitVec_inj.mp
  apply BitVec.eq_of_toNat_eq
  have f0 : ((0 : Int32) &&& 31) = 0 := by decide
  have f8 : ((8 : Int32) &&& 31) = 8 := by decide
  rw [f0, f8]
  have g : (((lo8 c &&& 255) <<< (0 : Int32)) ||| ((hi8 c &&& 255) <<< (8 : Int32))).toBitVec.toNat = c.toBitVec.toNat := by
    rw [Int32.toBitVec_or, Int32.toBitVec_shiftLeft, Int32.toBitVec_shiftLeft]
    have s0 : ((0 : Int32).toBitVec.smod 32) = 0#32 := by decide
    have s8 : ((8 : Int32).toBitVec.smod 32) = 8#32 := by decide
    rw [s0, s8, BitVec.toNat_or]
    simp only [BitVec.shiftLeft_eq', BitVec.toNat_shiftLeft, a1, a2]
    show (c.toBitVec.toNat % 256) <<< 0 % 2 ^ 32 ||| (c.toBitVec.toNat / 256) <<< 8 % 2 ^ 32 = _
    rw [Nat.shiftLeft_zero, Nat.mod_eq_of_lt (show c.toBitVec.toNat % 256 < 2 ^ 32 by omega), Nat.mod_eq_of_lt (show (c.toBitVec.toNat / 256) <<< 8 < 2 ^ 32 by rw [Nat.shiftLeft_eq]; omega), Nat.or_comm, ← Nat.shiftLeft_add_eq_or_of_lt (by omega), Nat.shiftLeft_eq]
    omega
  show BitVec.toNat (((((lo8 c &&& 255) <<< (0 : Int32)) ||| ((hi8 c &&& 255) <<< (8 : Int32))).toBitVec.setWidth 16).setWidth 32) = _
  rw [BitVec.toNat_setWidth, BitVec.toNat_setWidth, g]
  omega
end StrChars
namespace StrChars
open Jvm Sem ClassFile Op Lib Jvm.Stand Jvm.Free.XT Jvm.Free.ALB Jvm.Free.JM Jvm.Free
open Jvm.Lib.Cold (StaticIs)
theorem shr1 {n : Nat} (h : 2 * n < 2 ^ 31) : Int32.ofNat (2 * n) >>> ((1 : Int32) &&& 31) = Int32.ofNat n := by
  have e : ((1 : Int32) &&& 31) = 1 := by decide
  rw [e]
  apply Int32.toBitVec_inj.mp
  rw [Int32.toBitVec_shiftRight]
  have e1 : ((1 : Int32).toBitVec.smod 32) = 1#32 := by decide
  have hm : (BitVec.ofNat 32 (2 * n)).toNat = 2 * n := by rw [BitVec.toNat_ofNat, Nat.mod_eq_of_lt (by omega)]
  rw [e1, BitVec.sshiftRight_eq']
  apply BitVec.eq_of_toNat_eq
  show ((BitVec.ofNat 32 (2 * n)).sshiftRight 1).toNat = (BitVec.ofNat 32 n).toNat
  rw [BitVec.toNat_sshiftRight_of_msb_false (by rw [BitVec.msb_eq_false_iff_two_mul_lt, hm]; omega), hm, BitVec.toNat_ofNat, Nat.shiftRight_eq_div_pow]
  omega
/-- charAt's cast of a byte read back -/
def chr8 (u : Int32) : Int32 := (u &&& 255).toUInt32.toUInt16.toUInt32.toInt32
theorem chr8_lo8 {c : Int32} (h0 : ¬ c < 0) (h1 : ¬ 255 < c) : chr8 (lo8 c) = c := by
  have t : ∀ k : Fin 256, (Int32.ofNat k.val).toUInt32.toUInt16.toUInt32.toInt32 = Int32.ofNat k.val := by decide +kernel
  unfold chr8
  rw [lo8_mask h0 h1]
  rw [Int32.lt_iff_toInt_lt] at h0 h1
  have e0 : (0 : Int32).toInt = 0 := rfl
  have e1 : (255 : Int32).toInt = 255 := rfl
  obtain ⟨k, hk⟩ : ∃ k : Nat, c.toInt = k := ⟨c.toInt.toNat, by omega⟩
  have hx : c = Int32.ofNat k := Int32.toInt_inj.mp (by rw [hk, Int32.toInt_ofNat_small (by omega)])
  rw [hx]
  exact t ⟨k, by omega⟩
theorem narrow_ch {c : Int32} (h0 : ¬ c < 0) (h1 : ¬ 65535 < c) : narrow .char (.int c) = .int c := by
  have q : narrow .char (.int (pairCh (lo8 c) (hi8 c))) = .int (pairCh (lo8 c) (hi8 c)) := narrow_c _
  rwa [pair_says h0 h1] at q
/-- the array's cell V codes the n chars f 0 .. f (n - 1) by the coder cd, as the JDK does: coder 1 just where some char is above 255 -/
def Cod (cd : Int32) (n : Nat) (f : Nat → Int32) (V : Cell) : Prop := (cd = 0 ∧ V.slots.size = n ∧ ∀ j, j < n → V.slots[j]? = some (.int (lo8 (f j))) ∧ ¬ 255 < f j) ∨ (cd = 1 ∧ V.slots.size = 2 * n ∧ (∀ j, j < n → V.slots[2 * j]? = some (.int (lo8 (f j))) ∧ V.slots[2 * j + 1]? = some (.int (hi8 (f j)))) ∧ ∃ j, j < n ∧ 255 < f j)
theorem Cod.cd {cd : Int32} {n : Nat} {f : Nat → Int32} {V : Cell} (h : Cod cd n f V) : cd = 0 ∨ cd = 1 := h.imp (fun q => q.1) fun q => q.1
theorem Cod.len {cd : Int32} {n : Nat} {f : Nat → Int32} {V : Cell} (h : Cod cd n f V) (hs : V.slots.size < 2 ^ 31) : Int32.ofNat V.slots.size >>> (cd &&& 31) = Int32.ofNat n := by
  rcases h with ⟨rfl, h, -⟩ | ⟨rfl, h, -⟩
  · rw [shr0, h]
  · rw [h, shr1 (by omega)]
/-- **x is a String of the n chars f 0 .. f (n - 1)**, Latin-1 or UTF-16; its array at t has the cell V -/
def Txt (x t : Addr) (V : Cell) (cd : Int32) (n : Nat) (f : Nat → Int32) (U : State) : Prop := Exact "java/lang/String" x U ∧ Has x "java/lang/String" "value" "[B" (.ref t) U ∧ Has x "java/lang/String" "coder" "B" (.int cd) U ∧ XT.Arr .byte t V U ∧ Cod cd n f V ∧ ∀ j, j < n → ¬ f j < 0 ∧ ¬ 65535 < f j
theorem Txt.mv {x t : Addr} {V : Cell} {cd : Int32} {n : Nat} {f : Nat → Int32} {U U' : State} (h : Txt x t V cd n f U) (hal : U.vm.Alike U'.vm) (hh : U'.heap = U.heap) : Txt x t V cd n f U' := ⟨h.1.mv hal hh, h.2.1.mv hal hh, h.2.2.1.mv hal hh, h.2.2.2.1.mv hal hh, h.2.2.2.2⟩
namespace Cdr
def yN : MethodName := ⟨"java/lang/String", "coder", "()B"⟩
abbrev yB : ByteArray := jdk_42_method_152_code
theorem d0 : decode yB 0 = .ok (.getstatic 38, 3) := by decide +kernel
theorem d3 : decode yB 3 = .ok (.ifCond (.eq) 10, 3) := by decide +kernel
theorem d6 : decode yB 6 = .ok (.aload_n 0, 1) := by decide +kernel
theorem d7 : decode yB 7 = .ok (.getfield 15, 3) := by decide +kernel
theorem d10 : decode yB 10 = .ok (.goto 4, 3) := by decide +kernel
theorem d14 : decode yB 14 = .ok (.ireturn, 1) := by decide +kernel
def site : List Cond := [.fieldLink "java/lang/String" 38 "java/lang/String" "COMPACT_STRINGS" "Z", .fieldLink "java/lang/String" 15 "java/lang/String" "coder" "B"]
def tab : Cond := tabOf yN yB 1 (some .byte) site
def P (x : Addr) (cd z : Int32) (args : Array Value) (s : State) : Prop := args = #[.ref x] ∧ Has x "java/lang/String" "coder" "B" (.int cd) s ∧ (cd = 0 ∨ cd = 1) ∧ StaticIs s "java/lang/String" "COMPACT_STRINGS" "Z" (.int z) ∧ ¬ z = 0
def E (cd : Int32) (r : Option Value) (s u : State) : Prop := XT.PureE (some (.int cd)) r s u
theorem law (l : Launch) (x : Addr) (cd z : Int32) : Law l yN 1 0 0 0 yB 1 (some .byte) site (P x cd z) (E cd) [] 0 0 := by
  refine Law.of_walk (plainFor_of_name (by decide +kernel)) (by decide +kernel) (by decide +kernel) (by decide) (fun _ _ h => by rw [h.1]; rfl) (fun _ U U' hal hh h => ⟨h.1, h.2.1.mv hal hh, h.2.2.1, h.2.2.2.1.there hal hh, h.2.2.2.2⟩) (fun r U U' V V' h1 hal h2 h => XT.PureE.mv r U U' V V' h1 hal h2 h) ?_
  intro p e s m args below meth c s₁ X0 hexec hbytes hml hret hlk hnm hown hh0 W hP
  obtain ⟨rfl, hx, hc, s1, hz⟩ := hP
  have c1 : Steps p.tables e below (s₁.setTop (entryFrame m #[.ref x] 1)) (s₁.setTop (mkF m 0 #[.val (.ref x)] [])) := entry rfl
  obtain ⟨T2, X2, q2, st2⟩ := X0.sget hexec hown (wk W (.fieldLink "java/lang/String" 38 "java/lang/String" "COMPACT_STRINGS" "Z")) s1 (fun _ _ h => by rw [hh0]; exact h) (g := (mkF m 0 #[.val (.ref x)] [])) rfl (hb hbytes d0)
  have hh2 := q2.trans hh0
  have c3 : Steps p.tables e below (s₁.setTop (entryFrame m #[.ref x] 1)) (T2.setTop (mkF m 7 #[.val (.ref x)] [.ref x])) := (c1.trans (st2 _ (Steps.refl _))).trans (by
    refine XS.ifNo X2.here hexec rfl (hb hbytes d3) rfl (i0_eq_f hz) ?_
    refine XS.aloadN X2.here hexec rfl (hb hbytes d6) rfl rfl ?_
    exact Steps.refl _)
  obtain ⟨T4, X4, q4, st4⟩ := X2.hget hexec hown (wk W (.fieldLink "java/lang/String" 15 "java/lang/String" "coder" "B")) (hx.mv X2.warmed.alike hh2) (g := (mkF m 7 #[.val (.ref x)] [.ref x])) rfl (rest := []) rfl (hb hbytes d7)
  have c5 : Steps p.tables e below (s₁.setTop (entryFrame m #[.ref x] 1)) (T4.setTop (mkF m 14 #[.val (.ref x)] [.int cd])) := (c3.trans (st4 _ (Steps.refl _))).trans (by
    refine XS.goto X4.here hexec rfl (pc0 := 10) rfl (hb hbytes d10) (by decide) rfl ?_
    exact Steps.refl _)
  exact ⟨T4, some (.int cd), _, _, _, X4, rfl, rfl, rfl, (fun h => by cases h), ⟨rfl, q4.trans hh2⟩, fun fs hl => c5.trans (X4.ireturnOut hexec hret (by rcases hc with rfl | rfl <;> rfl) (Or.inr (Or.inr (Or.inl rfl))) (hb hbytes d14) hl)⟩
end Cdr
namespace Len
def yN : MethodName := ⟨"java/lang/String", "length", "()I"⟩
abbrev yB : ByteArray := jdk_42_method_54_code
theorem d0 : decode yB 0 = .ok (.aload_n 0, 1) := by decide +kernel
theorem d1 : decode yB 1 = .ok (.getfield 9, 3) := by decide +kernel
theorem d4 : decode yB 4 = .ok (.arraylength, 1) := by decide +kernel
theorem d5 : decode yB 5 = .ok (.aload_n 0, 1) := by decide +kernel
theorem d6 : decode yB 6 = .ok (.invokevirtual 335, 3) := by decide +kernel
theorem d9 : decode yB 9 = .ok (.ishr, 1) := by decide +kernel
theorem d10 : decode yB 10 = .ok (.ireturn, 1) := by decide +kernel
def site : List Cond := [.fieldLink "java/lang/String" 9 "java/lang/String" "value" "[B", Cdr.tab] ++ virtW "java/lang/String" 335 "java/lang/String" Cdr.yN Cdr.yN
def tab : Cond := tabOf yN yB 1 (some .int) site
def P (x t : Addr) (V : Cell) (cd : Int32) (n : Nat) (f : Nat → Int32) (z : Int32) (args : Array Value) (s : State) : Prop := args = #[.ref x] ∧ Txt x t V cd n f s ∧ StaticIs s "java/lang/String" "COMPACT_STRINGS" "Z" (.int z) ∧ ¬ z = 0
def E (n : Nat) (r : Option Value) (s u : State) : Prop := XT.PureE (some (.int (Int32.ofNat n))) r s u
/-- length() of a String of n chars, in either coding -/
theorem law (l : Launch) (x t : Addr) (V : Cell) (cd : Int32) (n : Nat) (f : Nat → Int32) (z : Int32) : Law l yN 1 0 1 13 yB 1 (some .int) site (P x t V cd n f z) (E n) [] 0 0 := by
  refine Law.of_walk (plainFor_of_name (by decide +kernel)) (by decide +kernel) (by decide +kernel) (by decide) (fun _ _ h => by rw [h.1]; rfl) (fun _ U U' hal hh h => ⟨h.1, h.2.1.mv hal hh, h.2.2.1.there hal hh, h.2.2.2⟩) (fun r U U' V V' h1 hal h2 h => XT.PureE.mv r U U' V V' h1 hal h2 h) ?_
  intro p e s m args below meth c s₁ X0 hexec hbytes hml hret hlk hnm hown hh0 W hP
  obtain ⟨rfl, hx, s1, hz⟩ := hP
  have v31 := hx.2.2.2.1.2.2.2
  have c1 : Steps p.tables e below (s₁.setTop (entryFrame m #[.ref x] 1)) (s₁.setTop (mkF m 1 #[.val (.ref x)] [.ref x])) := Steps.trans (entry rfl) (by
    show Steps p.tables e below (s₁.setTop (mkF m 0 #[.val (.ref x)] [])) _
    refine XS.aloadN X0.here hexec rfl (hb hbytes d0) rfl rfl ?_
    exact Steps.refl _)
  obtain ⟨T2, X2, q2, st2⟩ := X0.hget hexec hown (wk W (.fieldLink "java/lang/String" 9 "java/lang/String" "value" "[B")) (hx.mv X0.warmed.alike hh0).2.1 (g := (mkF m 1 #[.val (.ref x)] [.ref x])) rfl (rest := []) rfl (hb hbytes d1)
  have hh2 := q2.trans hh0
  have hx2 := hx.mv X2.warmed.alike hh2
  have c3 : Steps p.tables e below (s₁.setTop (entryFrame m #[.ref x] 1)) (T2.setTop (mkF m 6 #[.val (.ref x)] [.ref x, .int (Int32.ofNat V.slots.size)])) := (c1.trans (st2 _ (Steps.refl _))).trans (by
    refine X2.alen hexec hx2.2.2.2.1 rfl rfl (hb hbytes d4) ?_
    refine XS.aloadN X2.here hexec rfl (hb hbytes d5) rfl rfl ?_
    exact Steps.refl _)
  obtain ⟨v4, T4, X4, E4, g4⟩ := X2.callV hexec (Cdr.law l x cd z) hown (wks W (virtW "java/lang/String" 335 "java/lang/String" Cdr.yN Cdr.yN)) rfl (by decide) (wk W Cdr.tab) (W := 1) (Nat.le_of_ble_eq_true rfl) (Nat.le_of_ble_eq_true rfl) (Nat.le_refl _) (Nat.le_refl _) (hx2.1.fc X2.warmed.alike) hx2.1.is (g := (mkF m 6 #[.val (.ref x)] [.ref x, .int (Int32.ofNat V.slots.size)])) rfl (by rw [hml]; rfl) c3 (argsL := []) (rest := [.int (Int32.ofNat V.slots.size)]) rfl rfl (by show 2 * 0 + (1 + 0) ≤ _; decide) (hb hbytes d6) (⟨rfl, hx2.2.2.1, hx.2.2.2.2.1.cd, s1.there X2.warmed.alike hh2, hz⟩)
  obtain ⟨rfl, q4⟩ := E4
  have c5 : Steps p.tables e below (s₁.setTop (entryFrame m #[.ref x] 1)) (T4.setTop (mkF m 10 #[.val (.ref x)] [.int (Int32.ofNat V.slots.size >>> (cd &&& 31))])) := Steps.trans g4 (by
    refine ishr X4.here hexec rfl (hb hbytes d9) rfl ?_
    exact Steps.refl _)
  rw [hx.2.2.2.2.1.len v31] at c5
  exact ⟨T4, some (.int (Int32.ofNat n)), _, _, _, X4, rfl, rfl, rfl, (fun h => by cases h), ⟨rfl, q4.trans hh2⟩, fun fs hl => c5.trans (X4.ireturnOut hexec hret rfl (Or.inl rfl) (hb hbytes d10) hl)⟩
theorem pays {l : Launch} {R : Room} {p : Program} {e : Env} {below : List Frame} {s : State} {sargs : Array Value} {len W : Nat} (x t : Addr) (V : Cell) (cd : Int32) (n : Nat) (f : Nat → Int32) (z : Int32) (htab : tab.before sargs s = true) (hfr : 2 ≤ R.frames) (hlo : W + 25 ≤ R.locals) :
    Back l R p e below s sargs yN len W (fun A₁ a₁ => A₁.cells + 0 ≤ R.cells ∧ A₁.slots + 0 ≤ R.slots ∧ P x t V cd n f z a₁ A₁.U) (fun A₁ _ v₁ B₁ => E n v₁ A₁.U B₁.U ∧ B₁.locs = A₁.locs ++ [] ∧ B₁.cells = A₁.cells + 0 ∧ B₁.slots = A₁.slots + 0) :=
  (law l x t V cd n f z).pays htab hfr (by omega)
end Len
namespace IsL
def yN : MethodName := ⟨"java/lang/String", "isLatin1", "()Z"⟩
abbrev yB : ByteArray := jdk_42_method_154_code
theorem d0 : decode yB 0 = .ok (.getstatic 38, 3) := by decide +kernel
theorem d3 : decode yB 3 = .ok (.ifCond (.eq) 14, 3) := by decide +kernel
theorem d6 : decode yB 6 = .ok (.aload_n 0, 1) := by decide +kernel
theorem d7 : decode yB 7 = .ok (.getfield 15, 3) := by decide +kernel
theorem d10 : decode yB 10 = .ok (.ifCond (.ne) 7, 3) := by decide +kernel
theorem d13 : decode yB 13 = .ok (.iconst 1, 1) := by decide +kernel
theorem d14 : decode yB 14 = .ok (.goto 4, 3) := by decide +kernel
theorem d17 : decode yB 17 = .ok (.iconst 0, 1) := by decide +kernel
theorem d18 : decode yB 18 = .ok (.ireturn, 1) := by decide +kernel
def site : List Cond := [.fieldLink "java/lang/String" 38 "java/lang/String" "COMPACT_STRINGS" "Z", .fieldLink "java/lang/String" 15 "java/lang/String" "coder" "B"]
def tab : Cond := tabOf yN yB 1 (some .boolean) site
def P (x : Addr) (cd z : Int32) (args : Array Value) (s : State) : Prop := args = #[.ref x] ∧ Has x "java/lang/String" "coder" "B" (.int cd) s ∧ (cd = 0 ∨ cd = 1) ∧ StaticIs s "java/lang/String" "COMPACT_STRINGS" "Z" (.int z) ∧ ¬ z = 0
def E (cd : Int32) (r : Option Value) (s u : State) : Prop := XT.PureE (some (.int (1 - cd))) r s u
theorem law (l : Launch) (x : Addr) (cd z : Int32) : Law l yN 1 0 0 0 yB 1 (some .boolean) site (P x cd z) (E cd) [] 0 0 := by
  refine Law.of_walk (plainFor_of_name (by decide +kernel)) (by decide +kernel) (by decide +kernel) (by decide) (fun _ _ h => by rw [h.1]; rfl) (fun _ U U' hal hh h => ⟨h.1, h.2.1.mv hal hh, h.2.2.1, h.2.2.2.1.there hal hh, h.2.2.2.2⟩) (fun r U U' V V' h1 hal h2 h => XT.PureE.mv r U U' V V' h1 hal h2 h) ?_
  intro p e s m args below meth c s₁ X0 hexec hbytes hml hret hlk hnm hown hh0 W hP
  obtain ⟨rfl, hx, hc, s1, hz⟩ := hP
  have c1 : Steps p.tables e below (s₁.setTop (entryFrame m #[.ref x] 1)) (s₁.setTop (mkF m 0 #[.val (.ref x)] [])) := entry rfl
  obtain ⟨T2, X2, q2, st2⟩ := X0.sget hexec hown (wk W (.fieldLink "java/lang/String" 38 "java/lang/String" "COMPACT_STRINGS" "Z")) s1 (fun _ _ h => by rw [hh0]; exact h) (g := (mkF m 0 #[.val (.ref x)] [])) rfl (hb hbytes d0)
  have hh2 := q2.trans hh0
  have c3 : Steps p.tables e below (s₁.setTop (entryFrame m #[.ref x] 1)) (T2.setTop (mkF m 7 #[.val (.ref x)] [.ref x])) := (c1.trans (st2 _ (Steps.refl _))).trans (by
    refine XS.ifNo X2.here hexec rfl (hb hbytes d3) rfl (i0_eq_f hz) ?_
    refine XS.aloadN X2.here hexec rfl (hb hbytes d6) rfl rfl ?_
    exact Steps.refl _)
  obtain ⟨T4, X4, q4, st4⟩ := X2.hget hexec hown (wk W (.fieldLink "java/lang/String" 15 "java/lang/String" "coder" "B")) (hx.mv X2.warmed.alike hh2) (g := (mkF m 7 #[.val (.ref x)] [.ref x])) rfl (rest := []) rfl (hb hbytes d7)
  have c5 : Steps p.tables e below (s₁.setTop (entryFrame m #[.ref x] 1)) (T4.setTop (mkF m 10 #[.val (.ref x)] [.int cd])) := c3.trans (st4 _ (Steps.refl _))
  have c6 : Steps p.tables e below (s₁.setTop (entryFrame m #[.ref x] 1)) (T4.setTop (mkF m 18 #[.val (.ref x)] [.int (1 - cd)])) := by
    rcases hc with rfl | rfl
    · exact c5.trans (by
        refine XS.ifNo X4.here hexec rfl (hb hbytes d10) rfl (i0_ne_f rfl) ?_
        refine iconstV X4.here hexec rfl 1 (hb hbytes d13) (by decide) ?_
        refine XS.goto X4.here hexec rfl (pc0 := 14) rfl (hb hbytes d14) (by decide) rfl ?_
        exact Steps.refl _)
    · exact c5.trans (by
        refine XS.ifYes X4.here hexec rfl (pc0 := 10) rfl (hb hbytes d10) rfl (i0_ne_t (by decide)) (by decide) rfl ?_
        refine iconstV X4.here hexec rfl 0 (hb hbytes d17) (by decide) ?_
        exact Steps.refl _)
  exact ⟨T4, some (.int (1 - cd)), _, _, _, X4, rfl, rfl, rfl, (fun h => by cases h), ⟨rfl, q4.trans hh2⟩, fun fs hl => c6.trans (X4.ireturnOut hexec hret (by rcases hc with rfl | rfl <;> rfl) (Or.inr (Or.inl rfl)) (hb hbytes d18) hl)⟩
end IsL
namespace LChA
def yN : MethodName := ⟨"java/lang/StringLatin1", "charAt", "([BI)C"⟩
abbrev yB : ByteArray := jdk_43_method_2_code
theorem d0 : decode yB 0 = .ok (.iload_n 1, 1) := by decide +kernel
theorem d1 : decode yB 1 = .ok (.aload_n 0, 1) := by decide +kernel
theorem d2 : decode yB 2 = .ok (.arraylength, 1) := by decide +kernel
theorem d3 : decode yB 3 = .ok (.invokestatic 9, 3) := by decide +kernel
theorem d6 : decode yB 6 = .ok (.aload_n 0, 1) := by decide +kernel
theorem d7 : decode yB 7 = .ok (.iload_n 1, 1) := by decide +kernel
theorem d8 : decode yB 8 = .ok (.baload, 1) := by decide +kernel
theorem d9 : decode yB 9 = .ok (.sipush 255, 3) := by decide +kernel
theorem d12 : decode yB 12 = .ok (.iand, 1) := by decide +kernel
theorem d13 : decode yB 13 = .ok (.i2c, 1) := by decide +kernel
theorem d14 : decode yB 14 = .ok (.ireturn, 1) := by decide +kernel
def site : List Cond := [JO.Str_checkIndex.tab] ++ staticW "java/lang/StringLatin1" 9 JO.Str_checkIndex.yN
def tab : Cond := tabOf yN yB 2 (some .char) site
def P (t : Addr) (V : Cell) (i : Nat) (u : Int32) (fm : Value) (args : Array Value) (s : State) : Prop := args = #[.ref t, .int (Int32.ofNat i)] ∧ XT.Arr .byte t V s ∧ V.slots[i]? = some (.int u) ∧ (StaticIs s "jdk/internal/util/Preconditions" "SIOOBE_FORMATTER" "Ljava/util/function/BiFunction;" fm ∧ fm.isRef = true)
def E (u : Int32) (r : Option Value) (s w : State) : Prop := XT.PureE (some (.int (chr8 u))) r s w
theorem law (l : Launch) (t : Addr) (V : Cell) (i : Nat) (u : Int32) (fm : Value) : Law l yN 2 2 2 27 yB 2 (some .char) site (P t V i u fm) (E u) [] 0 0 := by
  refine Law.of_walk (plainFor_of_name (by decide +kernel)) (by decide +kernel) (by decide +kernel) (by decide) (fun _ _ h => by rw [h.1]; rfl) (fun _ U U' hal hh h => ⟨h.1, h.2.1.mv hal hh, h.2.2.1, h.2.2.2.1.there hal hh, h.2.2.2.2⟩) (fun r U U' V V' h1 hal h2 h => XT.PureE.mv r U U' V V' h1 hal h2 h) ?_
  intro p e s m args below meth c s₁ X0 hexec hbytes hml hret hlk hnm hown hh0 W hP
  obtain ⟨rfl, hV, hu, s1, rf⟩ := hP
  have v31 := hV.2.2.2
  have hi : i < V.slots.size := (Array.getElem?_eq_some_iff.mp hu).1
  have c1 : Steps p.tables e below (s₁.setTop (entryFrame m #[.ref t, .int (Int32.ofNat i)] 2)) (s₁.setTop (mkF m 0 #[.val (.ref t), .val (.int (Int32.ofNat i))] [])) := entry rfl
  have c2 : Steps p.tables e below (s₁.setTop (entryFrame m #[.ref t, .int (Int32.ofNat i)] 2)) (s₁.setTop (mkF m 3 #[.val (.ref t), .val (.int (Int32.ofNat i))] [.int (Int32.ofNat V.slots.size), .int (Int32.ofNat i)])) := c1.trans (by
    refine XS.iloadN X0.here hexec rfl (hb hbytes d0) rfl ?_
    refine XS.aloadN X0.here hexec rfl (hb hbytes d1) rfl rfl ?_
    refine X0.alen hexec (hV.mv X0.warmed.alike hh0) rfl rfl (hb hbytes d2) ?_
    exact Steps.refl _)
  obtain ⟨v3, T3, X3, E3, g3⟩ := X0.callS hexec (JO.Str_checkIndex.law l (Int32.ofNat i) (Int32.ofNat V.slots.size) fm) hown (wks W (staticW "java/lang/StringLatin1" 9 JO.Str_checkIndex.yN)) (wk W JO.Str_checkIndex.tab) (W := 0) (Nat.le_of_ble_eq_true rfl) (Nat.le_of_ble_eq_true rfl) (Nat.le_refl _) (Nat.le_refl _) (g := (mkF m 3 #[.val (.ref t), .val (.int (Int32.ofNat i))] [.int (Int32.ofNat V.slots.size), .int (Int32.ofNat i)])) rfl (by rw [hml]; rfl) c2 (argsL := [.int (Int32.ofNat i), .int (Int32.ofNat V.slots.size)]) (rest := []) rfl rfl (by show 2 * 0 + 0 ≤ _; decide) (hb hbytes d3) (⟨rfl, rf, s1.there X0.warmed.alike hh0, Int32.ofNat_not_neg (by omega), lt32 v31 hi⟩)
  obtain ⟨rfl, q3⟩ := E3
  have hh3 := q3.trans hh0
  have c4 : Steps p.tables e below (s₁.setTop (entryFrame m #[.ref t, .int (Int32.ofNat i)] 2)) (T3.setTop (mkF m 14 #[.val (.ref t), .val (.int (Int32.ofNat i))] [.int (chr8 u)])) := Steps.trans g3 (by
    refine XS.aloadN X3.here hexec rfl (hb hbytes d6) rfl rfl ?_
    refine XS.iloadN X3.here hexec rfl (hb hbytes d7) rfl ?_
    refine X3.aget hexec (hV.mv X3.warmed.alike hh3) rfl hu rfl rfl (hb hbytes d8) ?_
    refine sipushV X3.here hexec rfl 255 (hb hbytes d9) (by decide) ?_
    refine XS.iand X3.here hexec rfl (hb hbytes d12) rfl ?_
    refine i2c X3.here hexec rfl (hb hbytes d13) rfl ?_
    exact Steps.refl _)
  exact ⟨T3, some (.int (chr8 u)), _, _, _, X3, rfl, rfl, rfl, (fun h => by cases h), ⟨rfl, hh3⟩, fun fs hl => c4.trans (X3.ireturnOut hexec hret (narrow_c _) (Or.inr (Or.inr (Or.inr (Or.inl rfl)))) (hb hbytes d14) hl)⟩
end LChA
end StrChars
namespace StrChars.Road
open Jvm Sem ClassFile Op Lib Jvm.Stand Jvm.Free Jvm.Free.XT
open Jvm.Lib.Cold (StaticIs)
theorem consq {a : Array Value} {s : State} {c : Jvm.Cond} {L : List Jvm.Cond} (h0 : c.before a s = true) (h : ∀ w ∈ L, w.before a s = true) : ∀ w ∈ c :: L, w.before a s = true := fun w hw => (List.mem_cons.mp hw).elim (fun e => e ▸ h0) (h w)
/-- the words of String.length(), either coding -/
abbrev wordsLen : List Jvm.Cond := [.code Len.yN Len.yB 1 (some .int), .initialized ST, .fieldLink ST 9 ST "value" "[B", .fieldLink ST 38 ST "COMPACT_STRINGS" "Z", .fieldLink ST 15 ST "coder" "B", .code Cdr.yN Cdr.yB 1 (some .byte), .methodLink ST 335 Cdr.yN, .declares Cdr.yN, .selects ST Cdr.yN Cdr.yN, .instanceMethod Cdr.yN]
theorem tabLen_of {a : Array Value} {s : State} (h : ∀ w ∈ wordsLen, w.before a s = true) : Len.tab.before a s = true := by
  have hc : Cdr.tab.before a s = true := unparts (wk h (.code Cdr.yN Cdr.yB 1 (some .byte))) (wks h (.initialized Cdr.yN.cls :: Cdr.site))
  have q := consq hc h
  exact unparts (wk q (.code Len.yN Len.yB 1 (some .int))) (wks q (.initialized Len.yN.cls :: Len.site))
theorem movedLen {Z s : State} {a0 args : Array Value} (hZ : Z.Warmed39 s.vm) (hw : ∀ d ∈ wordsLen, d.before a0 Z = true) : ∀ d ∈ wordsLen, d.before args s = true := fun d hd => by
  have q := hw d hd
  have t : ∀ d ∈ wordsLen, d = .arrayClass .byte ∨ (d.onTables && d.keepsFace) = true := by decide +kernel
  rcases t d hd with rfl | t
  · exact RoadKit.mvA hZ q
  · exact RoadKit.mv hZ q t
/-- the bytes of the chars cs, low before high -/
def wideBytes : List Int32 → List Value
  | [] => []
  | c :: cs => .int (lo8 c) :: .int (hi8 c) :: wideBytes cs
theorem wide_lo (d : Value) : ∀ (cs : List Int32) (j : Nat), j < cs.length → (wideBytes cs).getD (2 * j) d = .int (lo8 (cs.getD j 0))
  | [], j, h => absurd h (Nat.not_lt_zero j)
  | c :: cs, 0, _ => rfl
  | c :: cs, j + 1, h => by
    have q := wide_lo d cs j (by simpa using h)
    rw [show 2 * (j + 1) = 2 * j + 1 + 1 from by omega]
    simpa [wideBytes] using q
theorem wide_hi (d : Value) : ∀ (cs : List Int32) (j : Nat), j < cs.length → (wideBytes cs).getD (2 * j + 1) d = .int (hi8 (cs.getD j 0))
  | [], j, h => absurd h (Nat.not_lt_zero j)
  | c :: cs, 0, _ => rfl
  | c :: cs, j + 1, h => by
    have q := wide_hi d cs j (by simpa using h)
    rw [show 2 * (j + 1) + 1 = 2 * j + 1 + 1 + 1 from by omega]
    simpa [wideBytes] using q
theorem low_at (d : Value) (cs : List Int32) (j : Nat) (h : j < cs.length) : (cs.map fun c => Value.int (lo8 c)).getD j d = .int (lo8 (cs.getD j 0)) := by
  simp [List.getD_eq_getElem?_getD, h]
/-- an array of N2 bytes vs codes the chars cs by the coder cd -/
def CodA (cs : List Int32) (cd N2 : Int32) (vs : List Value) : Prop := (cd = 0 ∧ N2 = Int32.ofNat cs.length ∧ vs = (cs.map fun c => Value.int (lo8 c)) ∧ ∀ c ∈ cs, ¬ 255 < c) ∨ (cd = 1 ∧ N2 = Int32.ofNat (2 * cs.length) ∧ vs = wideBytes cs ∧ ∃ c ∈ cs, 255 < c)
theorem CodA.cod {cs : List Int32} {cd N2 : Int32} {vs : List Value} {V : Cell} (h : CodA cs cd N2 vs) (hn : 2 * cs.length < 2 ^ 31) (hs : V.slots.size = N2.toNatClampNeg) (hv : RoadKit.Has V vs (.int 0)) : Cod cd cs.length (fun j => cs.getD j 0) V := by
  rcases h with ⟨rfl, rfl, rfl, h⟩ | ⟨rfl, rfl, rfl, c, hc, hw⟩
  · rw [n32 (by omega)] at hs
    exact Or.inl ⟨rfl, hs, fun j hj => ⟨by rw [hv j (by omega), low_at _ _ _ hj], by
      have e : cs.getD j 0 = cs[j] := by simp [List.getD_eq_getElem?_getD, hj]
      show ¬ 255 < cs.getD j 0
      rw [e]; exact h _ (List.getElem_mem _)⟩⟩
  · rw [n32 (by omega)] at hs
    obtain ⟨j, hj, rfl⟩ := List.getElem_of_mem hc
    exact Or.inr ⟨rfl, hs, fun j hj => ⟨by rw [hv _ (by omega), wide_lo _ _ _ hj], by rw [hv _ (by omega), wide_hi _ _ _ hj]⟩, j, hj, by
      have e : cs.getD j 0 = cs[j] := by simp [List.getD_eq_getElem?_getD, hj]
      show 255 < cs.getD j 0
      rw [e]; exact hw⟩
/-- an object of exactly java/lang/String, its two fields found: as the laws ask it -/
theorem strObj {Z U : State} {a0 : Array Value} {kI : Nat} (wi : (Jvm.Cond.instantiable ST kI).before a0 Z = true) (al : Z.vm.Alike U.vm) {x : Addr} {v0 c0 : Value} (E : RoadKit.Exa Z U.heap x ST) (V : RoadKit.Fld Z U.heap x ST "value" "[B" v0) (C : RoadKit.Fld Z U.heap x ST "coder" "B" c0) :
    ∃ (D : Cell) (fV fC : Field), Blank ST x D U ∧ Found ST "value" "[B" fV U ∧ Found ST "coder" "B" fC U ∧ D.slots[fV.slot]? = some v0 ∧ D.slots[fC.slot]? = some c0 ∧ RoadKit.slotOf Z ST "value" "[B" = fV.slot ∧ RoadKit.slotOf Z ST "coder" "B" = fC.slot := by
  obtain ⟨D, cfV, kV, iV, fV, hD, gV, stV, knV, obV, asV, slV⟩ := V
  obtain ⟨D', cfC, kC, iC, fC, hD', gC, stC, -, -, asC, slC⟩ := C
  cases hD.symm.trans hD'
  obtain ⟨D2, kD, e1, e2, e3, e4, e5⟩ := E
  cases hD.symm.trans e1
  obtain ⟨c2, k2, i1, i2, i3, -⟩ := Cond.instantiable_spec wi
  cases e2.symm.trans i1
  cases e3.symm.trans i2
  obtain ⟨kU, u1, u2⟩ := al.2.2 _ _ e3
  exact ⟨D, fV, fC, ⟨hD, ⟨knV, fun q hq => by rw [hq] at obV; cases obV⟩, by rw [al.findClass]; exact e2, kU, u1, by rw [u2]; exact i3, by rw [u2]; exact e5 i3⟩, ⟨SBG.found_only al ⟨cfV, kV, iV, gV⟩, stV⟩, ⟨SBG.found_only al ⟨cfC, kC, iC, gC⟩, stC⟩, slV, slC, by simp [RoadKit.slotOf, gV], by simp [RoadKit.slotOf, gC]⟩
theorem sta_is {Z U : State} (al : Z.vm.Alike U.vm) {C n d : String} {v : Value} (S : RoadKit.Sta Z U.heap C n d v) : StaticIs U C n d v := by
  obtain ⟨cfS, iS, kS, fS, st, cS, t1, t2, t3, t4, t5, t6, t7⟩ := S
  exact StaticIs.there (s := { Z with heap := U.heap }) ⟨cfS, iS, kS, fS, st, cS, t1, t2, t3, t4, t5, (fun q => by rw [q] at t6; cases t6), t7⟩ al rfl
/-- **length() OF SUCH A STRING** -/
theorem lenW {p : Program} {l : Launch} {e : Env} {R : Room} {s : State} {args : Array Value} {below : List Frame} {len W : Nat} {Z : State} {a0 : Array Value} {h : Heap} (hZ : Z.Warmed39 s.vm) (hw : ∀ d ∈ wordsLen, d.before a0 Z = true) {kI : Nat} (wi : (Jvm.Cond.instantiable ST kI).before a0 Z = true)
    {x t : Addr} {kb : ClassId} {cs : List Int32} {cd N2 z : Int32} {vs : List Value} (E : RoadKit.Exa Z h x ST) (V : RoadKit.Fld Z h x ST "value" "[B" (.ref t)) (C : RoadKit.Fld Z h x ST "coder" "B" (.int cd)) (K : RoadKit.Arv Z h t kb .byte N2 vs (.int 0)) (hc : CodA cs cd N2 vs) (hb : ∀ c ∈ cs, ¬ c < 0 ∧ ¬ (65535 : Int32) < c)
    (S : RoadKit.Sta Z h ST "COMPACT_STRINGS" "Z" (.int z)) (hz : ¬ z = 0) (l2 : cs.length ≤ 4000) (hfr : 2 ≤ R.frames) (hlo : W + 25 ≤ R.locals) :
    Back l R p e below s args (⟨"java/lang/String", "length", "()I"⟩ : MethodName) len W (fun P a => a = #[.ref x] ∧ P.U.heap = h ∧ P.cells + 0 ≤ R.cells ∧ P.slots + 0 ≤ R.slots)
      (fun P _ v B => ∃ L, (v = some (.int (Int32.ofNat cs.length)) ∧ L = [] ∧ B.U.heap = h) ∧ B.locs = P.locs ++ L ∧ B.cells = P.cells + 0 ∧ B.slots = P.slots + 0) := by
  obtain ⟨A, K1, K2, K3, K4, K5, K6⟩ := K
  have hcod := hc.cod (by omega) K3 K5
  intro m meth c P g ig mk a X hg hsize hdg hW hn hp'
  obtain ⟨rfl, rfl, r1, r2⟩ := hp'
  have al : Z.vm.Alike P.U.vm := hZ.alike.trans X.warmed.alike
  obtain ⟨D, fV, fC, hB, F1, F2, g1, g2, -, -⟩ := strObj wi al E V C
  have hx : Txt x t A cd cs.length (fun j => cs.getD j 0) P.U := ⟨⟨_, hB.2.2.1, D, hB.1, rfl, by cases q : D.vm <;> first | rfl | exact absurd q (hB.2.1.2 _)⟩, Has.of hB F1 g1, Has.of hB F2 g2, ⟨K1.1, State.isArrayOf_alike al K1.2.1, K1.2.2, by rcases hcod with ⟨-, q, -⟩ | ⟨-, q, -⟩ <;> omega⟩, hcod, fun j hj => by
    have e : cs.getD j 0 = cs[j] := by simp [List.getD_eq_getElem?_getD, hj]
    show ¬ cs.getD j 0 < 0 ∧ ¬ 65535 < cs.getD j 0
    rw [e]; exact hb _ (List.getElem_mem _)⟩
  obtain ⟨v, B, X', ⟨⟨hv, hh⟩, hl, hk, hs⟩, st⟩ := Len.pays x t A cd cs.length (fun j => cs.getD j 0) z (tabLen_of (movedLen hZ hw)) hfr hlo m meth c P g ig mk _ X hg hsize hdg hW hn ⟨r1, r2, rfl, hx, sta_is al S, hz⟩
  exact ⟨v, B, X', ⟨[], ⟨hv, rfl, hh⟩, hl, hk, hs⟩, st⟩
end StrChars.Road
namespace StrChars
open Jvm Sem ClassFile Op Lib Jvm.Stand Jvm.Free.XT Jvm.Free.ALB Jvm.Free.JM Jvm.Free
open Jvm.Lib.Cold (StaticIs)
/-- what place i of a byte[]'s cell holds -/
def yv (A : Cell) (i : Nat) : Int32 := match A.slots[i]? with | some (.int x) => x | _ => 0
theorem yv_get {a : Addr} {A : Cell} {U : State} (h : XT.Arr .byte a A U) (ht : Typed .byte A) {i : Nat} (hi : i < A.slots.size) : A.slots[i]? = some (.int (yv A i)) := by
  have e := Array.getElem?_eq_getElem hi
  have f := ht i _ e
  unfold yv; rw [e]
  generalize A.slots[i] = v at f
  cases v <;> simp [fits] at f ⊢
/-- the two arrays are equal, place for place -/
def EqC (A B : Cell) : Prop := A.slots.size = B.slots.size ∧ ∀ i, i < A.slots.size → yv A i = yv B i
/-- a boolean that says whether p -/
def Says01 (q : Prop) (r : Option Value) (s u : State) : Prop := ∃ v : Int32, r = some (.int v) ∧ u.heap = s.heap ∧ ((v = 1 ∧ q) ∨ (v = 0 ∧ ¬ q))
theorem Says01.mv {q : Prop} : ∀ r (U U' V V' : State), U'.heap = U.heap → V.vm.Alike V'.vm → V'.heap = V.heap → Says01 q r U V → Says01 q r U' V' :=
  fun r U U' V V' h1 _ h2 ⟨v, a, b, c⟩ => ⟨v, a, by rw [h1, h2]; exact b, c⟩
namespace LEq
def yN : MethodName := ⟨"java/lang/StringLatin1", "equals", "([B[B)Z"⟩
abbrev yB : ByteArray := jdk_43_method_13_code
theorem d0 : decode yB 0 = .ok (.aload_n 0, 1) := by decide +kernel
theorem d1 : decode yB 1 = .ok (.arraylength, 1) := by decide +kernel
theorem d2 : decode yB 2 = .ok (.aload_n 1, 1) := by decide +kernel
theorem d3 : decode yB 3 = .ok (.arraylength, 1) := by decide +kernel
theorem d4 : decode yB 4 = .ok (.if_icmp (.ne) 30, 3) := by decide +kernel
theorem d7 : decode yB 7 = .ok (.iconst 0, 1) := by decide +kernel
theorem d8 : decode yB 8 = .ok (.istore_n 2, 1) := by decide +kernel
theorem d9 : decode yB 9 = .ok (.iload_n 2, 1) := by decide +kernel
theorem d10 : decode yB 10 = .ok (.aload_n 0, 1) := by decide +kernel
theorem d11 : decode yB 11 = .ok (.arraylength, 1) := by decide +kernel
theorem d12 : decode yB 12 = .ok (.if_icmp (.ge) 20, 3) := by decide +kernel
theorem d15 : decode yB 15 = .ok (.aload_n 0, 1) := by decide +kernel
theorem d16 : decode yB 16 = .ok (.iload_n 2, 1) := by decide +kernel
theorem d17 : decode yB 17 = .ok (.baload, 1) := by decide +kernel
theorem d18 : decode yB 18 = .ok (.aload_n 1, 1) := by decide +kernel
theorem d19 : decode yB 19 = .ok (.iload_n 2, 1) := by decide +kernel
theorem d20 : decode yB 20 = .ok (.baload, 1) := by decide +kernel
theorem d21 : decode yB 21 = .ok (.if_icmp (.eq) 5, 3) := by decide +kernel
theorem d24 : decode yB 24 = .ok (.iconst 0, 1) := by decide +kernel
theorem d25 : decode yB 25 = .ok (.ireturn, 1) := by decide +kernel
theorem d26 : decode yB 26 = .ok (.iinc 2 1, 3) := by decide +kernel
theorem d29 : decode yB 29 = .ok (.goto (-20), 3) := by decide +kernel
theorem d32 : decode yB 32 = .ok (.iconst 1, 1) := by decide +kernel
theorem d33 : decode yB 33 = .ok (.ireturn, 1) := by decide +kernel
theorem d34 : decode yB 34 = .ok (.iconst 0, 1) := by decide +kernel
theorem d35 : decode yB 35 = .ok (.ireturn, 1) := by decide +kernel
def site : List Cond := []
def tab : Cond := tabOf yN yB 3 (some .boolean) site
def P (a : Addr) (A : Cell) (b : Addr) (B : Cell) (args : Array Value) (s : State) : Prop := args = #[.ref a, .ref b] ∧ XT.Arr .byte a A s ∧ Typed .byte A ∧ XT.Arr .byte b B s ∧ Typed .byte B
/-- whether two byte[] are equal, place for place -/
theorem law (l : Launch) (a : Addr) (A : Cell) (b : Addr) (B : Cell) : Law l yN 2 2 0 0 yB 3 (some .boolean) site (P a A b B) (Says01 (EqC A B)) [] 0 0 := by
  refine Law.of_walk (plainFor_of_name (by decide +kernel)) (by decide +kernel) (by decide +kernel) (by decide) (fun _ _ h => by rw [h.1]; rfl) (fun _ U U' hal hh h => ⟨h.1, h.2.1.mv hal hh, h.2.2.1, h.2.2.2.1.mv hal hh, h.2.2.2.2⟩) (fun r U U' V V' h1 hal h2 h => Says01.mv r U U' V V' h1 hal h2 h) ?_
  intro p e s m args below meth c s₁ X0 hexec hbytes hml hret hlk hnm hown hh0 W hP
  obtain ⟨rfl, hA, tA, hB, tB⟩ := hP
  have a31 := hA.2.2.2
  have b31 := hB.2.2.2
  have hA0 := hA.mv X0.warmed.alike hh0
  have hB0 := hB.mv X0.warmed.alike hh0
  have c1 : Steps p.tables e below (s₁.setTop (entryFrame m #[.ref a, .ref b] 3)) (s₁.setTop (mkF m 0 #[.val (.ref a), .val (.ref b), .unset] [])) := entry rfl
  have c2 : Steps p.tables e below (s₁.setTop (entryFrame m #[.ref a, .ref b] 3)) (s₁.setTop (mkF m 4 #[.val (.ref a), .val (.ref b), .unset] [.int (Int32.ofNat B.slots.size), .int (Int32.ofNat A.slots.size)])) := c1.trans (by
    refine XS.aloadN X0.here hexec rfl (hb hbytes d0) rfl rfl ?_
    refine X0.alen hexec hA0 rfl rfl (hb hbytes d1) ?_
    refine XS.aloadN X0.here hexec rfl (hb hbytes d2) rfl rfl ?_
    refine X0.alen hexec hB0 rfl rfl (hb hbytes d3) ?_
    exact Steps.refl _)
  by_cases hs : A.slots.size = B.slots.size
  · have c3 : Steps p.tables e below (s₁.setTop (entryFrame m #[.ref a, .ref b] 3)) (s₁.setTop (mkF m 9 #[.val (.ref a), .val (.ref b), .val (.int 0)] [])) := c2.trans (by
      refine XS.icmpNo X0.here hexec rfl (hb hbytes d4) rfl (ii_ne_f (by rw [hs])) ?_
      refine iconstV X0.here hexec rfl 0 (hb hbytes d7) (by decide) ?_
      refine XS.istoreN X0.here hexec rfl (hb hbytes d8) rfl rfl ?_
      exact Steps.refl _)
    have loop : ∀ (r i : Nat), i + r = A.slots.size → (∀ j, j < i → yv A j = yv B j) → Steps p.tables e below (s₁.setTop (entryFrame m #[.ref a, .ref b] 3)) (s₁.setTop (mkF m 9 #[.val (.ref a), .val (.ref b), .val (.int (Int32.ofNat i))] [])) → ∃ (pc : Nat) (Ls : Array Slot) (v : Int32), (pc = 25 ∨ pc = 33) ∧ ((v = 1 ∧ EqC A B) ∨ (v = 0 ∧ ¬ EqC A B)) ∧ Steps p.tables e below (s₁.setTop (entryFrame m #[.ref a, .ref b] 3)) (s₁.setTop (mkF m pc Ls [.int v])) := by
      intro r
      induction r with
      | zero =>
        intro i hi he cl
        exact ⟨33, _, 1, Or.inr rfl, Or.inl ⟨rfl, hs, fun j hj => he j (by omega)⟩, cl.trans (by
          refine XS.iloadN X0.here hexec rfl (hb hbytes d9) rfl ?_
          refine XS.aloadN X0.here hexec rfl (hb hbytes d10) rfl rfl ?_
          refine X0.alen hexec hA0 rfl rfl (hb hbytes d11) ?_
          refine XS.icmpYes X0.here hexec rfl (pc0 := 12) rfl (hb hbytes d12) rfl (ii_ge_t (nlt32 (by omega) (by omega))) (by decide) rfl ?_
          refine iconstV X0.here hexec rfl 1 (hb hbytes d32) (by decide) ?_
          exact Steps.refl _)⟩
      | succ r ih =>
        intro i hi he cl
        have c4 : Steps p.tables e below (s₁.setTop (entryFrame m #[.ref a, .ref b] 3)) (s₁.setTop (mkF m 21 #[.val (.ref a), .val (.ref b), .val (.int (Int32.ofNat i))] [.int (yv B i), .int (yv A i)])) := cl.trans (by
          refine XS.iloadN X0.here hexec rfl (hb hbytes d9) rfl ?_
          refine XS.aloadN X0.here hexec rfl (hb hbytes d10) rfl rfl ?_
          refine X0.alen hexec hA0 rfl rfl (hb hbytes d11) ?_
          refine XS.icmpNo X0.here hexec rfl (hb hbytes d12) rfl (ii_ge_f (lt32 (by omega) (by omega))) ?_
          refine XS.aloadN X0.here hexec rfl (hb hbytes d15) rfl rfl ?_
          refine XS.iloadN X0.here hexec rfl (hb hbytes d16) rfl ?_
          refine X0.aget hexec hA0 rfl (yv_get hA tA (i := i) (by omega)) rfl rfl (hb hbytes d17) ?_
          refine XS.aloadN X0.here hexec rfl (hb hbytes d18) rfl rfl ?_
          refine XS.iloadN X0.here hexec rfl (hb hbytes d19) rfl ?_
          refine X0.aget hexec hB0 rfl (yv_get hB tB (i := i) (by omega)) rfl rfl (hb hbytes d20) ?_
          exact Steps.refl _)
        by_cases hv : yv A i = yv B i
        · have c5 : Steps p.tables e below (s₁.setTop (entryFrame m #[.ref a, .ref b] 3)) (s₁.setTop (mkF m 9 #[.val (.ref a), .val (.ref b), .val (.int (Int32.ofNat i + 1))] [])) := c4.trans (by
            refine XS.icmpYes X0.here hexec rfl (pc0 := 21) rfl (hb hbytes d21) rfl (ii_eq_t hv) (by decide) rfl ?_
            refine iincV X0.here hexec rfl 1 (hb hbytes d26) (by decide) rfl rfl ?_
            refine XS.goto X0.here hexec rfl (pc0 := 29) rfl (hb hbytes d29) (by decide) rfl ?_
            exact Steps.refl _)
          rw [succ32] at c5
          exact ih (i + 1) (by omega) (fun j hj => by
            by_cases e : j = i
            · rw [e]; exact hv
            · exact he j (by omega)) c5
        · exact ⟨25, _, 0, Or.inl rfl, Or.inr ⟨rfl, fun q => hv (q.2 i (by omega))⟩, c4.trans (by
            refine XS.icmpNo X0.here hexec rfl (hb hbytes d21) rfl (ii_eq_f hv) ?_
            refine iconstV X0.here hexec rfl 0 (hb hbytes d24) (by decide) ?_
            exact Steps.refl _)⟩
    obtain ⟨pc, Ls, v, hpc, hv, cz⟩ := loop A.slots.size 0 (by omega) (fun j hj => absurd hj (Nat.not_lt_zero j)) c3
    have nv : narrow .boolean (.int v) = .int v := by rcases hv with ⟨rfl, -⟩ | ⟨rfl, -⟩ <;> rfl
    rcases hpc with rfl | rfl
    · exact ⟨s₁, some (.int v), _, _, _, X0, rfl, rfl, rfl, (fun h => by cases h), ⟨v, rfl, hh0, hv⟩, fun fs hl => cz.trans (X0.ireturnOut hexec hret nv (Or.inr (Or.inl rfl)) (hb hbytes d25) hl)⟩
    · exact ⟨s₁, some (.int v), _, _, _, X0, rfl, rfl, rfl, (fun h => by cases h), ⟨v, rfl, hh0, hv⟩, fun fs hl => cz.trans (X0.ireturnOut hexec hret nv (Or.inr (Or.inl rfl)) (hb hbytes d33) hl)⟩
  · have c3 : Steps p.tables e below (s₁.setTop (entryFrame m #[.ref a, .ref b] 3)) (s₁.setTop (mkF m 35 #[.val (.ref a), .val (.ref b), .unset] [.int 0])) := c2.trans (by
      refine XS.icmpYes X0.here hexec rfl (pc0 := 4) rfl (hb hbytes d4) rfl (ii_ne_t (ne32 a31 b31 hs)) (by decide) rfl ?_
      refine iconstV X0.here hexec rfl 0 (hb hbytes d34) (by decide) ?_
      exact Steps.refl _)
    exact ⟨s₁, some (.int 0), _, _, _, X0, rfl, rfl, rfl, (fun h => by cases h), ⟨0, rfl, hh0, Or.inr ⟨rfl, fun q => hs q.1⟩⟩, fun fs hl => c3.trans (X0.ireturnOut hexec hret rfl (Or.inr (Or.inl rfl)) (hb hbytes d35) hl)⟩
end LEq
theorem Cod.ty {cd : Int32} {n : Nat} {f : Nat → Int32} {V : Cell} (h : Cod cd n f V) : Typed .byte V := fun i v hv => by
  have hi : i < V.slots.size := (Array.getElem?_eq_some_iff.mp hv).1
  rcases h with ⟨-, k1, k2⟩ | ⟨-, k1, k2, -⟩
  · rw [(k2 i (by omega)).1] at hv; cases hv; exact fits_lo8 _
  · rcases Nat.mod_two_eq_zero_or_one i with e | e
    · obtain ⟨j, rfl⟩ : ∃ j, i = 2 * j := ⟨i / 2, by omega⟩
      rw [(k2 j (by omega)).1] at hv; cases hv; exact fits_lo8 _
    · obtain ⟨j, rfl⟩ : ∃ j, i = 2 * j + 1 := ⟨i / 2, by omega⟩
      rw [(k2 j (by omega)).2] at hv; cases hv; exact fits_lo8 _
/-- the same text -/
def SameT (n : Nat) (f : Nat → Int32) (k : Nat) (g : Nat → Int32) : Prop := n = k ∧ ∀ j, j < n → f j = g j
theorem lo8_inj {x y : Int32} (h0 : ¬ x < 0) (h1 : ¬ 255 < x) (k0 : ¬ y < 0) (k1 : ¬ 255 < y) (h : lo8 x = lo8 y) : x = y := by
  rw [← lo8_mask h0 h1, ← lo8_mask k0 k1, h]
/-- arrays coded by one coder are equal just where the texts are -/
theorem Cod.eqv {cd : Int32} {n k : Nat} {f g : Nat → Int32} {V V' : Cell} (h : Cod cd n f V) (h' : Cod cd k g V') (hf : ∀ j, j < n → ¬ f j < 0 ∧ ¬ 65535 < f j) (hg : ∀ j, j < k → ¬ g j < 0 ∧ ¬ 65535 < g j) : EqC V V' ↔ SameT n f k g := by
  have yvv : ∀ {W : Cell} {i : Nat} {x : Int32}, W.slots[i]? = some (.int x) → yv W i = x := fun q => by unfold yv; rw [q]
  rcases h with ⟨rfl, k1, k2⟩ | ⟨rfl, k1, k2, -⟩
  · rcases h' with ⟨-, m1, m2⟩ | ⟨e, -⟩
    · constructor
      · rintro ⟨e1, e2⟩
        refine ⟨by omega, fun j hj => ?_⟩
        have q := e2 j (by omega)
        rw [yvv (k2 j hj).1, yvv (m2 j (by omega)).1] at q
        exact lo8_inj (hf j hj).1 (k2 j hj).2 (hg j (by omega)).1 (m2 j (by omega)).2 q
      · rintro ⟨rfl, e2⟩
        refine ⟨by omega, fun j hj => ?_⟩
        rw [yvv (k2 j (by omega)).1, yvv (m2 j (by omega)).1, e2 j (by omega)]
    · exact absurd e (by decide)
  · rcases h' with ⟨e, -⟩ | ⟨-, m1, m2, -⟩
    · exact absurd e (by decide)
    · constructor
      · rintro ⟨e1, e2⟩
        refine ⟨by omega, fun j hj => ?_⟩
        have q1 := e2 (2 * j) (by omega)
        have q2 := e2 (2 * j + 1) (by omega)
        rw [yvv (k2 j hj).1, yvv (m2 j (by omega)).1] at q1
        rw [yvv (k2 j hj).2, yvv (m2 j (by omega)).2] at q2
        rw [← pair_says (hf j hj).1 (hf j hj).2, ← pair_says (hg j (by omega)).1 (hg j (by omega)).2, q1, q2]
      · rintro ⟨rfl, e2⟩
        refine ⟨by omega, fun i hi => ?_⟩
        rcases Nat.mod_two_eq_zero_or_one i with e | e
        · obtain ⟨j, rfl⟩ : ∃ j, i = 2 * j := ⟨i / 2, by omega⟩
          rw [yvv (k2 j (by omega)).1, yvv (m2 j (by omega)).1, e2 j (by omega)]
        · obtain ⟨j, rfl⟩ : ∃ j, i = 2 * j + 1 := ⟨i / 2, by omega⟩
          rw [yvv (k2 j (by omega)).2, yvv (m2 j (by omega)).2, e2 j (by omega)]
/-- two codings differ: so do the texts -/
theorem Cod.dif {cd cd' : Int32} {n k : Nat} {f g : Nat → Int32} {V V' : Cell} (h : Cod cd n f V) (h' : Cod cd' k g V') (hne : ¬ cd = cd') : ¬ SameT n f k g := by
  rintro ⟨rfl, e⟩
  rcases h with ⟨rfl, -, k2⟩ | ⟨rfl, -, -, j, hj, hw⟩
  · rcases h' with ⟨rfl, -⟩ | ⟨-, -, -, j, hj, hw⟩
    · exact hne rfl
    · exact (k2 j hj).2 (by rw [e j hj]; exact hw)
  · rcases h' with ⟨-, -, m2⟩ | ⟨rfl, -⟩
    · exact (m2 j hj).2 (by rw [← e j hj]; exact hw)
    · exact hne rfl
/-- an object of exactly C is an instance of C -/
theorem cinst {p : Program} {l : Launch} {e : Env} {R : Room} {s : State} {m : MethodId} {args : Array Value} {below : List Frame} {meth : Method} {c : Code} {T : State} {locs : List Loc} {cells slots : Nat} (X : Stand p l e R s m args below meth c T locs cells slots) (hexec : p.tables.exec = Jvm.exec) {own C : String} {index : Nat} (hown : s.vm.findClass own = some m.cls) (hlink : (Cond.classLink own index C).before args s = true) {a : Addr} (hE : Exact C a T)
    {g : JFrame} (hg : g.method = m) {rest : List Value} (hstack : g.stack = .ref a :: rest) (hdg : decode c.code g.pc = .ok (.instanceof index, 3)) :
    ∃ T', Stand p l e R s m args below meth c T' locs cells slots ∧ T'.heap = T.heap ∧ ∀ target, Steps p.tables e below (T'.setTop { g with pc := g.pc + 3, stack := .int 1 :: rest }) target → Steps p.tables e below (T.setTop g) target := by
  obtain ⟨cB, h1, D, h2, h3, h4⟩ := hE
  have h1' : s.vm.findClass C = some cB := by rw [← X.warmed.alike.findClass]; exact h1
  obtain ⟨vm', X', st⟩ := X.instanceofYes hexec hown hlink h2 h4 h1' (by rw [h3]; exact Jvm.Free.SB.assignable_self _ _) hg hstack hdg
  exact ⟨_, X', rfl, st⟩
theorem cself {p : Program} {l : Launch} {e : Env} {R : Room} {s : State} {m : MethodId} {args : Array Value} {below : List Frame} {meth : Method} {c : Code} {T : State} {locs : List Loc} {cells slots : Nat} (X : Stand p l e R s m args below meth c T locs cells slots) (hexec : p.tables.exec = Jvm.exec) {own C : String} {index : Nat} (hown : s.vm.findClass own = some m.cls) (hlink : (Cond.classLink own index C).before args s = true) {a : Addr} (hE : Exact C a T)
    {g : JFrame} (hg : g.method = m) {rest : List Value} (hstack : g.stack = .ref a :: rest) (hdg : decode c.code g.pc = .ok (.checkcast index, 3)) :
    ∃ T', Stand p l e R s m args below meth c T' locs cells slots ∧ T'.heap = T.heap ∧ ∀ target, Steps p.tables e below (T'.setTop { g with pc := g.pc + 3, stack := .ref a :: rest }) target → Steps p.tables e below (T.setTop g) target := by
  obtain ⟨cB, h1, D, h2, h3, h4⟩ := hE
  have h1' : s.vm.findClass C = some cB := by rw [← X.warmed.alike.findClass]; exact h1
  obtain ⟨vm', X', st⟩ := X.checkcastYes hexec hown hlink h2 h4 h1' (by rw [h3]; exact Jvm.Free.SB.assignable_self _ _) hg hstack hdg
  exact ⟨_, X', rfl, fun t h => st t (by rw [← hstack] at h; exact h)⟩
namespace SEq
def yN : MethodName := ⟨"java/lang/String", "equals", "(Ljava/lang/Object;)Z"⟩
abbrev yB : ByteArray := jdk_42_method_66_code
theorem d0 : decode yB 0 = .ok (.aload_n 0, 1) := by decide +kernel
theorem d1 : decode yB 1 = .ok (.aload_n 1, 1) := by decide +kernel
theorem d2 : decode yB 2 = .ok (.if_acmp (.ne) 5, 3) := by decide +kernel
theorem d5 : decode yB 5 = .ok (.iconst 1, 1) := by decide +kernel
theorem d6 : decode yB 6 = .ok (.ireturn, 1) := by decide +kernel
theorem d7 : decode yB 7 = .ok (.aload_n 1, 1) := by decide +kernel
theorem d8 : decode yB 8 = .ok (.instanceof 10, 3) := by decide +kernel
theorem d11 : decode yB 11 = .ok (.ifCond (.eq) 43, 3) := by decide +kernel
theorem d14 : decode yB 14 = .ok (.aload_n 1, 1) := by decide +kernel
theorem d15 : decode yB 15 = .ok (.checkcast 10, 3) := by decide +kernel
theorem d18 : decode yB 18 = .ok (.astore_n 2, 1) := by decide +kernel
theorem d19 : decode yB 19 = .ok (.getstatic 38, 3) := by decide +kernel
theorem d22 : decode yB 22 = .ok (.ifCond (.eq) 14, 3) := by decide +kernel
theorem d25 : decode yB 25 = .ok (.aload_n 0, 1) := by decide +kernel
theorem d26 : decode yB 26 = .ok (.getfield 15, 3) := by decide +kernel
theorem d29 : decode yB 29 = .ok (.aload_n 2, 1) := by decide +kernel
theorem d30 : decode yB 30 = .ok (.getfield 15, 3) := by decide +kernel
theorem d33 : decode yB 33 = .ok (.if_icmp (.ne) 21, 3) := by decide +kernel
theorem d36 : decode yB 36 = .ok (.aload_n 0, 1) := by decide +kernel
theorem d37 : decode yB 37 = .ok (.getfield 9, 3) := by decide +kernel
theorem d40 : decode yB 40 = .ok (.aload_n 2, 1) := by decide +kernel
theorem d41 : decode yB 41 = .ok (.getfield 9, 3) := by decide +kernel
theorem d44 : decode yB 44 = .ok (.invokestatic 541, 3) := by decide +kernel
theorem d47 : decode yB 47 = .ok (.ifCond (.eq) 7, 3) := by decide +kernel
theorem d50 : decode yB 50 = .ok (.iconst 1, 1) := by decide +kernel
theorem d51 : decode yB 51 = .ok (.goto 4, 3) := by decide +kernel
theorem d54 : decode yB 54 = .ok (.iconst 0, 1) := by decide +kernel
theorem d55 : decode yB 55 = .ok (.ireturn, 1) := by decide +kernel
def site : List Cond := [.classLink "java/lang/String" 10 "java/lang/String", .fieldLink "java/lang/String" 38 "java/lang/String" "COMPACT_STRINGS" "Z", .fieldLink "java/lang/String" 15 "java/lang/String" "coder" "B", .fieldLink "java/lang/String" 9 "java/lang/String" "value" "[B", LEq.tab] ++ staticW "java/lang/String" 541 LEq.yN
def tab : Cond := tabOf yN yB 3 (some .boolean) site
def P (x t : Addr) (V : Cell) (cd : Int32) (n : Nat) (f : Nat → Int32) (y t' : Addr) (V' : Cell) (cd' : Int32) (k : Nat) (g : Nat → Int32) (z : Int32) (args : Array Value) (s : State) : Prop := args = #[.ref x, .ref y] ∧ Txt x t V cd n f s ∧ Txt y t' V' cd' k g s ∧ StaticIs s "java/lang/String" "COMPACT_STRINGS" "Z" (.int z) ∧ ¬ z = 0
/-- equals(Object) of two Strings: whether the texts are the same -/
theorem law (l : Launch) (x t : Addr) (V : Cell) (cd : Int32) (n : Nat) (f : Nat → Int32) (y t' : Addr) (V' : Cell) (cd' : Int32) (k : Nat) (g : Nat → Int32) (z : Int32) : Law l yN 2 1 1 14 yB 3 (some .boolean) site (P x t V cd n f y t' V' cd' k g z) (Says01 (SameT n f k g)) [] 0 0 := by
  refine Law.of_walk (plainFor_of_name (by decide +kernel)) (by decide +kernel) (by decide +kernel) (by decide) (fun _ _ h => by rw [h.1]; rfl) (fun _ U U' hal hh h => ⟨h.1, h.2.1.mv hal hh, h.2.2.1.mv hal hh, h.2.2.2.1.there hal hh, h.2.2.2.2⟩) (fun r U U' V V' h1 hal h2 h => Says01.mv r U U' V V' h1 hal h2 h) ?_
  intro p e s m args below meth c s₁ X0 hexec hbytes hml hret hlk hnm hown hh0 W hP
  obtain ⟨rfl, hx, hy, s1, hz⟩ := hP
  have c1 : Steps p.tables e below (s₁.setTop (entryFrame m #[.ref x, .ref y] 3)) (s₁.setTop (mkF m 2 #[.val (.ref x), .val (.ref y), .unset] [.ref y, .ref x])) := Steps.trans (entry rfl) (by
    show Steps p.tables e below (s₁.setTop (mkF m 0 #[.val (.ref x), .val (.ref y), .unset] [])) _
    refine XS.aloadN X0.here hexec rfl (hb hbytes d0) rfl rfl ?_
    refine XS.aloadN X0.here hexec rfl (hb hbytes d1) rfl rfl ?_
    exact Steps.refl _)
  by_cases hxy : x = y
  · have c2 : Steps p.tables e below (s₁.setTop (entryFrame m #[.ref x, .ref y] 3)) (s₁.setTop (mkF m 6 #[.val (.ref x), .val (.ref y), .unset] [.int 1])) := c1.trans (by
      refine acmpNo X0.here hexec rfl (hb hbytes d2) rfl rfl rfl (by simp [acmp, hxy]) ?_
      refine iconstV X0.here hexec rfl 1 (hb hbytes d5) (by decide) ?_
      exact Steps.refl _)
    subst hxy
    have ec : cd = cd' := by
      obtain ⟨D, fd, a1, a2, a3⟩ := hx.2.2.1
      obtain ⟨D', fd', b1, b2, b3⟩ := hy.2.2.1
      cases a1.symm.trans b1
      obtain ⟨q1, q2, q3, q4⟩ := a2.1
      obtain ⟨r1, r2, r3, r4⟩ := b2.1
      cases q4.symm.trans r4
      cases a3.symm.trans b3; rfl
    have et : t = t' := by
      obtain ⟨D, fd, a1, a2, a3⟩ := hx.2.1
      obtain ⟨D', fd', b1, b2, b3⟩ := hy.2.1
      cases a1.symm.trans b1
      obtain ⟨q1, q2, q3, q4⟩ := a2.1
      obtain ⟨r1, r2, r3, r4⟩ := b2.1
      cases q4.symm.trans r4
      cases a3.symm.trans b3; rfl
    subst ec et
    have ev : V = V' := by cases hx.2.2.2.1.1.symm.trans hy.2.2.2.1.1; rfl
    subst ev
    have hs : SameT n f k g := (Cod.eqv hx.2.2.2.2.1 hy.2.2.2.2.1 hx.2.2.2.2.2 hy.2.2.2.2.2).mp ⟨rfl, fun _ _ => rfl⟩
    exact ⟨s₁, some (.int 1), _, _, _, X0, rfl, rfl, rfl, (fun h => by cases h), ⟨1, rfl, hh0, Or.inl ⟨rfl, hs⟩⟩, fun fs hl => c2.trans (X0.ireturnOut hexec hret rfl (Or.inr (Or.inl rfl)) (hb hbytes d6) hl)⟩
  · have c2 : Steps p.tables e below (s₁.setTop (entryFrame m #[.ref x, .ref y] 3)) (s₁.setTop (mkF m 8 #[.val (.ref x), .val (.ref y), .unset] [.ref y])) := c1.trans (by
      refine acmpYes X0.here hexec rfl (pc0 := 2) rfl (hb hbytes d2) rfl rfl rfl (by simp [acmp, hxy]) (by decide) rfl ?_
      refine XS.aloadN X0.here hexec rfl (hb hbytes d7) rfl rfl ?_
      exact Steps.refl _)
    obtain ⟨T3, X3, q3, st3⟩ := cinst X0 hexec hown (wk W (.classLink "java/lang/String" 10 "java/lang/String")) (hy.mv X0.warmed.alike hh0).1 (g := (mkF m 8 #[.val (.ref x), .val (.ref y), .unset] [.ref y])) rfl (rest := []) rfl (hb hbytes d8)
    have hh3 := q3.trans hh0
    have c4 : Steps p.tables e below (s₁.setTop (entryFrame m #[.ref x, .ref y] 3)) (T3.setTop (mkF m 15 #[.val (.ref x), .val (.ref y), .unset] [.ref y])) := (c2.trans (st3 _ (Steps.refl _))).trans (by
      refine XS.ifNo X3.here hexec rfl (hb hbytes d11) rfl (i0_eq_f (by decide)) ?_
      refine XS.aloadN X3.here hexec rfl (hb hbytes d14) rfl rfl ?_
      exact Steps.refl _)
    obtain ⟨T5, X5, q5, st5⟩ := cself X3 hexec hown (wk W (.classLink "java/lang/String" 10 "java/lang/String")) (hy.mv X3.warmed.alike hh3).1 (g := (mkF m 15 #[.val (.ref x), .val (.ref y), .unset] [.ref y])) rfl (rest := []) rfl (hb hbytes d15)
    have hh5 := q5.trans hh3
    have c6 : Steps p.tables e below (s₁.setTop (entryFrame m #[.ref x, .ref y] 3)) (T5.setTop (mkF m 19 #[.val (.ref x), .val (.ref y), .val (.ref y)] [])) := (c4.trans (st5 _ (Steps.refl _))).trans (by
      refine XS.astoreN X5.here hexec rfl (hb hbytes d18) rfl rfl rfl ?_
      exact Steps.refl _)
    obtain ⟨T7, X7, q7, st7⟩ := X5.sget hexec hown (wk W (.fieldLink "java/lang/String" 38 "java/lang/String" "COMPACT_STRINGS" "Z")) s1 (fun _ _ h => by rw [hh5]; exact h) (g := (mkF m 19 #[.val (.ref x), .val (.ref y), .val (.ref y)] [])) rfl (hb hbytes d19)
    have hh7 := q7.trans hh5
    have c8 : Steps p.tables e below (s₁.setTop (entryFrame m #[.ref x, .ref y] 3)) (T7.setTop (mkF m 26 #[.val (.ref x), .val (.ref y), .val (.ref y)] [.ref x])) := (c6.trans (st7 _ (Steps.refl _))).trans (by
      refine XS.ifNo X7.here hexec rfl (hb hbytes d22) rfl (i0_eq_f hz) ?_
      refine XS.aloadN X7.here hexec rfl (hb hbytes d25) rfl rfl ?_
      exact Steps.refl _)
    obtain ⟨T9, X9, q9, st9⟩ := X7.hget hexec hown (wk W (.fieldLink "java/lang/String" 15 "java/lang/String" "coder" "B")) (hx.mv X7.warmed.alike hh7).2.2.1 (g := (mkF m 26 #[.val (.ref x), .val (.ref y), .val (.ref y)] [.ref x])) rfl (rest := []) rfl (hb hbytes d26)
    have hh9 := q9.trans hh7
    have c10 : Steps p.tables e below (s₁.setTop (entryFrame m #[.ref x, .ref y] 3)) (T9.setTop (mkF m 30 #[.val (.ref x), .val (.ref y), .val (.ref y)] [.ref y, .int cd])) := (c8.trans (st9 _ (Steps.refl _))).trans (by
      refine XS.aloadN X9.here hexec rfl (hb hbytes d29) rfl rfl ?_
      exact Steps.refl _)
    obtain ⟨T11, X11, q11, st11⟩ := X9.hget hexec hown (wk W (.fieldLink "java/lang/String" 15 "java/lang/String" "coder" "B")) (hy.mv X9.warmed.alike hh9).2.2.1 (g := (mkF m 30 #[.val (.ref x), .val (.ref y), .val (.ref y)] [.ref y, .int cd])) rfl (rest := [.int cd]) rfl (hb hbytes d30)
    have hh11 := q11.trans hh9
    have c12 : Steps p.tables e below (s₁.setTop (entryFrame m #[.ref x, .ref y] 3)) (T11.setTop (mkF m 33 #[.val (.ref x), .val (.ref y), .val (.ref y)] [.int cd', .int cd])) := c10.trans (st11 _ (Steps.refl _))
    by_cases hcd : cd = cd'
    · subst hcd
      have c13 : Steps p.tables e below (s₁.setTop (entryFrame m #[.ref x, .ref y] 3)) (T11.setTop (mkF m 37 #[.val (.ref x), .val (.ref y), .val (.ref y)] [.ref x])) := c12.trans (by
        refine XS.icmpNo X11.here hexec rfl (hb hbytes d33) rfl (ii_ne_f rfl) ?_
        refine XS.aloadN X11.here hexec rfl (hb hbytes d36) rfl rfl ?_
        exact Steps.refl _)
      obtain ⟨T14, X14, q14, st14⟩ := X11.hget hexec hown (wk W (.fieldLink "java/lang/String" 9 "java/lang/String" "value" "[B")) (hx.mv X11.warmed.alike hh11).2.1 (g := (mkF m 37 #[.val (.ref x), .val (.ref y), .val (.ref y)] [.ref x])) rfl (rest := []) rfl (hb hbytes d37)
      have hh14 := q14.trans hh11
      have c15 : Steps p.tables e below (s₁.setTop (entryFrame m #[.ref x, .ref y] 3)) (T14.setTop (mkF m 41 #[.val (.ref x), .val (.ref y), .val (.ref y)] [.ref y, .ref t])) := (c13.trans (st14 _ (Steps.refl _))).trans (by
        refine XS.aloadN X14.here hexec rfl (hb hbytes d40) rfl rfl ?_
        exact Steps.refl _)
      obtain ⟨T16, X16, q16, st16⟩ := X14.hget hexec hown (wk W (.fieldLink "java/lang/String" 9 "java/lang/String" "value" "[B")) (hy.mv X14.warmed.alike hh14).2.1 (g := (mkF m 41 #[.val (.ref x), .val (.ref y), .val (.ref y)] [.ref y, .ref t])) rfl (rest := [.ref t]) rfl (hb hbytes d41)
      have hh16 := q16.trans hh14
      have c17 : Steps p.tables e below (s₁.setTop (entryFrame m #[.ref x, .ref y] 3)) (T16.setTop (mkF m 44 #[.val (.ref x), .val (.ref y), .val (.ref y)] [.ref t', .ref t])) := c15.trans (st16 _ (Steps.refl _))
      obtain ⟨v18, T18, X18, E18, g18⟩ := X16.callS hexec (LEq.law l t V t' V') hown (wks W (staticW "java/lang/String" 541 LEq.yN)) (wk W LEq.tab) (W := 0) (Nat.le_of_ble_eq_true rfl) (Nat.le_of_ble_eq_true rfl) (Nat.le_refl _) (Nat.le_refl _) (g := (mkF m 44 #[.val (.ref x), .val (.ref y), .val (.ref y)] [.ref t', .ref t])) rfl (by rw [hml]; rfl) c17 (argsL := [.ref t, .ref t']) (rest := []) rfl rfl (by show 2 * 0 + 0 ≤ _; decide) (hb hbytes d44) (⟨rfl, hx.2.2.2.1.mv X16.warmed.alike hh16, hx.2.2.2.2.1.ty, hy.2.2.2.1.mv X16.warmed.alike hh16, hy.2.2.2.2.1.ty⟩)
      obtain ⟨v, rfl, q18, hv⟩ := E18
      have iff := Cod.eqv hx.2.2.2.2.1 hy.2.2.2.2.1 hx.2.2.2.2.2 hy.2.2.2.2.2
      rcases hv with ⟨rfl, he⟩ | ⟨rfl, he⟩
      · have c19 : Steps p.tables e below (s₁.setTop (entryFrame m #[.ref x, .ref y] 3)) (T18.setTop (mkF m 55 #[.val (.ref x), .val (.ref y), .val (.ref y)] [.int 1])) := Steps.trans g18 (by
          refine XS.ifNo X18.here hexec rfl (hb hbytes d47) rfl (i0_eq_f (by decide)) ?_
          refine iconstV X18.here hexec rfl 1 (hb hbytes d50) (by decide) ?_
          refine XS.goto X18.here hexec rfl (pc0 := 51) rfl (hb hbytes d51) (by decide) rfl ?_
          exact Steps.refl _)
        exact ⟨T18, some (.int 1), _, _, _, X18, rfl, rfl, rfl, (fun h => by cases h), ⟨1, rfl, q18.trans hh16, Or.inl ⟨rfl, iff.mp he⟩⟩, fun fs hl => c19.trans (X18.ireturnOut hexec hret rfl (Or.inr (Or.inl rfl)) (hb hbytes d55) hl)⟩
      · have c19 : Steps p.tables e below (s₁.setTop (entryFrame m #[.ref x, .ref y] 3)) (T18.setTop (mkF m 55 #[.val (.ref x), .val (.ref y), .val (.ref y)] [.int 0])) := Steps.trans g18 (by
          refine XS.ifYes X18.here hexec rfl (pc0 := 47) rfl (hb hbytes d47) rfl (i0_eq_t rfl) (by decide) rfl ?_
          refine iconstV X18.here hexec rfl 0 (hb hbytes d54) (by decide) ?_
          exact Steps.refl _)
        exact ⟨T18, some (.int 0), _, _, _, X18, rfl, rfl, rfl, (fun h => by cases h), ⟨0, rfl, q18.trans hh16, Or.inr ⟨rfl, fun q => he (iff.mpr q)⟩⟩, fun fs hl => c19.trans (X18.ireturnOut hexec hret rfl (Or.inr (Or.inl rfl)) (hb hbytes d55) hl)⟩
    · have c13 : Steps p.tables e below (s₁.setTop (entryFrame m #[.ref x, .ref y] 3)) (T11.setTop (mkF m 55 #[.val (.ref x), .val (.ref y), .val (.ref y)] [.int 0])) := c12.trans (by
        refine XS.icmpYes X11.here hexec rfl (pc0 := 33) rfl (hb hbytes d33) rfl (ii_ne_t hcd) (by decide) rfl ?_
        refine iconstV X11.here hexec rfl 0 (hb hbytes d54) (by decide) ?_
        exact Steps.refl _)
      exact ⟨T11, some (.int 0), _, _, _, X11, rfl, rfl, rfl, (fun h => by cases h), ⟨0, rfl, hh11, Or.inr ⟨rfl, Cod.dif hx.2.2.2.2.1 hy.2.2.2.2.1 hcd⟩⟩, fun fs hl => c13.trans (X11.ireturnOut hexec hret rfl (Or.inr (Or.inl rfl)) (hb hbytes d55) hl)⟩
theorem pays {l : Launch} {R : Room} {p : Program} {e : Env} {below : List Frame} {s : State} {sargs : Array Value} {len W : Nat} (x t : Addr) (V : Cell) (cd : Int32) (n : Nat) (f : Nat → Int32) (y t' : Addr) (V' : Cell) (cd' : Int32) (k : Nat) (g : Nat → Int32) (z : Int32) (htab : tab.before sargs s = true) (hfr : 2 ≤ R.frames) (hlo : W + 28 ≤ R.locals) :
    Back l R p e below s sargs yN len W (fun A₁ a₁ => A₁.cells + 0 ≤ R.cells ∧ A₁.slots + 0 ≤ R.slots ∧ P x t V cd n f y t' V' cd' k g z a₁ A₁.U) (fun A₁ _ v₁ B₁ => Says01 (SameT n f k g) v₁ A₁.U B₁.U ∧ B₁.locs = A₁.locs ++ [] ∧ B₁.cells = A₁.cells + 0 ∧ B₁.slots = A₁.slots + 0) :=
  (law l x t V cd n f y t' V' cd' k g z).pays htab hfr (by omega)
end SEq
end StrChars
namespace StrChars.Road
open Jvm Sem ClassFile Op Lib Jvm.Stand Jvm.Free Jvm.Free.XT
open Jvm.Lib.Cold (StaticIs)
/-- the words of String.equals(Object) -/
abbrev wordsEq : List Jvm.Cond := [.code SEq.yN SEq.yB 3 (some .boolean), .initialized ST, .classLink ST 10 ST, .fieldLink ST 38 ST "COMPACT_STRINGS" "Z", .fieldLink ST 15 ST "coder" "B", .fieldLink ST 9 ST "value" "[B", .methodLink ST 541 LEq.yN, .static LEq.yN, .code LEq.yN LEq.yB 3 (some .boolean), .initialized "java/lang/StringLatin1"]
theorem tabEq_of {a : Array Value} {s : State} (h : ∀ w ∈ wordsEq, w.before a s = true) : SEq.tab.before a s = true := by
  have hl : LEq.tab.before a s = true := unparts (wk h (.code LEq.yN LEq.yB 3 (some .boolean))) (wks h (.initialized LEq.yN.cls :: LEq.site))
  have q := consq hl h
  exact unparts (wk q (.code SEq.yN SEq.yB 3 (some .boolean))) (wks q (.initialized SEq.yN.cls :: SEq.site))
theorem movedEq {Z s : State} {a0 args : Array Value} (hZ : Z.Warmed39 s.vm) (hw : ∀ d ∈ wordsEq, d.before a0 Z = true) : ∀ d ∈ wordsEq, d.before args s = true := fun d hd => by
  have t : ∀ d ∈ wordsEq, (d.onTables && d.keepsFace) = true := by decide +kernel
  exact RoadKit.mv hZ (hw d hd) (t d hd)
/-- the road's facts of a String, as the laws ask it -/
theorem txt_of {Z U : State} {a0 : Array Value} {kI : Nat} (wi : (Jvm.Cond.instantiable ST kI).before a0 Z = true) (al : Z.vm.Alike U.vm) {x t : Addr} {kb : ClassId} {cs : List Int32} {cd N2 : Int32} {vs : List Value} (E : RoadKit.Exa Z U.heap x ST) (V : RoadKit.Fld Z U.heap x ST "value" "[B" (.ref t)) (C : RoadKit.Fld Z U.heap x ST "coder" "B" (.int cd)) (K : RoadKit.Arv Z U.heap t kb .byte N2 vs (.int 0)) (hc : CodA cs cd N2 vs) (hb : ∀ c ∈ cs, ¬ c < 0 ∧ ¬ (65535 : Int32) < c) (l2 : cs.length ≤ 4000) :
    ∃ A, Txt x t A cd cs.length (fun j => cs.getD j 0) U := by
  obtain ⟨A, K1, K2, K3, K4, K5, K6⟩ := K
  have hcod := hc.cod (by omega) K3 K5
  obtain ⟨D, fV, fC, hB, F1, F2, g1, g2, -, -⟩ := strObj wi al E V C
  exact ⟨A, ⟨_, hB.2.2.1, D, hB.1, rfl, by cases q : D.vm <;> first | rfl | exact absurd q (hB.2.1.2 _)⟩, Has.of hB F1 g1, Has.of hB F2 g2, ⟨K1.1, State.isArrayOf_alike al K1.2.1, K1.2.2, by rcases hcod with ⟨-, q, -⟩ | ⟨-, q, -⟩ <;> omega⟩, hcod, fun j hj => by
    have e : cs.getD j 0 = cs[j] := by simp [List.getD_eq_getElem?_getD, hj]
    show ¬ cs.getD j 0 < 0 ∧ ¬ 65535 < cs.getD j 0
    rw [e]; exact hb _ (List.getElem_mem _)⟩
theorem same_list (cs ds : List Int32) : SameT cs.length (fun j => cs.getD j 0) ds.length (fun j => ds.getD j 0) ↔ cs = ds := by
  constructor
  · rintro ⟨e, q⟩
    refine List.ext_getElem e fun j h1 h2 => ?_
    have := q j h1
    simpa [List.getD_eq_getElem?_getD, h1, h2] using this
  · rintro rfl
    exact ⟨rfl, fun _ _ => rfl⟩
/-- **equals(Object) OF TWO SUCH STRINGS**: 1 just where the chars are the same -/
theorem eqW {p : Program} {l : Launch} {e : Env} {R : Room} {s : State} {args : Array Value} {below : List Frame} {len W : Nat} {Z : State} {a0 : Array Value} {h : Heap} (hZ : Z.Warmed39 s.vm) (hw : ∀ d ∈ wordsEq, d.before a0 Z = true) {kI : Nat} (wi : (Jvm.Cond.instantiable ST kI).before a0 Z = true)
    {x t : Addr} {kb : ClassId} {cs : List Int32} {cd N2 : Int32} {vs : List Value} (E : RoadKit.Exa Z h x ST) (V : RoadKit.Fld Z h x ST "value" "[B" (.ref t)) (C : RoadKit.Fld Z h x ST "coder" "B" (.int cd)) (K : RoadKit.Arv Z h t kb .byte N2 vs (.int 0)) (hc : CodA cs cd N2 vs) (hb : ∀ c ∈ cs, ¬ c < 0 ∧ ¬ (65535 : Int32) < c) (l2 : cs.length ≤ 4000)
    {y t' : Addr} {kb' : ClassId} {ds : List Int32} {cd' N2' : Int32} {vs' : List Value} (E' : RoadKit.Exa Z h y ST) (V' : RoadKit.Fld Z h y ST "value" "[B" (.ref t')) (C' : RoadKit.Fld Z h y ST "coder" "B" (.int cd')) (K' : RoadKit.Arv Z h t' kb' .byte N2' vs' (.int 0)) (hc' : CodA ds cd' N2' vs') (hb' : ∀ c ∈ ds, ¬ c < 0 ∧ ¬ (65535 : Int32) < c) (l2' : ds.length ≤ 4000)
    {z : Int32} (S : RoadKit.Sta Z h ST "COMPACT_STRINGS" "Z" (.int z)) (hz : ¬ z = 0) (hfr : 2 ≤ R.frames) (hlo : W + 28 ≤ R.locals) :
    Back l R p e below s args (⟨"java/lang/String", "equals", "(Ljava/lang/Object;)Z"⟩ : MethodName) len W (fun P a => a = #[.ref x, .ref y] ∧ P.U.heap = h ∧ P.cells + 0 ≤ R.cells ∧ P.slots + 0 ≤ R.slots)
      (fun P _ v B => ∃ L, (((v = some (.int 1) ∧ cs = ds) ∨ (v = some (.int 0) ∧ ¬ cs = ds)) ∧ L = [] ∧ B.U.heap = h) ∧ B.locs = P.locs ++ L ∧ B.cells = P.cells + 0 ∧ B.slots = P.slots + 0) := by
  intro m meth c P g ig mk a X hg hsize hdg hW hn hp'
  obtain ⟨rfl, rfl, r1, r2⟩ := hp'
  have al : Z.vm.Alike P.U.vm := hZ.alike.trans X.warmed.alike
  obtain ⟨A, hx⟩ := txt_of wi al E V C K hc hb l2
  obtain ⟨A', hy⟩ := txt_of wi al E' V' C' K' hc' hb' l2'
  obtain ⟨v, B, X', ⟨⟨w, hv, hh, hq⟩, hl, hk, hs⟩, st⟩ := SEq.pays x t A cd cs.length (fun j => cs.getD j 0) y t' A' cd' ds.length (fun j => ds.getD j 0) z (tabEq_of (movedEq hZ hw)) hfr hlo m meth c P g ig mk _ X hg hsize hdg hW hn ⟨r1, r2, rfl, hx, hy, sta_is al S, hz⟩
  refine ⟨v, B, X', ⟨[], ⟨?_, rfl, hh⟩, hl, hk, hs⟩, st⟩
  rcases hq with ⟨rfl, q⟩ | ⟨rfl, q⟩
  · exact Or.inl ⟨hv, (same_list cs ds).mp q⟩
  · exact Or.inr ⟨hv, fun e => q ((same_list cs ds).mpr e)⟩
end StrChars.Road
namespace StrChars
open Jvm Sem ClassFile Op Lib Jvm.Stand Jvm.Free.XT Jvm.Free.ALB Jvm.Free.JM Jvm.Free
open Jvm.Lib.Cold (StaticIs)
namespace ChN
def yN : MethodName := ⟨"java/lang/String", "charAt", "(I)C"⟩
abbrev yB : ByteArray := jdk_42_method_56_code
theorem d0 : decode yB 0 = .ok (.aload_n 0, 1) := by decide +kernel
theorem d1 : decode yB 1 = .ok (.invokevirtual 492, 3) := by decide +kernel
theorem d4 : decode yB 4 = .ok (.ifCond (.eq) 12, 3) := by decide +kernel
theorem d7 : decode yB 7 = .ok (.aload_n 0, 1) := by decide +kernel
theorem d8 : decode yB 8 = .ok (.getfield 9, 3) := by decide +kernel
theorem d11 : decode yB 11 = .ok (.iload_n 1, 1) := by decide +kernel
theorem d12 : decode yB 12 = .ok (.invokestatic 495, 3) := by decide +kernel
theorem d15 : decode yB 15 = .ok (.ireturn, 1) := by decide +kernel
def site : List Cond := [.fieldLink "java/lang/String" 9 "java/lang/String" "value" "[B", IsL.tab, LChA.tab] ++ virtW "java/lang/String" 492 "java/lang/String" IsL.yN IsL.yN ++ staticW "java/lang/String" 495 LChA.yN
def tab : Cond := tabOf yN yB 2 (some .char) site
def P (x t : Addr) (V : Cell) (n : Nat) (f : Nat → Int32) (z : Int32) (fm : Value) (i : Nat) (args : Array Value) (s : State) : Prop := args = #[.ref x, .int (Int32.ofNat i)] ∧ Txt x t V 0 n f s ∧ i < n ∧ StaticIs s "java/lang/String" "COMPACT_STRINGS" "Z" (.int z) ∧ ¬ z = 0 ∧ StaticIs s "jdk/internal/util/Preconditions" "SIOOBE_FORMATTER" "Ljava/util/function/BiFunction;" fm ∧ fm.isRef = true
def E (f : Nat → Int32) (i : Nat) (r : Option Value) (s u : State) : Prop := XT.PureE (some (.int (f i))) r s u
/-- charAt(i) of a Latin-1 String of n chars, i < n: f i -/
theorem law (l : Launch) (x t : Addr) (V : Cell) (n : Nat) (f : Nat → Int32) (z : Int32) (fm : Value) (i : Nat) : Law l yN 2 1 3 40 yB 2 (some .char) site (P x t V n f z fm i) (E f i) [] 0 0 := by
  refine Law.of_walk (plainFor_of_name (by decide +kernel)) (by decide +kernel) (by decide +kernel) (by decide) (fun _ _ h => by rw [h.1]; rfl) (fun _ U U' hal hh h => ⟨h.1, h.2.1.mv hal hh, h.2.2.1, h.2.2.2.1.there hal hh, h.2.2.2.2.1, h.2.2.2.2.2.1.there hal hh, h.2.2.2.2.2.2⟩) (fun r U U' V V' h1 hal h2 h => XT.PureE.mv r U U' V V' h1 hal h2 h) ?_
  intro p e s m args below meth c s₁ X0 hexec hbytes hml hret hlk hnm hown hh0 W hP
  obtain ⟨rfl, hx, hi, s1, hz, s3, rf⟩ := hP
  have v31 := hx.2.2.2.1.2.2.2
  have hr := hx.2.2.2.2.2 i hi
  have hx0 := hx.mv X0.warmed.alike hh0
  have c1 : Steps p.tables e below (s₁.setTop (entryFrame m #[.ref x, .int (Int32.ofNat i)] 2)) (s₁.setTop (mkF m 1 #[.val (.ref x), .val (.int (Int32.ofNat i))] [.ref x])) := Steps.trans (entry rfl) (by
    show Steps p.tables e below (s₁.setTop (mkF m 0 #[.val (.ref x), .val (.int (Int32.ofNat i))] [])) _
    refine XS.aloadN X0.here hexec rfl (hb hbytes d0) rfl rfl ?_
    exact Steps.refl _)
  obtain ⟨v2, T2, X2, E2, g2⟩ := X0.callV hexec (IsL.law l x 0 z) hown (wks W (virtW "java/lang/String" 492 "java/lang/String" IsL.yN IsL.yN)) rfl (by decide) (wk W IsL.tab) (W := 0) (Nat.le_of_ble_eq_true rfl) (Nat.le_of_ble_eq_true rfl) (Nat.le_refl _) (Nat.le_refl _) (hx0.1.fc X0.warmed.alike) hx0.1.is (g := (mkF m 1 #[.val (.ref x), .val (.int (Int32.ofNat i))] [.ref x])) rfl (by rw [hml]; rfl) c1 (argsL := []) (rest := []) rfl rfl (by show 2 * 0 + 0 ≤ _; decide) (hb hbytes d1) (⟨rfl, hx0.2.2.1, hx.2.2.2.2.1.cd, s1.there X0.warmed.alike hh0, hz⟩)
  obtain ⟨rfl, q2⟩ := E2
  have hh2 := q2.trans hh0
  have hx2 := hx.mv X2.warmed.alike hh2
  obtain ⟨-, k1, k2⟩ | ⟨k0, -⟩ := hx.2.2.2.2.1
  · have c3 : Steps p.tables e below (s₁.setTop (entryFrame m #[.ref x, .int (Int32.ofNat i)] 2)) (T2.setTop (mkF m 8 #[.val (.ref x), .val (.int (Int32.ofNat i))] [.ref x])) := Steps.trans g2 (by
      refine XS.ifNo X2.here hexec rfl (hb hbytes d4) rfl (i0_eq_f (by decide)) ?_
      refine XS.aloadN X2.here hexec rfl (hb hbytes d7) rfl rfl ?_
      exact Steps.refl _)
    obtain ⟨T4, X4, q4, st4⟩ := X2.hget hexec hown (wk W (.fieldLink "java/lang/String" 9 "java/lang/String" "value" "[B")) hx2.2.1 (g := (mkF m 8 #[.val (.ref x), .val (.int (Int32.ofNat i))] [.ref x])) rfl (rest := []) rfl (hb hbytes d8)
    have hh4 := q4.trans hh2
    have c5 : Steps p.tables e below (s₁.setTop (entryFrame m #[.ref x, .int (Int32.ofNat i)] 2)) (T4.setTop (mkF m 12 #[.val (.ref x), .val (.int (Int32.ofNat i))] [.int (Int32.ofNat i), .ref t])) := (c3.trans (st4 _ (Steps.refl _))).trans (by
      refine XS.iloadN X4.here hexec rfl (hb hbytes d11) rfl ?_
      exact Steps.refl _)
    obtain ⟨v6, T6, X6, E6, g6⟩ := X4.callS hexec (LChA.law l t V i (lo8 (f i)) fm) hown (wks W (staticW "java/lang/String" 495 LChA.yN)) (wk W LChA.tab) (W := 0) (Nat.le_of_ble_eq_true rfl) (Nat.le_of_ble_eq_true rfl) (Nat.le_refl _) (Nat.le_refl _) (g := (mkF m 12 #[.val (.ref x), .val (.int (Int32.ofNat i))] [.int (Int32.ofNat i), .ref t])) rfl (by rw [hml]; rfl) c5 (argsL := [.ref t, .int (Int32.ofNat i)]) (rest := []) rfl rfl (by show 2 * 0 + 0 ≤ _; decide) (hb hbytes d12) (⟨rfl, hx.2.2.2.1.mv X4.warmed.alike hh4, (k2 i hi).1, s3.there X4.warmed.alike hh4, rf⟩)
    obtain ⟨rfl, q6⟩ := E6
    rw [chr8_lo8 hr.1 (k2 i hi).2] at g6
    exact ⟨T6, some (.int (f i)), _, _, _, X6, rfl, rfl, rfl, (fun h => by cases h), ⟨rfl, q6.trans hh4⟩, fun fs hl => Steps.trans g6 (X6.ireturnOut hexec hret (narrow_ch hr.1 hr.2) (Or.inr (Or.inr (Or.inr (Or.inl rfl)))) (hb hbytes d15) hl)⟩
  · exact absurd k0 (by decide)
theorem pays {l : Launch} {R : Room} {p : Program} {e : Env} {below : List Frame} {s : State} {sargs : Array Value} {len W : Nat} (x t : Addr) (V : Cell) (n : Nat) (f : Nat → Int32) (z : Int32) (fm : Value) (i : Nat) (htab : tab.before sargs s = true) (hfr : 4 ≤ R.frames) (hlo : W + 53 ≤ R.locals) :
    Back l R p e below s sargs yN len W (fun A₁ a₁ => A₁.cells + 0 ≤ R.cells ∧ A₁.slots + 0 ≤ R.slots ∧ P x t V n f z fm i a₁ A₁.U) (fun A₁ _ v₁ B₁ => E f i v₁ A₁.U B₁.U ∧ B₁.locs = A₁.locs ++ [] ∧ B₁.cells = A₁.cells + 0 ∧ B₁.slots = A₁.slots + 0) :=
  (law l x t V n f z fm i).pays htab hfr (by omega)
end ChN
end StrChars
namespace StrChars.Road
open Jvm Sem ClassFile Op Lib Jvm.Stand Jvm.Free Jvm.Free.XT
open Jvm.Lib.Cold (StaticIs)
/-- the words of String.charAt(int), the Latin-1 road alone -/
abbrev wordsChN : List Jvm.Cond := [.code ChN.yN ChN.yB 2 (some .char), .initialized ST, .fieldLink ST 9 ST "value" "[B", .fieldLink ST 38 ST "COMPACT_STRINGS" "Z", .fieldLink ST 15 ST "coder" "B", .code IsL.yN IsL.yB 1 (some .boolean), .methodLink ST 492 IsL.yN, .declares IsL.yN, .selects ST IsL.yN IsL.yN, .instanceMethod IsL.yN,
  .methodLink ST 495 LChA.yN, .static LChA.yN, .code LChA.yN LChA.yB 2 (some .char), .initialized "java/lang/StringLatin1", .methodLink "java/lang/StringLatin1" 9 JO.Str_checkIndex.yN, .static JO.Str_checkIndex.yN, .code JO.Str_checkIndex.yN JO.Str_checkIndex.yB 2 none,
  .fieldLink ST 1053 "jdk/internal/util/Preconditions" "SIOOBE_FORMATTER" "Ljava/util/function/BiFunction;", .methodLink ST 1059 JC.PreCheck.yN, .static JC.PreCheck.yN, .code JC.PreCheck.yN JC.PreCheck.yB 3 (some .int), .initialized "jdk/internal/util/Preconditions"]
theorem tabChN_of {a : Array Value} {s : State} (h : ∀ w ∈ wordsChN, w.before a s = true) : ChN.tab.before a s = true := by
  have hp : JC.PreCheck.tab.before a s = true := unparts (wk h (.code JC.PreCheck.yN JC.PreCheck.yB 3 (some .int))) (wks h (.initialized JC.PreCheck.yN.cls :: JC.PreCheck.site))
  have qk := consq hp h
  have hk : JO.Str_checkIndex.tab.before a s = true := unparts (wk qk (.code JO.Str_checkIndex.yN JO.Str_checkIndex.yB 2 none)) (wks qk (.initialized JO.Str_checkIndex.yN.cls :: JO.Str_checkIndex.site))
  have ql := consq hk h
  have hl : LChA.tab.before a s = true := unparts (wk ql (.code LChA.yN LChA.yB 2 (some .char))) (wks ql (.initialized LChA.yN.cls :: LChA.site))
  have hi : IsL.tab.before a s = true := unparts (wk h (.code IsL.yN IsL.yB 1 (some .boolean))) (wks h (.initialized IsL.yN.cls :: IsL.site))
  have q := consq hi (consq hl h)
  exact unparts (wk q (.code ChN.yN ChN.yB 2 (some .char))) (wks q (.initialized ChN.yN.cls :: ChN.site))
theorem movedChN {Z s : State} {a0 args : Array Value} (hZ : Z.Warmed39 s.vm) (hw : ∀ d ∈ wordsChN, d.before a0 Z = true) : ∀ d ∈ wordsChN, d.before args s = true := fun d hd => by
  have t : ∀ d ∈ wordsChN, (d.onTables && d.keepsFace) = true := by decide +kernel
  exact RoadKit.mv hZ (hw d hd) (t d hd)
/-- **charAt(i) OF A LATIN-1 STRING**, i < n: the char -/
theorem chN {p : Program} {l : Launch} {e : Env} {R : Room} {s : State} {args : Array Value} {below : List Frame} {len W : Nat} {Z : State} {a0 : Array Value} {h : Heap} (hZ : Z.Warmed39 s.vm) (hw : ∀ d ∈ wordsChN, d.before a0 Z = true) {kI : Nat} (wi : (Jvm.Cond.instantiable ST kI).before a0 Z = true)
    {x t : Addr} {kb : ClassId} {cs : List Int32} {N2 z : Int32} {vs : List Value} {fm : Value} {i : Nat} {j : Int32} (E : RoadKit.Exa Z h x ST) (V : RoadKit.Fld Z h x ST "value" "[B" (.ref t)) (C : RoadKit.Fld Z h x ST "coder" "B" (.int 0)) (K : RoadKit.Arv Z h t kb .byte N2 vs (.int 0)) (hc : CodA cs 0 N2 vs) (hb : ∀ c ∈ cs, ¬ c < 0 ∧ ¬ (65535 : Int32) < c)
    (S : RoadKit.Sta Z h ST "COMPACT_STRINGS" "Z" (.int z)) (hz : ¬ z = 0) (F : RoadKit.Sta Z h "jdk/internal/util/Preconditions" "SIOOBE_FORMATTER" "Ljava/util/function/BiFunction;" fm) (rf : fm.isRef = true) (l2 : cs.length ≤ 4000) (hi : i < cs.length) (hj : j = Int32.ofNat i) (hfr : 4 ≤ R.frames) (hlo : W + 53 ≤ R.locals) :
    Back l R p e below s args (⟨"java/lang/String", "charAt", "(I)C"⟩ : MethodName) len W (fun P a => a = #[.ref x, .int j] ∧ P.U.heap = h ∧ P.cells + 0 ≤ R.cells ∧ P.slots + 0 ≤ R.slots)
      (fun P _ v B => ∃ L, (v = some (.int (cs.getD i 0)) ∧ L = [] ∧ B.U.heap = h) ∧ B.locs = P.locs ++ L ∧ B.cells = P.cells + 0 ∧ B.slots = P.slots + 0) := by
  subst hj
  intro m meth c P g ig mk a X hg hsize hdg hW hn hp'
  obtain ⟨rfl, rfl, r1, r2⟩ := hp'
  have al : Z.vm.Alike P.U.vm := hZ.alike.trans X.warmed.alike
  obtain ⟨A, hx⟩ := txt_of wi al E V C K hc hb l2
  obtain ⟨v, B, X', ⟨⟨hv, hh⟩, hl, hk, hs⟩, st⟩ := ChN.pays x t A cs.length (fun j => cs.getD j 0) z fm i (tabChN_of (movedChN hZ hw)) hfr hlo m meth c P g ig mk _ X hg hsize hdg hW hn ⟨r1, r2, rfl, hx, hi, sta_is al S, hz, sta_is al F, rf⟩
  exact ⟨v, B, X', ⟨[], ⟨hv, rfl, hh⟩, hl, hk, hs⟩, st⟩
/-- what backV says of its String, as the contracts of this text ask it: cs's low bytes, coder 0 -/
theorem codOf {cs : List Int32} {n : Nat} (hn : cs.length = n) (hb : ∀ c ∈ cs, ¬ 255 < c) : CodA cs 0 (Int32.ofNat n) ((cs.map lo8).map Value.int) := Or.inl ⟨rfl, by rw [hn], by simp [List.map_map, Function.comp_def], hb⟩
end StrChars.Road
end Jvm.Pilot.@@N@@
namespace Jvm.Pilot.@@N@@
open Jvm Jvm.ClassFile Sem Op Lib Jvm.Free Jvm.Stand Jvm.LawKit Jvm.RoadKit Bundle Jvm.Own Jvm.Pilot.@@N@@.Jvm.D
abbrev vI (x : Int32) : Slot := .val (.int x)
abbrev vJ (x : Int64) : Slot := .val (.long x)
abbrev vR (x : Addr) : Slot := .val (.ref x)
abbrev vU : Slot := .unset
abbrev Y_0 : Jvm.MethodName := ({ cls := "com/example/patient_ledger/patientledger/HoldStatus", name := "values", desc := "()[Lcom/example/patient_ledger/patientledger/HoldStatus;" } : Jvm.MethodName)
abbrev Y_1 : Jvm.MethodName := ({ cls := "java/lang/String", name := "equals", desc := "(Ljava/lang/Object;)Z" } : Jvm.MethodName)
abbrev Y_2 : Jvm.MethodName := ({ cls := "java/lang/String", name := "charAt", desc := "(I)C" } : Jvm.MethodName)
abbrev Y_3 : Jvm.MethodName := ({ cls := "com/example/patient_ledger/patientledger/HoldStatusFromWireNamePinLaw", name := "at", desc := "(Ljava/lang/String;IICI)C" } : Jvm.MethodName)
abbrev Y_4 : Jvm.MethodName := ({ cls := "java/lang/StringLatin1", name := "canEncode", desc := "(C)Z" } : Jvm.MethodName)
abbrev Y_5 : Jvm.MethodName := ({ cls := "java/lang/StringLatin1", name := "toBytes", desc := "(C)[B" } : Jvm.MethodName)
abbrev Y_6 : Jvm.MethodName := ({ cls := "java/lang/String", name := "<init>", desc := "([BB)V" } : Jvm.MethodName)
abbrev Y_7 : Jvm.MethodName := ({ cls := "java/lang/String", name := "<init>", desc := "([CIILjava/lang/Void;)V" } : Jvm.MethodName)
abbrev Y_8 : Jvm.MethodName := ({ cls := "com/example/patient_ledger/patientledger/HoldStatusFromWireNamePinLaw", name := "put", desc := "([CILjava/lang/String;IIC)V" } : Jvm.MethodName)
abbrev Y_9 : Jvm.MethodName := ({ cls := "com/example/patient_ledger/patientledger/HoldStatus", name := "fromWireName", desc := "(Ljava/lang/String;)Lcom/example/patient_ledger/patientledger/HoldStatus;" } : Jvm.MethodName)
abbrev Y_10 : Jvm.MethodName := ({ cls := "com/example/patient_ledger/patientledger/HoldStatusFromWireNamePinLaw", name := "expected", desc := "(Ljava/lang/String;)Lcom/example/patient_ledger/patientledger/HoldStatus;" } : Jvm.MethodName)
abbrev Y_11 : Jvm.MethodName := ({ cls := "java/lang/String", name := "length", desc := "()I" } : Jvm.MethodName)
abbrev Y_12 : Jvm.MethodName := ({ cls := "com/example/patient_ledger/patientledger/HoldStatusFromWireNamePinLaw", name := "make", desc := "(I)[C" } : Jvm.MethodName)
abbrev Y_13 : Jvm.MethodName := ({ cls := "java/lang/String", name := "<init>", desc := "([C)V" } : Jvm.MethodName)
abbrev Y_14 : Jvm.MethodName := ({ cls := "java/lang/String", name := "valueOf", desc := "(C)Ljava/lang/String;" } : Jvm.MethodName)
theorem wd_0 {a0 : Array Value} {Z : State} (hw : ∀ d ∈ tables_1, d.before a0 Z = true) : (Jvm.Cond.stringLink "com/example/patient_ledger/patientledger/HoldStatusFromWireNamePinLaw" (7 : Nat) "pending").before a0 Z = true := hw _ (List.mem_of_getElem? (i := 0) rfl)
theorem wd_1 {a0 : Array Value} {Z : State} (hw : ∀ d ∈ tables_1, d.before a0 Z = true) : (Jvm.Cond.initialized "java/lang/String").before a0 Z = true := hw _ (List.mem_of_getElem? (i := 1) rfl)
theorem wd_2 {a0 : Array Value} {Z : State} (hw : ∀ d ∈ tables_1, d.before a0 Z = true) : (Jvm.Cond.instantiable "java/lang/String" (4 : Nat)).before a0 Z = true := hw _ (List.mem_of_getElem? (i := 2) rfl)
theorem wd_3 {a0 : Array Value} {Z : State} (hw : ∀ d ∈ tables_1, d.before a0 Z = true) : (Jvm.Cond.arrayClass Jvm.ClassFile.FieldType.byte).before a0 Z = true := hw _ (List.mem_of_getElem? (i := 3) rfl)
theorem wd_4 {a0 : Array Value} {Z : State} (hw : ∀ d ∈ tables_1, d.before a0 Z = true) : (Jvm.Cond.laysFinal "java/lang/String" "java/lang/String" "value" "[B").before a0 Z = true := hw _ (List.mem_of_getElem? (i := 4) rfl)
theorem wd_5 {a0 : Array Value} {Z : State} (hw : ∀ d ∈ tables_1, d.before a0 Z = true) : (Jvm.Cond.laysFinal "java/lang/String" "java/lang/String" "coder" "B").before a0 Z = true := hw _ (List.mem_of_getElem? (i := 5) rfl)
theorem wd_8 {a0 : Array Value} {Z : State} (hw : ∀ d ∈ tables_1, d.before a0 Z = true) : (Jvm.Cond.constant "com/example/patient_ledger/patientledger/HoldStatusFromWireNamePinLaw" (15 : Nat) (2147483647 : Int32)).before a0 Z = true := hw _ (List.mem_of_getElem? (i := 8) rfl)
theorem wd_9 {a0 : Array Value} {Z : State} (hw : ∀ d ∈ tables_1, d.before a0 Z = true) : (Jvm.Cond.methodLink "com/example/patient_ledger/patientledger/HoldStatusFromWireNamePinLaw" (25 : Nat) ({ cls := "java/lang/String", name := "length", desc := "()I" } : Jvm.MethodName)).before a0 Z = true := hw _ (List.mem_of_getElem? (i := 9) rfl)
theorem wd_10 {a0 : Array Value} {Z : State} (hw : ∀ d ∈ tables_1, d.before a0 Z = true) : (Jvm.Cond.declares ({ cls := "java/lang/String", name := "length", desc := "()I" } : Jvm.MethodName)).before a0 Z = true := hw _ (List.mem_of_getElem? (i := 10) rfl)
theorem wd_11 {a0 : Array Value} {Z : State} (hw : ∀ d ∈ tables_1, d.before a0 Z = true) : (Jvm.Cond.instanceMethod ({ cls := "java/lang/String", name := "length", desc := "()I" } : Jvm.MethodName)).before a0 Z = true := hw _ (List.mem_of_getElem? (i := 11) rfl)
theorem wd_12 {a0 : Array Value} {Z : State} (hw : ∀ d ∈ tables_1, d.before a0 Z = true) : (Jvm.Cond.selects "java/lang/String" ({ cls := "java/lang/String", name := "length", desc := "()I" } : Jvm.MethodName) ({ cls := "java/lang/String", name := "length", desc := "()I" } : Jvm.MethodName)).before a0 Z = true := hw _ (List.mem_of_getElem? (i := 12) rfl)
theorem wd_14 {a0 : Array Value} {Z : State} (hw : ∀ d ∈ tables_1, d.before a0 Z = true) : (Jvm.Cond.fieldLink "java/lang/String" (9 : Nat) "java/lang/String" "value" "[B").before a0 Z = true := hw _ (List.mem_of_getElem? (i := 14) rfl)
theorem wd_20 {a0 : Array Value} {Z : State} (hw : ∀ d ∈ tables_1, d.before a0 Z = true) : (Jvm.Cond.fieldLink "java/lang/String" (38 : Nat) "java/lang/String" "COMPACT_STRINGS" "Z").before a0 Z = true := hw _ (List.mem_of_getElem? (i := 20) rfl)
theorem wd_21 {a0 : Array Value} {Z : State} (hw : ∀ d ∈ tables_1, d.before a0 Z = true) : (Jvm.Cond.fieldLink "java/lang/String" (15 : Nat) "java/lang/String" "coder" "B").before a0 Z = true := hw _ (List.mem_of_getElem? (i := 21) rfl)
theorem wd_22 {a0 : Array Value} {Z : State} (hw : ∀ d ∈ tables_1, d.before a0 Z = true) : (Jvm.Cond.methodLink "com/example/patient_ledger/patientledger/HoldStatusFromWireNamePinLaw" (29 : Nat) ({ cls := "com/example/patient_ledger/patientledger/HoldStatusFromWireNamePinLaw", name := "make", desc := "(I)[C" } : Jvm.MethodName)).before a0 Z = true := hw _ (List.mem_of_getElem? (i := 22) rfl)
theorem wd_23 {a0 : Array Value} {Z : State} (hw : ∀ d ∈ tables_1, d.before a0 Z = true) : (Jvm.Cond.static ({ cls := "com/example/patient_ledger/patientledger/HoldStatusFromWireNamePinLaw", name := "make", desc := "(I)[C" } : Jvm.MethodName)).before a0 Z = true := hw _ (List.mem_of_getElem? (i := 23) rfl)
theorem wd_24 {a0 : Array Value} {Z : State} (hw : ∀ d ∈ tables_1, d.before a0 Z = true) : (Jvm.Cond.initialized "com/example/patient_ledger/patientledger/HoldStatusFromWireNamePinLaw").before a0 Z = true := hw _ (List.mem_of_getElem? (i := 24) rfl)
theorem wd_25 {a0 : Array Value} {Z : State} (hw : ∀ d ∈ tables_1, d.before a0 Z = true) : (Jvm.Cond.code ({ cls := "com/example/patient_ledger/patientledger/HoldStatusFromWireNamePinLaw", name := "make", desc := "(I)[C" } : Jvm.MethodName) method_4_code (1 : Nat) (Option.some (Jvm.ClassFile.FieldType.array Jvm.ClassFile.FieldType.char))).before a0 Z = true := hw _ (List.mem_of_getElem? (i := 25) rfl)
theorem wd_26 {a0 : Array Value} {Z : State} (hw : ∀ d ∈ tables_1, d.before a0 Z = true) : (Jvm.Cond.arrayClass Jvm.ClassFile.FieldType.char).before a0 Z = true := hw _ (List.mem_of_getElem? (i := 26) rfl)
theorem wd_27 {a0 : Array Value} {Z : State} (hw : ∀ d ∈ tables_1, d.before a0 Z = true) : (Jvm.Cond.methodLink "com/example/patient_ledger/patientledger/HoldStatusFromWireNamePinLaw" (35 : Nat) ({ cls := "com/example/patient_ledger/patientledger/HoldStatusFromWireNamePinLaw", name := "put", desc := "([CILjava/lang/String;IIC)V" } : Jvm.MethodName)).before a0 Z = true := hw _ (List.mem_of_getElem? (i := 27) rfl)
theorem wd_28 {a0 : Array Value} {Z : State} (hw : ∀ d ∈ tables_1, d.before a0 Z = true) : (Jvm.Cond.static ({ cls := "com/example/patient_ledger/patientledger/HoldStatusFromWireNamePinLaw", name := "put", desc := "([CILjava/lang/String;IIC)V" } : Jvm.MethodName)).before a0 Z = true := hw _ (List.mem_of_getElem? (i := 28) rfl)
theorem wd_29 {a0 : Array Value} {Z : State} (hw : ∀ d ∈ tables_1, d.before a0 Z = true) : (Jvm.Cond.code ({ cls := "com/example/patient_ledger/patientledger/HoldStatusFromWireNamePinLaw", name := "put", desc := "([CILjava/lang/String;IIC)V" } : Jvm.MethodName) method_5_code (6 : Nat) (Option.none : Option Jvm.ClassFile.FieldType)).before a0 Z = true := hw _ (List.mem_of_getElem? (i := 29) rfl)
theorem wd_30 {a0 : Array Value} {Z : State} (hw : ∀ d ∈ tables_1, d.before a0 Z = true) : (Jvm.Cond.methodLink "com/example/patient_ledger/patientledger/HoldStatusFromWireNamePinLaw" (65 : Nat) ({ cls := "com/example/patient_ledger/patientledger/HoldStatusFromWireNamePinLaw", name := "at", desc := "(Ljava/lang/String;IICI)C" } : Jvm.MethodName)).before a0 Z = true := hw _ (List.mem_of_getElem? (i := 30) rfl)
theorem wd_31 {a0 : Array Value} {Z : State} (hw : ∀ d ∈ tables_1, d.before a0 Z = true) : (Jvm.Cond.static ({ cls := "com/example/patient_ledger/patientledger/HoldStatusFromWireNamePinLaw", name := "at", desc := "(Ljava/lang/String;IICI)C" } : Jvm.MethodName)).before a0 Z = true := hw _ (List.mem_of_getElem? (i := 31) rfl)
theorem wd_32 {a0 : Array Value} {Z : State} (hw : ∀ d ∈ tables_1, d.before a0 Z = true) : (Jvm.Cond.code ({ cls := "com/example/patient_ledger/patientledger/HoldStatusFromWireNamePinLaw", name := "at", desc := "(Ljava/lang/String;IICI)C" } : Jvm.MethodName) method_6_code (5 : Nat) (Option.some Jvm.ClassFile.FieldType.char)).before a0 Z = true := hw _ (List.mem_of_getElem? (i := 32) rfl)
theorem wd_33 {a0 : Array Value} {Z : State} (hw : ∀ d ∈ tables_1, d.before a0 Z = true) : (Jvm.Cond.methodLink "com/example/patient_ledger/patientledger/HoldStatusFromWireNamePinLaw" (69 : Nat) ({ cls := "java/lang/String", name := "charAt", desc := "(I)C" } : Jvm.MethodName)).before a0 Z = true := hw _ (List.mem_of_getElem? (i := 33) rfl)
theorem wd_34 {a0 : Array Value} {Z : State} (hw : ∀ d ∈ tables_1, d.before a0 Z = true) : (Jvm.Cond.declares ({ cls := "java/lang/String", name := "charAt", desc := "(I)C" } : Jvm.MethodName)).before a0 Z = true := hw _ (List.mem_of_getElem? (i := 34) rfl)
theorem wd_35 {a0 : Array Value} {Z : State} (hw : ∀ d ∈ tables_1, d.before a0 Z = true) : (Jvm.Cond.instanceMethod ({ cls := "java/lang/String", name := "charAt", desc := "(I)C" } : Jvm.MethodName)).before a0 Z = true := hw _ (List.mem_of_getElem? (i := 35) rfl)
theorem wd_36 {a0 : Array Value} {Z : State} (hw : ∀ d ∈ tables_1, d.before a0 Z = true) : (Jvm.Cond.selects "java/lang/String" ({ cls := "java/lang/String", name := "charAt", desc := "(I)C" } : Jvm.MethodName) ({ cls := "java/lang/String", name := "charAt", desc := "(I)C" } : Jvm.MethodName)).before a0 Z = true := hw _ (List.mem_of_getElem? (i := 36) rfl)
theorem wd_45 {a0 : Array Value} {Z : State} (hw : ∀ d ∈ tables_1, d.before a0 Z = true) : (Jvm.Cond.initialized "java/lang/StringLatin1").before a0 Z = true := hw _ (List.mem_of_getElem? (i := 45) rfl)
theorem wd_55 {a0 : Array Value} {Z : State} (hw : ∀ d ∈ tables_1, d.before a0 Z = true) : (Jvm.Cond.classLink "com/example/patient_ledger/patientledger/HoldStatusFromWireNamePinLaw" (17 : Nat) "java/lang/String").before a0 Z = true := hw _ (List.mem_of_getElem? (i := 55) rfl)
theorem wd_56 {a0 : Array Value} {Z : State} (hw : ∀ d ∈ tables_1, d.before a0 Z = true) : (Jvm.Cond.methodLink "com/example/patient_ledger/patientledger/HoldStatusFromWireNamePinLaw" (22 : Nat) ({ cls := "java/lang/String", name := "<init>", desc := "([C)V" } : Jvm.MethodName)).before a0 Z = true := hw _ (List.mem_of_getElem? (i := 56) rfl)
theorem wd_57 {a0 : Array Value} {Z : State} (hw : ∀ d ∈ tables_1, d.before a0 Z = true) : (Jvm.Cond.instanceMethod ({ cls := "java/lang/String", name := "<init>", desc := "([C)V" } : Jvm.MethodName)).before a0 Z = true := hw _ (List.mem_of_getElem? (i := 57) rfl)
theorem wd_58 {a0 : Array Value} {Z : State} (hw : ∀ d ∈ tables_1, d.before a0 Z = true) : (Jvm.Cond.code ({ cls := "java/lang/String", name := "<init>", desc := "([C)V" } : Jvm.MethodName) jdk_42_method_3_code (2 : Nat) (Option.none : Option Jvm.ClassFile.FieldType)).before a0 Z = true := hw _ (List.mem_of_getElem? (i := 58) rfl)
theorem wd_59 {a0 : Array Value} {Z : State} (hw : ∀ d ∈ tables_1, d.before a0 Z = true) : (Jvm.Cond.methodLink "java/lang/String" (27 : Nat) ({ cls := "java/lang/String", name := "<init>", desc := "([CIILjava/lang/Void;)V" } : Jvm.MethodName)).before a0 Z = true := hw _ (List.mem_of_getElem? (i := 59) rfl)
theorem wd_60 {a0 : Array Value} {Z : State} (hw : ∀ d ∈ tables_1, d.before a0 Z = true) : (Jvm.Cond.instanceMethod ({ cls := "java/lang/String", name := "<init>", desc := "([CIILjava/lang/Void;)V" } : Jvm.MethodName)).before a0 Z = true := hw _ (List.mem_of_getElem? (i := 60) rfl)
theorem wd_62 {a0 : Array Value} {Z : State} (hw : ∀ d ∈ tables_1, d.before a0 Z = true) : (Jvm.Cond.code ({ cls := "java/lang/String", name := "<init>", desc := "([CIILjava/lang/Void;)V" } : Jvm.MethodName) jdk_42_method_149_code (6 : Nat) (Option.none : Option Jvm.ClassFile.FieldType)).before a0 Z = true := hw _ (List.mem_of_getElem? (i := 62) rfl)
theorem wd_63 {a0 : Array Value} {Z : State} (hw : ∀ d ∈ tables_1, d.before a0 Z = true) : (Jvm.Cond.methodLink "java/lang/String" (1 : Nat) ({ cls := "java/lang/Object", name := "<init>", desc := "()V" } : Jvm.MethodName)).before a0 Z = true := hw _ (List.mem_of_getElem? (i := 63) rfl)
theorem wd_64 {a0 : Array Value} {Z : State} (hw : ∀ d ∈ tables_1, d.before a0 Z = true) : (Jvm.Cond.instanceMethod ({ cls := "java/lang/Object", name := "<init>", desc := "()V" } : Jvm.MethodName)).before a0 Z = true := hw _ (List.mem_of_getElem? (i := 64) rfl)
theorem wd_65 {a0 : Array Value} {Z : State} (hw : ∀ d ∈ tables_1, d.before a0 Z = true) : (Jvm.Cond.code ({ cls := "java/lang/Object", name := "<init>", desc := "()V" } : Jvm.MethodName) object_method_1_code (1 : Nat) (Option.none : Option Jvm.ClassFile.FieldType)).before a0 Z = true := hw _ (List.mem_of_getElem? (i := 65) rfl)
theorem wd_76 {a0 : Array Value} {Z : State} (hw : ∀ d ∈ tables_1, d.before a0 Z = true) : (Jvm.Cond.methodLink "com/example/patient_ledger/patientledger/HoldStatusFromWireNamePinLaw" (39 : Nat) ({ cls := "com/example/patient_ledger/patientledger/HoldStatus", name := "fromWireName", desc := "(Ljava/lang/String;)Lcom/example/patient_ledger/patientledger/HoldStatus;" } : Jvm.MethodName)).before a0 Z = true := hw _ (List.mem_of_getElem? (i := 76) rfl)
theorem wd_77 {a0 : Array Value} {Z : State} (hw : ∀ d ∈ tables_1, d.before a0 Z = true) : (Jvm.Cond.static ({ cls := "com/example/patient_ledger/patientledger/HoldStatus", name := "fromWireName", desc := "(Ljava/lang/String;)Lcom/example/patient_ledger/patientledger/HoldStatus;" } : Jvm.MethodName)).before a0 Z = true := hw _ (List.mem_of_getElem? (i := 77) rfl)
theorem wd_78 {a0 : Array Value} {Z : State} (hw : ∀ d ∈ tables_1, d.before a0 Z = true) : (Jvm.Cond.initialized "com/example/patient_ledger/patientledger/HoldStatus").before a0 Z = true := hw _ (List.mem_of_getElem? (i := 78) rfl)
theorem wd_79 {a0 : Array Value} {Z : State} (hw : ∀ d ∈ tables_1, d.before a0 Z = true) : (Jvm.Cond.code ({ cls := "com/example/patient_ledger/patientledger/HoldStatus", name := "fromWireName", desc := "(Ljava/lang/String;)Lcom/example/patient_ledger/patientledger/HoldStatus;" } : Jvm.MethodName) prog_8_method_5_code (6 : Nat) (Option.some (Jvm.ClassFile.FieldType.object "com/example/patient_ledger/patientledger/HoldStatus"))).before a0 Z = true := hw _ (List.mem_of_getElem? (i := 79) rfl)
theorem wd_80 {a0 : Array Value} {Z : State} (hw : ∀ d ∈ tables_1, d.before a0 Z = true) : (Jvm.Cond.methodLink "com/example/patient_ledger/patientledger/HoldStatus" (39 : Nat) ({ cls := "com/example/patient_ledger/patientledger/HoldStatus", name := "values", desc := "()[Lcom/example/patient_ledger/patientledger/HoldStatus;" } : Jvm.MethodName)).before a0 Z = true := hw _ (List.mem_of_getElem? (i := 80) rfl)
theorem wd_81 {a0 : Array Value} {Z : State} (hw : ∀ d ∈ tables_1, d.before a0 Z = true) : (Jvm.Cond.static ({ cls := "com/example/patient_ledger/patientledger/HoldStatus", name := "values", desc := "()[Lcom/example/patient_ledger/patientledger/HoldStatus;" } : Jvm.MethodName)).before a0 Z = true := hw _ (List.mem_of_getElem? (i := 81) rfl)
theorem wd_82 {a0 : Array Value} {Z : State} (hw : ∀ d ∈ tables_1, d.before a0 Z = true) : (Jvm.Cond.code ({ cls := "com/example/patient_ledger/patientledger/HoldStatus", name := "values", desc := "()[Lcom/example/patient_ledger/patientledger/HoldStatus;" } : Jvm.MethodName) prog_8_method_1_code (0 : Nat) (Option.some (Jvm.ClassFile.FieldType.array (Jvm.ClassFile.FieldType.object "com/example/patient_ledger/patientledger/HoldStatus")))).before a0 Z = true := hw _ (List.mem_of_getElem? (i := 82) rfl)
theorem wd_83 {a0 : Array Value} {Z : State} (hw : ∀ d ∈ tables_1, d.before a0 Z = true) : (Jvm.Cond.fieldLink "com/example/patient_ledger/patientledger/HoldStatus" (16 : Nat) "com/example/patient_ledger/patientledger/HoldStatus" "$VALUES" "[Lcom/example/patient_ledger/patientledger/HoldStatus;").before a0 Z = true := hw _ (List.mem_of_getElem? (i := 83) rfl)
theorem wd_84 {a0 : Array Value} {Z : State} (hw : ∀ d ∈ tables_1, d.before a0 Z = true) : (Jvm.Cond.laysStatic "com/example/patient_ledger/patientledger/HoldStatus" "$VALUES" "[Lcom/example/patient_ledger/patientledger/HoldStatus;").before a0 Z = true := hw _ (List.mem_of_getElem? (i := 84) rfl)
theorem wd_85 {a0 : Array Value} {Z : State} (hw : ∀ d ∈ tables_1, d.before a0 Z = true) : (Jvm.Cond.methodLink "com/example/patient_ledger/patientledger/HoldStatus" (20 : Nat) ({ cls := "[Lcom/example/patient_ledger/patientledger/HoldStatus;", name := "clone", desc := "()Ljava/lang/Object;" } : Jvm.MethodName)).before a0 Z = true := hw _ (List.mem_of_getElem? (i := 85) rfl)
theorem wd_86 {a0 : Array Value} {Z : State} (hw : ∀ d ∈ tables_1, d.before a0 Z = true) : (Jvm.Cond.sameMethod "[Lcom/example/patient_ledger/patientledger/HoldStatus;" "java/lang/Object" "clone" "()Ljava/lang/Object;").before a0 Z = true := hw _ (List.mem_of_getElem? (i := 86) rfl)
theorem wd_88 {a0 : Array Value} {Z : State} (hw : ∀ d ∈ tables_1, d.before a0 Z = true) : (Jvm.Cond.instanceMethod ({ cls := "java/lang/Object", name := "clone", desc := "()Ljava/lang/Object;" } : Jvm.MethodName)).before a0 Z = true := hw _ (List.mem_of_getElem? (i := 88) rfl)
theorem wd_89 {a0 : Array Value} {Z : State} (hw : ∀ d ∈ tables_1, d.before a0 Z = true) : (Jvm.Cond.selects "[Lcom/example/patient_ledger/patientledger/HoldStatus;" ({ cls := "[Lcom/example/patient_ledger/patientledger/HoldStatus;", name := "clone", desc := "()Ljava/lang/Object;" } : Jvm.MethodName) ({ cls := "java/lang/Object", name := "clone", desc := "()Ljava/lang/Object;" } : Jvm.MethodName)).before a0 Z = true := hw _ (List.mem_of_getElem? (i := 89) rfl)
theorem wd_90 {a0 : Array Value} {Z : State} (hw : ∀ d ∈ tables_1, d.before a0 Z = true) : (Jvm.Cond.native ({ cls := "java/lang/Object", name := "clone", desc := "()Ljava/lang/Object;" } : Jvm.MethodName)).before a0 Z = true := hw _ (List.mem_of_getElem? (i := 90) rfl)
theorem wd_91 {a0 : Array Value} {Z : State} (hw : ∀ d ∈ tables_1, d.before a0 Z = true) : (Jvm.Cond.castable "[Lcom/example/patient_ledger/patientledger/HoldStatus;" "java/lang/Cloneable").before a0 Z = true := hw _ (List.mem_of_getElem? (i := 91) rfl)
theorem wd_92 {a0 : Array Value} {Z : State} (hw : ∀ d ∈ tables_1, d.before a0 Z = true) : (Jvm.Cond.laysStatic "com/example/patient_ledger/patientledger/HoldStatus" "PENDING" "Lcom/example/patient_ledger/patientledger/HoldStatus;").before a0 Z = true := hw _ (List.mem_of_getElem? (i := 92) rfl)
theorem wd_93 {a0 : Array Value} {Z : State} (hw : ∀ d ∈ tables_1, d.before a0 Z = true) : (Jvm.Cond.laysStatic "com/example/patient_ledger/patientledger/HoldStatus" "CAPTURED" "Lcom/example/patient_ledger/patientledger/HoldStatus;").before a0 Z = true := hw _ (List.mem_of_getElem? (i := 93) rfl)
theorem wd_94 {a0 : Array Value} {Z : State} (hw : ∀ d ∈ tables_1, d.before a0 Z = true) : (Jvm.Cond.laysStatic "com/example/patient_ledger/patientledger/HoldStatus" "VOIDED" "Lcom/example/patient_ledger/patientledger/HoldStatus;").before a0 Z = true := hw _ (List.mem_of_getElem? (i := 94) rfl)
theorem wd_95 {a0 : Array Value} {Z : State} (hw : ∀ d ∈ tables_1, d.before a0 Z = true) : (Jvm.Cond.laysStatic "com/example/patient_ledger/patientledger/HoldStatus" "EXPIRED" "Lcom/example/patient_ledger/patientledger/HoldStatus;").before a0 Z = true := hw _ (List.mem_of_getElem? (i := 95) rfl)
theorem wd_97 {a0 : Array Value} {Z : State} (hw : ∀ d ∈ tables_1, d.before a0 Z = true) : (Jvm.Cond.classLink "com/example/patient_ledger/patientledger/HoldStatus" (21 : Nat) "[Lcom/example/patient_ledger/patientledger/HoldStatus;").before a0 Z = true := hw _ (List.mem_of_getElem? (i := 97) rfl)
theorem wd_99 {a0 : Array Value} {Z : State} (hw : ∀ d ∈ tables_1, d.before a0 Z = true) : (Jvm.Cond.fieldLink "com/example/patient_ledger/patientledger/HoldStatus" (35 : Nat) "com/example/patient_ledger/patientledger/HoldStatus" "wireName" "Ljava/lang/String;").before a0 Z = true := hw _ (List.mem_of_getElem? (i := 99) rfl)
theorem wd_101 {a0 : Array Value} {Z : State} (hw : ∀ d ∈ tables_1, d.before a0 Z = true) : (Jvm.Cond.methodLink "com/example/patient_ledger/patientledger/HoldStatus" (43 : Nat) ({ cls := "java/lang/String", name := "equals", desc := "(Ljava/lang/Object;)Z" } : Jvm.MethodName)).before a0 Z = true := hw _ (List.mem_of_getElem? (i := 101) rfl)
theorem wd_102 {a0 : Array Value} {Z : State} (hw : ∀ d ∈ tables_1, d.before a0 Z = true) : (Jvm.Cond.declares ({ cls := "java/lang/String", name := "equals", desc := "(Ljava/lang/Object;)Z" } : Jvm.MethodName)).before a0 Z = true := hw _ (List.mem_of_getElem? (i := 102) rfl)
theorem wd_103 {a0 : Array Value} {Z : State} (hw : ∀ d ∈ tables_1, d.before a0 Z = true) : (Jvm.Cond.instanceMethod ({ cls := "java/lang/String", name := "equals", desc := "(Ljava/lang/Object;)Z" } : Jvm.MethodName)).before a0 Z = true := hw _ (List.mem_of_getElem? (i := 103) rfl)
theorem wd_104 {a0 : Array Value} {Z : State} (hw : ∀ d ∈ tables_1, d.before a0 Z = true) : (Jvm.Cond.selects "java/lang/String" ({ cls := "java/lang/String", name := "equals", desc := "(Ljava/lang/Object;)Z" } : Jvm.MethodName) ({ cls := "java/lang/String", name := "equals", desc := "(Ljava/lang/Object;)Z" } : Jvm.MethodName)).before a0 Z = true := hw _ (List.mem_of_getElem? (i := 104) rfl)
theorem wd_105 {a0 : Array Value} {Z : State} (hw : ∀ d ∈ tables_1, d.before a0 Z = true) : (Jvm.Cond.code ({ cls := "java/lang/String", name := "equals", desc := "(Ljava/lang/Object;)Z" } : Jvm.MethodName) jdk_42_method_66_code (3 : Nat) (Option.some Jvm.ClassFile.FieldType.boolean)).before a0 Z = true := hw _ (List.mem_of_getElem? (i := 105) rfl)
theorem wd_106 {a0 : Array Value} {Z : State} (hw : ∀ d ∈ tables_1, d.before a0 Z = true) : (Jvm.Cond.classLink "java/lang/String" (10 : Nat) "java/lang/String").before a0 Z = true := hw _ (List.mem_of_getElem? (i := 106) rfl)
theorem wd_110 {a0 : Array Value} {Z : State} (hw : ∀ d ∈ tables_1, d.before a0 Z = true) : (Jvm.Cond.methodLink "com/example/patient_ledger/patientledger/HoldStatusFromWireNamePinLaw" (45 : Nat) ({ cls := "com/example/patient_ledger/patientledger/HoldStatusFromWireNamePinLaw", name := "expected", desc := "(Ljava/lang/String;)Lcom/example/patient_ledger/patientledger/HoldStatus;" } : Jvm.MethodName)).before a0 Z = true := hw _ (List.mem_of_getElem? (i := 110) rfl)
theorem wd_111 {a0 : Array Value} {Z : State} (hw : ∀ d ∈ tables_1, d.before a0 Z = true) : (Jvm.Cond.static ({ cls := "com/example/patient_ledger/patientledger/HoldStatusFromWireNamePinLaw", name := "expected", desc := "(Ljava/lang/String;)Lcom/example/patient_ledger/patientledger/HoldStatus;" } : Jvm.MethodName)).before a0 Z = true := hw _ (List.mem_of_getElem? (i := 111) rfl)
theorem wd_112 {a0 : Array Value} {Z : State} (hw : ∀ d ∈ tables_1, d.before a0 Z = true) : (Jvm.Cond.code ({ cls := "com/example/patient_ledger/patientledger/HoldStatusFromWireNamePinLaw", name := "expected", desc := "(Ljava/lang/String;)Lcom/example/patient_ledger/patientledger/HoldStatus;" } : Jvm.MethodName) method_3_code (1 : Nat) (Option.some (Jvm.ClassFile.FieldType.object "com/example/patient_ledger/patientledger/HoldStatus"))).before a0 Z = true := hw _ (List.mem_of_getElem? (i := 112) rfl)
theorem wd_113 {a0 : Array Value} {Z : State} (hw : ∀ d ∈ tables_1, d.before a0 Z = true) : (Jvm.Cond.methodLink "com/example/patient_ledger/patientledger/HoldStatusFromWireNamePinLaw" (48 : Nat) ({ cls := "java/lang/String", name := "equals", desc := "(Ljava/lang/Object;)Z" } : Jvm.MethodName)).before a0 Z = true := hw _ (List.mem_of_getElem? (i := 113) rfl)
theorem wd_114 {a0 : Array Value} {Z : State} (hw : ∀ d ∈ tables_1, d.before a0 Z = true) : (Jvm.Cond.stringLink "com/example/patient_ledger/patientledger/HoldStatusFromWireNamePinLaw" (9 : Nat) "captured").before a0 Z = true := hw _ (List.mem_of_getElem? (i := 114) rfl)
theorem wd_115 {a0 : Array Value} {Z : State} (hw : ∀ d ∈ tables_1, d.before a0 Z = true) : (Jvm.Cond.stringLink "com/example/patient_ledger/patientledger/HoldStatusFromWireNamePinLaw" (11 : Nat) "voided").before a0 Z = true := hw _ (List.mem_of_getElem? (i := 115) rfl)
theorem wd_116 {a0 : Array Value} {Z : State} (hw : ∀ d ∈ tables_1, d.before a0 Z = true) : (Jvm.Cond.stringLink "com/example/patient_ledger/patientledger/HoldStatusFromWireNamePinLaw" (13 : Nat) "expired").before a0 Z = true := hw _ (List.mem_of_getElem? (i := 116) rfl)
theorem wd_117 {a0 : Array Value} {Z : State} (hw : ∀ d ∈ tables_1, d.before a0 Z = true) : (Jvm.Cond.methodLink "com/example/patient_ledger/patientledger/HoldStatusFromWireNamePinLaw" (16 : Nat) ({ cls := "java/lang/String", name := "valueOf", desc := "(C)Ljava/lang/String;" } : Jvm.MethodName)).before a0 Z = true := hw _ (List.mem_of_getElem? (i := 117) rfl)
theorem wd_118 {a0 : Array Value} {Z : State} (hw : ∀ d ∈ tables_1, d.before a0 Z = true) : (Jvm.Cond.static ({ cls := "java/lang/String", name := "valueOf", desc := "(C)Ljava/lang/String;" } : Jvm.MethodName)).before a0 Z = true := hw _ (List.mem_of_getElem? (i := 118) rfl)
theorem wd_119 {a0 : Array Value} {Z : State} (hw : ∀ d ∈ tables_1, d.before a0 Z = true) : (Jvm.Cond.code ({ cls := "java/lang/String", name := "valueOf", desc := "(C)Ljava/lang/String;" } : Jvm.MethodName) jdk_42_method_139_code (1 : Nat) (Option.some (Jvm.ClassFile.FieldType.object "java/lang/String"))).before a0 Z = true := hw _ (List.mem_of_getElem? (i := 119) rfl)
theorem wd_120 {a0 : Array Value} {Z : State} (hw : ∀ d ∈ tables_1, d.before a0 Z = true) : (Jvm.Cond.methodLink "java/lang/String" (1015 : Nat) ({ cls := "java/lang/StringLatin1", name := "canEncode", desc := "(C)Z" } : Jvm.MethodName)).before a0 Z = true := hw _ (List.mem_of_getElem? (i := 120) rfl)
theorem wd_121 {a0 : Array Value} {Z : State} (hw : ∀ d ∈ tables_1, d.before a0 Z = true) : (Jvm.Cond.static ({ cls := "java/lang/StringLatin1", name := "canEncode", desc := "(C)Z" } : Jvm.MethodName)).before a0 Z = true := hw _ (List.mem_of_getElem? (i := 121) rfl)
theorem wd_122 {a0 : Array Value} {Z : State} (hw : ∀ d ∈ tables_1, d.before a0 Z = true) : (Jvm.Cond.code ({ cls := "java/lang/StringLatin1", name := "canEncode", desc := "(C)Z" } : Jvm.MethodName) jdk_43_method_3_code (1 : Nat) (Option.some Jvm.ClassFile.FieldType.boolean)).before a0 Z = true := hw _ (List.mem_of_getElem? (i := 122) rfl)
theorem wd_123 {a0 : Array Value} {Z : State} (hw : ∀ d ∈ tables_1, d.before a0 Z = true) : (Jvm.Cond.methodLink "java/lang/String" (1018 : Nat) ({ cls := "java/lang/StringLatin1", name := "toBytes", desc := "(C)[B" } : Jvm.MethodName)).before a0 Z = true := hw _ (List.mem_of_getElem? (i := 123) rfl)
theorem wd_124 {a0 : Array Value} {Z : State} (hw : ∀ d ∈ tables_1, d.before a0 Z = true) : (Jvm.Cond.static ({ cls := "java/lang/StringLatin1", name := "toBytes", desc := "(C)[B" } : Jvm.MethodName)).before a0 Z = true := hw _ (List.mem_of_getElem? (i := 124) rfl)
theorem wd_125 {a0 : Array Value} {Z : State} (hw : ∀ d ∈ tables_1, d.before a0 Z = true) : (Jvm.Cond.code ({ cls := "java/lang/StringLatin1", name := "toBytes", desc := "(C)[B" } : Jvm.MethodName) jdk_43_method_46_code (1 : Nat) (Option.some (Jvm.ClassFile.FieldType.array Jvm.ClassFile.FieldType.byte))).before a0 Z = true := hw _ (List.mem_of_getElem? (i := 125) rfl)
theorem wd_126 {a0 : Array Value} {Z : State} (hw : ∀ d ∈ tables_1, d.before a0 Z = true) : (Jvm.Cond.methodLink "java/lang/String" (209 : Nat) ({ cls := "java/lang/String", name := "<init>", desc := "([BB)V" } : Jvm.MethodName)).before a0 Z = true := hw _ (List.mem_of_getElem? (i := 126) rfl)
theorem wd_127 {a0 : Array Value} {Z : State} (hw : ∀ d ∈ tables_1, d.before a0 Z = true) : (Jvm.Cond.instanceMethod ({ cls := "java/lang/String", name := "<init>", desc := "([BB)V" } : Jvm.MethodName)).before a0 Z = true := hw _ (List.mem_of_getElem? (i := 127) rfl)
theorem wd_128 {a0 : Array Value} {Z : State} (hw : ∀ d ∈ tables_1, d.before a0 Z = true) : (Jvm.Cond.code ({ cls := "java/lang/String", name := "<init>", desc := "([BB)V" } : Jvm.MethodName) jdk_42_method_151_code (3 : Nat) (Option.none : Option Jvm.ClassFile.FieldType)).before a0 Z = true := hw _ (List.mem_of_getElem? (i := 128) rfl)
theorem wd_129 {a0 : Array Value} {Z : State} (hw : ∀ d ∈ tables_1, d.before a0 Z = true) : (Jvm.Cond.fieldLink "com/example/patient_ledger/patientledger/HoldStatusFromWireNamePinLaw" (52 : Nat) "com/example/patient_ledger/patientledger/HoldStatus" "PENDING" "Lcom/example/patient_ledger/patientledger/HoldStatus;").before a0 Z = true := hw _ (List.mem_of_getElem? (i := 129) rfl)
theorem wd_130 {a0 : Array Value} {Z : State} (hw : ∀ d ∈ tables_1, d.before a0 Z = true) : (Jvm.Cond.fieldLink "com/example/patient_ledger/patientledger/HoldStatusFromWireNamePinLaw" (56 : Nat) "com/example/patient_ledger/patientledger/HoldStatus" "CAPTURED" "Lcom/example/patient_ledger/patientledger/HoldStatus;").before a0 Z = true := hw _ (List.mem_of_getElem? (i := 130) rfl)
theorem wd_131 {a0 : Array Value} {Z : State} (hw : ∀ d ∈ tables_1, d.before a0 Z = true) : (Jvm.Cond.fieldLink "com/example/patient_ledger/patientledger/HoldStatusFromWireNamePinLaw" (62 : Nat) "com/example/patient_ledger/patientledger/HoldStatus" "EXPIRED" "Lcom/example/patient_ledger/patientledger/HoldStatus;").before a0 Z = true := hw _ (List.mem_of_getElem? (i := 131) rfl)
theorem wd_132 {a0 : Array Value} {Z : State} (hw : ∀ d ∈ tables_1, d.before a0 Z = true) : (Jvm.Cond.fieldLink "com/example/patient_ledger/patientledger/HoldStatusFromWireNamePinLaw" (59 : Nat) "com/example/patient_ledger/patientledger/HoldStatus" "VOIDED" "Lcom/example/patient_ledger/patientledger/HoldStatus;").before a0 Z = true := hw _ (List.mem_of_getElem? (i := 132) rfl)
theorem wd_133 {a0 : Array Value} {Z : State} (hw : ∀ d ∈ tables_1, d.before a0 Z = true) : (Jvm.Cond.stringLink "java/lang/String" (7 : Nat) "").before a0 Z = true := hw _ (List.mem_of_getElem? (i := 133) rfl)
theorem pn_0 : plainName "com/example/patient_ledger/patientledger/HoldStatus" = true := by first | (simp [plainName, overriddenIn]; done) | decide +kernel
theorem pn_1 : plainName "java/lang/String" = true := by first | (simp [plainName, overriddenIn]; done) | decide +kernel
theorem pn_2 : plainName "com/example/patient_ledger/patientledger/HoldStatusFromWireNamePinLaw" = true := by first | (simp [plainName, overriddenIn]; done) | decide +kernel
theorem pn_3 : plainName "java/lang/StringLatin1" = true := by first | (simp [plainName, overriddenIn]; done) | decide +kernel
theorem pd_0 : parseMethodDescriptor "()[Lcom/example/patient_ledger/patientledger/HoldStatus;" = some ⟨[], some (.array (.object "com/example/patient_ledger/patientledger/HoldStatus"))⟩ := by decide +kernel
theorem pd_1 : parseMethodDescriptor "(Ljava/lang/Object;)Z" = some ⟨[(.object "java/lang/Object")], some .boolean⟩ := by decide +kernel
theorem pd_2 : parseMethodDescriptor "(I)C" = some ⟨[.int], some .char⟩ := by decide +kernel
theorem pd_3 : parseMethodDescriptor "(Ljava/lang/String;IICI)C" = some ⟨[(.object "java/lang/String"), .int, .int, .char, .int], some .char⟩ := by decide +kernel
theorem pd_4 : parseMethodDescriptor "(C)Z" = some ⟨[.char], some .boolean⟩ := by decide +kernel
theorem pd_5 : parseMethodDescriptor "(C)[B" = some ⟨[.char], some (.array .byte)⟩ := by decide +kernel
theorem pd_6 : parseMethodDescriptor "([BB)V" = some ⟨[(.array .byte), .byte], none⟩ := by decide +kernel
theorem pd_7 : parseMethodDescriptor "([CIILjava/lang/Void;)V" = some ⟨[(.array .char), .int, .int, (.object "java/lang/Void")], none⟩ := by decide +kernel
theorem pd_8 : parseMethodDescriptor "([CILjava/lang/String;IIC)V" = some ⟨[(.array .char), .int, (.object "java/lang/String"), .int, .int, .char], none⟩ := by decide +kernel
theorem pd_9 : parseMethodDescriptor "(Ljava/lang/String;)Lcom/example/patient_ledger/patientledger/HoldStatus;" = some ⟨[(.object "java/lang/String")], some (.object "com/example/patient_ledger/patientledger/HoldStatus")⟩ := by decide +kernel
theorem pd_10 : parseMethodDescriptor "()I" = some ⟨[], some .int⟩ := by decide +kernel
theorem pd_11 : parseMethodDescriptor "(I)[C" = some ⟨[.int], some (.array .char)⟩ := by decide +kernel
theorem pd_12 : parseMethodDescriptor "([C)V" = some ⟨[(.array .char)], none⟩ := by decide +kernel
theorem pd_13 : parseMethodDescriptor "(C)Ljava/lang/String;" = some ⟨[.char], some (.object "java/lang/String")⟩ := by decide +kernel
theorem pf_0 : parseFieldDescriptor "[B" = some (.array .byte) := by decide +kernel
theorem pf_1 : parseFieldDescriptor "B" = some .byte := by decide +kernel
theorem sn_0 {a0 : Array Value} {Z : State} (hw : ∀ d ∈ tables_1, d.before a0 Z = true) : Jvm.RoadKit.slotOf Z "java/lang/String" "coder" "B" ≠ Jvm.RoadKit.slotOf Z "java/lang/String" "value" "[B" := slot_ne (a0 := a0) (C := "java/lang/String") (Or.inr (wd_5 hw)) (Or.inr (wd_4 hw)) (by decide) pf_1 pf_0
theorem sn_1 {a0 : Array Value} {Z : State} (hw : ∀ d ∈ tables_1, d.before a0 Z = true) : Jvm.RoadKit.slotOf Z "java/lang/String" "value" "[B" ≠ Jvm.RoadKit.slotOf Z "java/lang/String" "coder" "B" := slot_ne (a0 := a0) (C := "java/lang/String") (Or.inr (wd_4 hw)) (Or.inr (wd_5 hw)) (by decide) pf_0 pf_1
theorem d_jdk_42_method_139_code_0 : decode jdk_42_method_139_code 0 = .ok (.getstatic 38, 3) := by decide +kernel
theorem d_jdk_42_method_139_code_10 : decode jdk_42_method_139_code 10 = .ok (.ifCond .eq 16, 3) := by decide +kernel
theorem d_jdk_42_method_139_code_13 : decode jdk_42_method_139_code 13 = .ok (.new 10, 3) := by decide +kernel
theorem d_jdk_42_method_139_code_16 : decode jdk_42_method_139_code 16 = .ok (.dup, 1) := by decide +kernel
theorem d_jdk_42_method_139_code_17 : decode jdk_42_method_139_code 17 = .ok (.iload_n 0, 1) := by decide +kernel
theorem d_jdk_42_method_139_code_18 : decode jdk_42_method_139_code 18 = .ok (.invokestatic 1018, 3) := by decide +kernel
theorem d_jdk_42_method_139_code_21 : decode jdk_42_method_139_code 21 = .ok (.iconst 0, 1) := by decide +kernel
theorem d_jdk_42_method_139_code_22 : decode jdk_42_method_139_code 22 = .ok (.invokespecial 209, 3) := by decide +kernel
theorem d_jdk_42_method_139_code_25 : decode jdk_42_method_139_code 25 = .ok (.areturn, 1) := by decide +kernel
theorem d_jdk_42_method_139_code_3 : decode jdk_42_method_139_code 3 = .ok (.ifCond .eq 23, 3) := by decide +kernel
theorem d_jdk_42_method_139_code_6 : decode jdk_42_method_139_code 6 = .ok (.iload_n 0, 1) := by decide +kernel
theorem d_jdk_42_method_139_code_7 : decode jdk_42_method_139_code 7 = .ok (.invokestatic 1015, 3) := by decide +kernel
theorem d_jdk_42_method_149_code_0 : decode jdk_42_method_149_code 0 = .ok (.aload_n 0, 1) := by decide +kernel
theorem d_jdk_42_method_149_code_1 : decode jdk_42_method_149_code 1 = .ok (.invokespecial 1, 3) := by decide +kernel
theorem d_jdk_42_method_149_code_11 : decode jdk_42_method_149_code 11 = .ok (.getfield 9, 3) := by decide +kernel
theorem d_jdk_42_method_149_code_14 : decode jdk_42_method_149_code 14 = .ok (.putfield 9, 3) := by decide +kernel
theorem d_jdk_42_method_149_code_17 : decode jdk_42_method_149_code 17 = .ok (.aload_n 0, 1) := by decide +kernel
theorem d_jdk_42_method_149_code_18 : decode jdk_42_method_149_code 18 = .ok (.ldc 7, 2) := by decide +kernel
theorem d_jdk_42_method_149_code_20 : decode jdk_42_method_149_code 20 = .ok (.getfield 15, 3) := by decide +kernel
theorem d_jdk_42_method_149_code_23 : decode jdk_42_method_149_code 23 = .ok (.putfield 15, 3) := by decide +kernel
theorem d_jdk_42_method_149_code_26 : decode jdk_42_method_149_code 26 = .ok (.return_, 1) := by decide +kernel
theorem d_jdk_42_method_149_code_4 : decode jdk_42_method_149_code 4 = .ok (.iload_n 3, 1) := by decide +kernel
theorem d_jdk_42_method_149_code_5 : decode jdk_42_method_149_code 5 = .ok (.ifCond .ne 22, 3) := by decide +kernel
theorem d_jdk_42_method_149_code_8 : decode jdk_42_method_149_code 8 = .ok (.aload_n 0, 1) := by decide +kernel
theorem d_jdk_42_method_149_code_9 : decode jdk_42_method_149_code 9 = .ok (.ldc 7, 2) := by decide +kernel
theorem d_jdk_42_method_151_code_0 : decode jdk_42_method_151_code 0 = .ok (.aload_n 0, 1) := by decide +kernel
theorem d_jdk_42_method_151_code_1 : decode jdk_42_method_151_code 1 = .ok (.invokespecial 1, 3) := by decide +kernel
theorem d_jdk_42_method_151_code_10 : decode jdk_42_method_151_code 10 = .ok (.iload_n 2, 1) := by decide +kernel
theorem d_jdk_42_method_151_code_11 : decode jdk_42_method_151_code 11 = .ok (.putfield 15, 3) := by decide +kernel
theorem d_jdk_42_method_151_code_14 : decode jdk_42_method_151_code 14 = .ok (.return_, 1) := by decide +kernel
theorem d_jdk_42_method_151_code_4 : decode jdk_42_method_151_code 4 = .ok (.aload_n 0, 1) := by decide +kernel
theorem d_jdk_42_method_151_code_5 : decode jdk_42_method_151_code 5 = .ok (.aload_n 1, 1) := by decide +kernel
theorem d_jdk_42_method_151_code_6 : decode jdk_42_method_151_code 6 = .ok (.putfield 9, 3) := by decide +kernel
theorem d_jdk_42_method_151_code_9 : decode jdk_42_method_151_code 9 = .ok (.aload_n 0, 1) := by decide +kernel
theorem d_jdk_42_method_3_code_0 : decode jdk_42_method_3_code 0 = .ok (.aload_n 0, 1) := by decide +kernel
theorem d_jdk_42_method_3_code_1 : decode jdk_42_method_3_code 1 = .ok (.aload_n 1, 1) := by decide +kernel
theorem d_jdk_42_method_3_code_2 : decode jdk_42_method_3_code 2 = .ok (.iconst 0, 1) := by decide +kernel
theorem d_jdk_42_method_3_code_3 : decode jdk_42_method_3_code 3 = .ok (.aload_n 1, 1) := by decide +kernel
theorem d_jdk_42_method_3_code_4 : decode jdk_42_method_3_code 4 = .ok (.arraylength, 1) := by decide +kernel
theorem d_jdk_42_method_3_code_5 : decode jdk_42_method_3_code 5 = .ok (.aconst_null, 1) := by decide +kernel
theorem d_jdk_42_method_3_code_6 : decode jdk_42_method_3_code 6 = .ok (.invokespecial 27, 3) := by decide +kernel
theorem d_jdk_42_method_3_code_9 : decode jdk_42_method_3_code 9 = .ok (.return_, 1) := by decide +kernel
theorem d_jdk_42_method_66_code_0 : decode jdk_42_method_66_code 0 = .ok (.aload_n 0, 1) := by decide +kernel
theorem d_jdk_42_method_66_code_1 : decode jdk_42_method_66_code 1 = .ok (.aload_n 1, 1) := by decide +kernel
theorem d_jdk_42_method_66_code_11 : decode jdk_42_method_66_code 11 = .ok (.ifCond .eq 43, 3) := by decide +kernel
theorem d_jdk_42_method_66_code_2 : decode jdk_42_method_66_code 2 = .ok (.if_acmp .ne 5, 3) := by decide +kernel
theorem d_jdk_42_method_66_code_54 : decode jdk_42_method_66_code 54 = .ok (.iconst 0, 1) := by decide +kernel
theorem d_jdk_42_method_66_code_55 : decode jdk_42_method_66_code 55 = .ok (.ireturn, 1) := by decide +kernel
theorem d_jdk_42_method_66_code_7 : decode jdk_42_method_66_code 7 = .ok (.aload_n 1, 1) := by decide +kernel
theorem d_jdk_42_method_66_code_8 : decode jdk_42_method_66_code 8 = .ok (.instanceof 10, 3) := by decide +kernel
theorem d_jdk_43_method_3_code_0 : decode jdk_43_method_3_code 0 = .ok (.iload_n 0, 1) := by decide +kernel
theorem d_jdk_43_method_3_code_1 : decode jdk_43_method_3_code 1 = .ok (.sipush 255, 3) := by decide +kernel
theorem d_jdk_43_method_3_code_12 : decode jdk_43_method_3_code 12 = .ok (.ireturn, 1) := by decide +kernel
theorem d_jdk_43_method_3_code_4 : decode jdk_43_method_3_code 4 = .ok (.if_icmp .gt 7, 3) := by decide +kernel
theorem d_jdk_43_method_3_code_7 : decode jdk_43_method_3_code 7 = .ok (.iconst 1, 1) := by decide +kernel
theorem d_jdk_43_method_3_code_8 : decode jdk_43_method_3_code 8 = .ok (.goto 4, 3) := by decide +kernel
theorem d_jdk_43_method_46_code_0 : decode jdk_43_method_46_code 0 = .ok (.iconst 1, 1) := by decide +kernel
theorem d_jdk_43_method_46_code_1 : decode jdk_43_method_46_code 1 = .ok (.newarray .byte, 2) := by decide +kernel
theorem d_jdk_43_method_46_code_3 : decode jdk_43_method_46_code 3 = .ok (.dup, 1) := by decide +kernel
theorem d_jdk_43_method_46_code_4 : decode jdk_43_method_46_code 4 = .ok (.iconst 0, 1) := by decide +kernel
theorem d_jdk_43_method_46_code_5 : decode jdk_43_method_46_code 5 = .ok (.iload_n 0, 1) := by decide +kernel
theorem d_jdk_43_method_46_code_6 : decode jdk_43_method_46_code 6 = .ok (.i2b, 1) := by decide +kernel
theorem d_jdk_43_method_46_code_7 : decode jdk_43_method_46_code 7 = .ok (.bastore, 1) := by decide +kernel
theorem d_jdk_43_method_46_code_8 : decode jdk_43_method_46_code 8 = .ok (.areturn, 1) := by decide +kernel
theorem d_method_3_code_0 : decode method_3_code 0 = .ok (.aload_n 0, 1) := by decide +kernel
theorem d_method_3_code_1 : decode method_3_code 1 = .ok (.ifnonnull 5, 3) := by decide +kernel
theorem d_method_3_code_12 : decode method_3_code 12 = .ok (.ifCond .eq 7, 3) := by decide +kernel
theorem d_method_3_code_15 : decode method_3_code 15 = .ok (.getstatic 52, 3) := by decide +kernel
theorem d_method_3_code_18 : decode method_3_code 18 = .ok (.areturn, 1) := by decide +kernel
theorem d_method_3_code_19 : decode method_3_code 19 = .ok (.aload_n 0, 1) := by decide +kernel
theorem d_method_3_code_20 : decode method_3_code 20 = .ok (.ldc 9, 2) := by decide +kernel
theorem d_method_3_code_22 : decode method_3_code 22 = .ok (.invokevirtual 48, 3) := by decide +kernel
theorem d_method_3_code_25 : decode method_3_code 25 = .ok (.ifCond .eq 7, 3) := by decide +kernel
theorem d_method_3_code_28 : decode method_3_code 28 = .ok (.getstatic 56, 3) := by decide +kernel
theorem d_method_3_code_31 : decode method_3_code 31 = .ok (.areturn, 1) := by decide +kernel
theorem d_method_3_code_32 : decode method_3_code 32 = .ok (.aload_n 0, 1) := by decide +kernel
theorem d_method_3_code_33 : decode method_3_code 33 = .ok (.ldc 11, 2) := by decide +kernel
theorem d_method_3_code_35 : decode method_3_code 35 = .ok (.invokevirtual 48, 3) := by decide +kernel
theorem d_method_3_code_38 : decode method_3_code 38 = .ok (.ifCond .eq 7, 3) := by decide +kernel
theorem d_method_3_code_4 : decode method_3_code 4 = .ok (.aconst_null, 1) := by decide +kernel
theorem d_method_3_code_41 : decode method_3_code 41 = .ok (.getstatic 59, 3) := by decide +kernel
theorem d_method_3_code_44 : decode method_3_code 44 = .ok (.areturn, 1) := by decide +kernel
theorem d_method_3_code_45 : decode method_3_code 45 = .ok (.aload_n 0, 1) := by decide +kernel
theorem d_method_3_code_46 : decode method_3_code 46 = .ok (.ldc 13, 2) := by decide +kernel
theorem d_method_3_code_48 : decode method_3_code 48 = .ok (.invokevirtual 48, 3) := by decide +kernel
theorem d_method_3_code_5 : decode method_3_code 5 = .ok (.areturn, 1) := by decide +kernel
theorem d_method_3_code_51 : decode method_3_code 51 = .ok (.ifCond .eq 7, 3) := by decide +kernel
theorem d_method_3_code_54 : decode method_3_code 54 = .ok (.getstatic 62, 3) := by decide +kernel
theorem d_method_3_code_57 : decode method_3_code 57 = .ok (.areturn, 1) := by decide +kernel
theorem d_method_3_code_58 : decode method_3_code 58 = .ok (.aconst_null, 1) := by decide +kernel
theorem d_method_3_code_59 : decode method_3_code 59 = .ok (.areturn, 1) := by decide +kernel
theorem d_method_3_code_6 : decode method_3_code 6 = .ok (.aload_n 0, 1) := by decide +kernel
theorem d_method_3_code_7 : decode method_3_code 7 = .ok (.ldc 7, 2) := by decide +kernel
theorem d_method_3_code_9 : decode method_3_code 9 = .ok (.invokevirtual 48, 3) := by decide +kernel
theorem d_method_4_code_0 : decode method_4_code 0 = .ok (.iload_n 0, 1) := by decide +kernel
theorem d_method_4_code_1 : decode method_4_code 1 = .ok (.iconst 5, 1) := by decide +kernel
theorem d_method_4_code_10 : decode method_4_code 10 = .ok (.bipush 6, 2) := by decide +kernel
theorem d_method_4_code_12 : decode method_4_code 12 = .ok (.if_icmp .ne 8, 3) := by decide +kernel
theorem d_method_4_code_15 : decode method_4_code 15 = .ok (.bipush 6, 2) := by decide +kernel
theorem d_method_4_code_17 : decode method_4_code 17 = .ok (.newarray .char, 2) := by decide +kernel
theorem d_method_4_code_19 : decode method_4_code 19 = .ok (.areturn, 1) := by decide +kernel
theorem d_method_4_code_2 : decode method_4_code 2 = .ok (.if_icmp .ne 7, 3) := by decide +kernel
theorem d_method_4_code_20 : decode method_4_code 20 = .ok (.iload_n 0, 1) := by decide +kernel
theorem d_method_4_code_21 : decode method_4_code 21 = .ok (.bipush 7, 2) := by decide +kernel
theorem d_method_4_code_23 : decode method_4_code 23 = .ok (.if_icmp .ne 8, 3) := by decide +kernel
theorem d_method_4_code_26 : decode method_4_code 26 = .ok (.bipush 7, 2) := by decide +kernel
theorem d_method_4_code_28 : decode method_4_code 28 = .ok (.newarray .char, 2) := by decide +kernel
theorem d_method_4_code_30 : decode method_4_code 30 = .ok (.areturn, 1) := by decide +kernel
theorem d_method_4_code_31 : decode method_4_code 31 = .ok (.iload_n 0, 1) := by decide +kernel
theorem d_method_4_code_32 : decode method_4_code 32 = .ok (.bipush 8, 2) := by decide +kernel
theorem d_method_4_code_34 : decode method_4_code 34 = .ok (.if_icmp .ne 8, 3) := by decide +kernel
theorem d_method_4_code_37 : decode method_4_code 37 = .ok (.bipush 8, 2) := by decide +kernel
theorem d_method_4_code_39 : decode method_4_code 39 = .ok (.newarray .char, 2) := by decide +kernel
theorem d_method_4_code_41 : decode method_4_code 41 = .ok (.areturn, 1) := by decide +kernel
theorem d_method_4_code_42 : decode method_4_code 42 = .ok (.bipush 9, 2) := by decide +kernel
theorem d_method_4_code_44 : decode method_4_code 44 = .ok (.newarray .char, 2) := by decide +kernel
theorem d_method_4_code_46 : decode method_4_code 46 = .ok (.areturn, 1) := by decide +kernel
theorem d_method_4_code_5 : decode method_4_code 5 = .ok (.iconst 5, 1) := by decide +kernel
theorem d_method_4_code_6 : decode method_4_code 6 = .ok (.newarray .char, 2) := by decide +kernel
theorem d_method_4_code_8 : decode method_4_code 8 = .ok (.areturn, 1) := by decide +kernel
theorem d_method_4_code_9 : decode method_4_code 9 = .ok (.iload_n 0, 1) := by decide +kernel
theorem d_method_5_code_0 : decode method_5_code 0 = .ok (.iload_n 1, 1) := by decide +kernel
theorem d_method_5_code_1 : decode method_5_code 1 = .ok (.aload_n 0, 1) := by decide +kernel
theorem d_method_5_code_10 : decode method_5_code 10 = .ok (.iload 4, 2) := by decide +kernel
theorem d_method_5_code_12 : decode method_5_code 12 = .ok (.iload 5, 2) := by decide +kernel
theorem d_method_5_code_14 : decode method_5_code 14 = .ok (.iload_n 1, 1) := by decide +kernel
theorem d_method_5_code_15 : decode method_5_code 15 = .ok (.invokestatic 65, 3) := by decide +kernel
theorem d_method_5_code_18 : decode method_5_code 18 = .ok (.castore, 1) := by decide +kernel
theorem d_method_5_code_19 : decode method_5_code 19 = .ok (.return_, 1) := by decide +kernel
theorem d_method_5_code_2 : decode method_5_code 2 = .ok (.arraylength, 1) := by decide +kernel
theorem d_method_5_code_3 : decode method_5_code 3 = .ok (.if_icmp .ge 16, 3) := by decide +kernel
theorem d_method_5_code_6 : decode method_5_code 6 = .ok (.aload_n 0, 1) := by decide +kernel
theorem d_method_5_code_7 : decode method_5_code 7 = .ok (.iload_n 1, 1) := by decide +kernel
theorem d_method_5_code_8 : decode method_5_code 8 = .ok (.aload_n 2, 1) := by decide +kernel
theorem d_method_5_code_9 : decode method_5_code 9 = .ok (.iload_n 3, 1) := by decide +kernel
theorem d_method_6_code_0 : decode method_6_code 0 = .ok (.iload_n 1, 1) := by decide +kernel
theorem d_method_6_code_1 : decode method_6_code 1 = .ok (.ifCond .ne 10, 3) := by decide +kernel
theorem d_method_6_code_10 : decode method_6_code 10 = .ok (.ireturn, 1) := by decide +kernel
theorem d_method_6_code_11 : decode method_6_code 11 = .ok (.iload_n 1, 1) := by decide +kernel
theorem d_method_6_code_12 : decode method_6_code 12 = .ok (.iconst 1, 1) := by decide +kernel
theorem d_method_6_code_13 : decode method_6_code 13 = .ok (.if_icmp .ne 20, 3) := by decide +kernel
theorem d_method_6_code_16 : decode method_6_code 16 = .ok (.iload 4, 2) := by decide +kernel
theorem d_method_6_code_18 : decode method_6_code 18 = .ok (.iload_n 2, 1) := by decide +kernel
theorem d_method_6_code_19 : decode method_6_code 19 = .ok (.if_icmp .ne 7, 3) := by decide +kernel
theorem d_method_6_code_22 : decode method_6_code 22 = .ok (.iload_n 3, 1) := by decide +kernel
theorem d_method_6_code_23 : decode method_6_code 23 = .ok (.goto 9, 3) := by decide +kernel
theorem d_method_6_code_26 : decode method_6_code 26 = .ok (.aload_n 0, 1) := by decide +kernel
theorem d_method_6_code_27 : decode method_6_code 27 = .ok (.iload 4, 2) := by decide +kernel
theorem d_method_6_code_29 : decode method_6_code 29 = .ok (.invokevirtual 69, 3) := by decide +kernel
theorem d_method_6_code_32 : decode method_6_code 32 = .ok (.ireturn, 1) := by decide +kernel
theorem d_method_6_code_33 : decode method_6_code 33 = .ok (.iload_n 1, 1) := by decide +kernel
theorem d_method_6_code_34 : decode method_6_code 34 = .ok (.iconst 2, 1) := by decide +kernel
theorem d_method_6_code_35 : decode method_6_code 35 = .ok (.if_icmp .ne 27, 3) := by decide +kernel
theorem d_method_6_code_38 : decode method_6_code 38 = .ok (.iload 4, 2) := by decide +kernel
theorem d_method_6_code_4 : decode method_6_code 4 = .ok (.aload_n 0, 1) := by decide +kernel
theorem d_method_6_code_40 : decode method_6_code 40 = .ok (.iload_n 2, 1) := by decide +kernel
theorem d_method_6_code_41 : decode method_6_code 41 = .ok (.if_icmp .ge 12, 3) := by decide +kernel
theorem d_method_6_code_44 : decode method_6_code 44 = .ok (.aload_n 0, 1) := by decide +kernel
theorem d_method_6_code_45 : decode method_6_code 45 = .ok (.iload 4, 2) := by decide +kernel
theorem d_method_6_code_47 : decode method_6_code 47 = .ok (.invokevirtual 69, 3) := by decide +kernel
theorem d_method_6_code_5 : decode method_6_code 5 = .ok (.iload 4, 2) := by decide +kernel
theorem d_method_6_code_50 : decode method_6_code 50 = .ok (.goto 11, 3) := by decide +kernel
theorem d_method_6_code_53 : decode method_6_code 53 = .ok (.aload_n 0, 1) := by decide +kernel
theorem d_method_6_code_54 : decode method_6_code 54 = .ok (.iload 4, 2) := by decide +kernel
theorem d_method_6_code_56 : decode method_6_code 56 = .ok (.iconst 1, 1) := by decide +kernel
theorem d_method_6_code_57 : decode method_6_code 57 = .ok (.iadd, 1) := by decide +kernel
theorem d_method_6_code_58 : decode method_6_code 58 = .ok (.invokevirtual 69, 3) := by decide +kernel
theorem d_method_6_code_61 : decode method_6_code 61 = .ok (.ireturn, 1) := by decide +kernel
theorem d_method_6_code_62 : decode method_6_code 62 = .ok (.iload 4, 2) := by decide +kernel
theorem d_method_6_code_64 : decode method_6_code 64 = .ok (.iload_n 2, 1) := by decide +kernel
theorem d_method_6_code_65 : decode method_6_code 65 = .ok (.if_icmp .ge 10, 3) := by decide +kernel
theorem d_method_6_code_68 : decode method_6_code 68 = .ok (.aload_n 0, 1) := by decide +kernel
theorem d_method_6_code_69 : decode method_6_code 69 = .ok (.iload 4, 2) := by decide +kernel
theorem d_method_6_code_7 : decode method_6_code 7 = .ok (.invokevirtual 69, 3) := by decide +kernel
theorem d_method_6_code_71 : decode method_6_code 71 = .ok (.invokevirtual 69, 3) := by decide +kernel
theorem d_method_6_code_74 : decode method_6_code 74 = .ok (.ireturn, 1) := by decide +kernel
theorem d_method_6_code_75 : decode method_6_code 75 = .ok (.iload 4, 2) := by decide +kernel
theorem d_method_6_code_77 : decode method_6_code 77 = .ok (.iload_n 2, 1) := by decide +kernel
theorem d_method_6_code_78 : decode method_6_code 78 = .ok (.if_icmp .ne 5, 3) := by decide +kernel
theorem d_method_6_code_81 : decode method_6_code 81 = .ok (.iload_n 3, 1) := by decide +kernel
theorem d_method_6_code_82 : decode method_6_code 82 = .ok (.ireturn, 1) := by decide +kernel
theorem d_method_6_code_83 : decode method_6_code 83 = .ok (.aload_n 0, 1) := by decide +kernel
theorem d_method_6_code_84 : decode method_6_code 84 = .ok (.iload 4, 2) := by decide +kernel
theorem d_method_6_code_86 : decode method_6_code 86 = .ok (.iconst 1, 1) := by decide +kernel
theorem d_method_6_code_87 : decode method_6_code 87 = .ok (.isub, 1) := by decide +kernel
theorem d_method_6_code_88 : decode method_6_code 88 = .ok (.invokevirtual 69, 3) := by decide +kernel
theorem d_method_6_code_91 : decode method_6_code 91 = .ok (.ireturn, 1) := by decide +kernel
theorem d_prog_8_method_1_code_0 : decode prog_8_method_1_code 0 = .ok (.getstatic 16, 3) := by decide +kernel
theorem d_prog_8_method_1_code_3 : decode prog_8_method_1_code 3 = .ok (.invokevirtual 20, 3) := by decide +kernel
theorem d_prog_8_method_1_code_6 : decode prog_8_method_1_code 6 = .ok (.checkcast 21, 3) := by decide +kernel
theorem d_prog_8_method_1_code_9 : decode prog_8_method_1_code 9 = .ok (.areturn, 1) := by decide +kernel
theorem d_prog_8_method_5_code_0 : decode prog_8_method_5_code 0 = .ok (.aconst_null, 1) := by decide +kernel
theorem d_prog_8_method_5_code_1 : decode prog_8_method_5_code 1 = .ok (.astore_n 1, 1) := by decide +kernel
theorem d_prog_8_method_5_code_10 : decode prog_8_method_5_code 10 = .ok (.istore 4, 2) := by decide +kernel
theorem d_prog_8_method_5_code_12 : decode prog_8_method_5_code 12 = .ok (.iload 4, 2) := by decide +kernel
theorem d_prog_8_method_5_code_14 : decode prog_8_method_5_code 14 = .ok (.iload_n 3, 1) := by decide +kernel
theorem d_prog_8_method_5_code_15 : decode prog_8_method_5_code 15 = .ok (.if_icmp .ge 30, 3) := by decide +kernel
theorem d_prog_8_method_5_code_18 : decode prog_8_method_5_code 18 = .ok (.aload_n 2, 1) := by decide +kernel
theorem d_prog_8_method_5_code_19 : decode prog_8_method_5_code 19 = .ok (.iload 4, 2) := by decide +kernel
theorem d_prog_8_method_5_code_2 : decode prog_8_method_5_code 2 = .ok (.invokestatic 39, 3) := by decide +kernel
theorem d_prog_8_method_5_code_21 : decode prog_8_method_5_code 21 = .ok (.aaload, 1) := by decide +kernel
theorem d_prog_8_method_5_code_22 : decode prog_8_method_5_code 22 = .ok (.astore 5, 2) := by decide +kernel
theorem d_prog_8_method_5_code_24 : decode prog_8_method_5_code 24 = .ok (.aload 5, 2) := by decide +kernel
theorem d_prog_8_method_5_code_26 : decode prog_8_method_5_code 26 = .ok (.getfield 35, 3) := by decide +kernel
theorem d_prog_8_method_5_code_29 : decode prog_8_method_5_code 29 = .ok (.aload_n 0, 1) := by decide +kernel
theorem d_prog_8_method_5_code_30 : decode prog_8_method_5_code 30 = .ok (.invokevirtual 43, 3) := by decide +kernel
theorem d_prog_8_method_5_code_33 : decode prog_8_method_5_code 33 = .ok (.ifCond .eq 6, 3) := by decide +kernel
theorem d_prog_8_method_5_code_36 : decode prog_8_method_5_code 36 = .ok (.aload 5, 2) := by decide +kernel
theorem d_prog_8_method_5_code_38 : decode prog_8_method_5_code 38 = .ok (.astore_n 1, 1) := by decide +kernel
theorem d_prog_8_method_5_code_39 : decode prog_8_method_5_code 39 = .ok (.iinc 4 1, 3) := by decide +kernel
theorem d_prog_8_method_5_code_42 : decode prog_8_method_5_code 42 = .ok (.goto (-30), 3) := by decide +kernel
theorem d_prog_8_method_5_code_45 : decode prog_8_method_5_code 45 = .ok (.aload_n 1, 1) := by decide +kernel
theorem d_prog_8_method_5_code_46 : decode prog_8_method_5_code 46 = .ok (.areturn, 1) := by decide +kernel
theorem d_prog_8_method_5_code_5 : decode prog_8_method_5_code 5 = .ok (.astore_n 2, 1) := by decide +kernel
theorem d_prog_8_method_5_code_6 : decode prog_8_method_5_code 6 = .ok (.aload_n 2, 1) := by decide +kernel
theorem d_prog_8_method_5_code_7 : decode prog_8_method_5_code 7 = .ok (.arraylength, 1) := by decide +kernel
theorem d_prog_8_method_5_code_8 : decode prog_8_method_5_code 8 = .ok (.istore_n 3, 1) := by decide +kernel
theorem d_prog_8_method_5_code_9 : decode prog_8_method_5_code 9 = .ok (.iconst 0, 1) := by decide +kernel
theorem lat0 : ∀ c ∈ ([] : List Int32), ¬ c < 0 ∧ ¬ (255 : Int32) < c := fun _ q => nomatch q
theorem latc {x : Int32} {cs : List Int32} (q : ¬ x < 0 ∧ ¬ (255 : Int32) < x) (r : ∀ c ∈ cs, ¬ c < 0 ∧ ¬ (255 : Int32) < c) : ∀ c ∈ x :: cs, ¬ c < 0 ∧ ¬ (255 : Int32) < c := fun c z => (List.mem_cons.mp z).elim (fun u => u ▸ q) (r c)
theorem eqv_if {cs ds : List Int32} {v : Option Value} (h : (v = some (.int 1) ∧ cs = ds) ∨ (v = some (.int 0) ∧ ¬ cs = ds)) : v = some (.int (if cs = ds then (1 : Int32) else 0)) := by
  rcases h with ⟨a, b⟩ | ⟨a, b⟩
  · rw [a, if_pos b]
  · rw [a, if_neg b]
theorem sw_words {a0 : Array Value} {Z : State} (hw : ∀ d ∈ tables_1, d.before a0 Z = true) : ∀ d ∈ StrChars.Road.words, d.before a0 Z = true := fun d hd => hw d ((by decide +kernel : ∀ d ∈ StrChars.Road.words, d ∈ tables_1) d hd)
theorem sw_wordsChN {a0 : Array Value} {Z : State} (hw : ∀ d ∈ tables_1, d.before a0 Z = true) : ∀ d ∈ StrChars.Road.wordsChN, d.before a0 Z = true := fun d hd => hw d ((by decide +kernel : ∀ d ∈ StrChars.Road.wordsChN, d ∈ tables_1) d hd)
theorem sw_wordsEq {a0 : Array Value} {Z : State} (hw : ∀ d ∈ tables_1, d.before a0 Z = true) : ∀ d ∈ StrChars.Road.wordsEq, d.before a0 Z = true := fun d hd => hw d ((by decide +kernel : ∀ d ∈ StrChars.Road.wordsEq, d ∈ tables_1) d hd)
theorem sw_wordsLen {a0 : Array Value} {Z : State} (hw : ∀ d ∈ tables_1, d.before a0 Z = true) : ∀ d ∈ StrChars.Road.wordsLen, d.before a0 Z = true := fun d hd => hw d ((by decide +kernel : ∀ d ∈ StrChars.Road.wordsLen, d ∈ tables_1) d hd)
def EL : List (String × Nat) := [("com/example/patient_ledger/patientledger/HoldStatusFromWireNamePinLaw", 7), ("com/example/patient_ledger/patientledger/HoldStatusFromWireNamePinLaw", 9), ("com/example/patient_ledger/patientledger/HoldStatusFromWireNamePinLaw", 11), ("com/example/patient_ledger/patientledger/HoldStatusFromWireNamePinLaw", 13), ("java/lang/String", 7)]
theorem hEL_ {Z : State} {a0 : Array Value} (hw : ∀ d ∈ tables_1, d.before a0 Z = true) : EW Z a0 EL := (EW.cons (wd_0 hw) (by decide) (EW.cons (wd_114 hw) (by decide) (EW.cons (wd_115 hw) (by decide) (EW.cons (wd_116 hw) (by decide) (EW.cons (wd_133 hw) (by decide) EW.nil)))))
theorem hwS_ {Z : State} {a0 : Array Value} (hw : ∀ d ∈ tables_1, d.before a0 Z = true) : ∀ d ∈ Bundle.stringAtoms, d.before a0 Z = true := fun d hd => hw d ((by decide +kernel : ∀ d ∈ Bundle.stringAtoms, d ∈ tables_1) d hd)
def St (Z : State) (zc : Int32) (vfm : Value) (va : Addr) (kv : ClassId) (ea : Addr) (eb : Addr) (ec : Addr) (ed : Addr) (wa : Addr) (wb : Addr) (wc : Addr) (wd : Addr) : Prop := Sta Z Z.heap "java/lang/String" "COMPACT_STRINGS" "Z" (.int zc) ∧ ¬ zc = 0 ∧ Sta Z Z.heap "jdk/internal/util/Preconditions" "SIOOBE_FORMATTER" "Ljava/util/function/BiFunction;" vfm ∧ vfm.isRef = true ∧ Sta Z Z.heap "com/example/patient_ledger/patientledger/HoldStatus" "$VALUES" "[Lcom/example/patient_ledger/patientledger/HoldStatus;" (.ref va) ∧ Exa Z Z.heap va "[Lcom/example/patient_ledger/patientledger/HoldStatus;" ∧ Arv Z Z.heap va kv (.object "com/example/patient_ledger/patientledger/HoldStatus") (4 : Int32) [(.ref ea), (.ref eb), (.ref ec), (.ref ed)] .null ∧ Sta Z Z.heap "com/example/patient_ledger/patientledger/HoldStatus" "PENDING" "Lcom/example/patient_ledger/patientledger/HoldStatus;" (.ref ea) ∧ Fld Z Z.heap ea "com/example/patient_ledger/patientledger/HoldStatus" "wireName" "Ljava/lang/String;" (.ref wa) ∧ Str Z (Z.heap).size (Z.heap) wa ([(112 : Int32), (101 : Int32), (110 : Int32), (100 : Int32), (105 : Int32), (110 : Int32), (103 : Int32)] : List Int32) ∧ Sta Z Z.heap "com/example/patient_ledger/patientledger/HoldStatus" "CAPTURED" "Lcom/example/patient_ledger/patientledger/HoldStatus;" (.ref eb) ∧ Fld Z Z.heap eb "com/example/patient_ledger/patientledger/HoldStatus" "wireName" "Ljava/lang/String;" (.ref wb) ∧ Str Z (Z.heap).size (Z.heap) wb ([(99 : Int32), (97 : Int32), (112 : Int32), (116 : Int32), (117 : Int32), (114 : Int32), (101 : Int32), (100 : Int32)] : List Int32) ∧ Sta Z Z.heap "com/example/patient_ledger/patientledger/HoldStatus" "VOIDED" "Lcom/example/patient_ledger/patientledger/HoldStatus;" (.ref ec) ∧ Fld Z Z.heap ec "com/example/patient_ledger/patientledger/HoldStatus" "wireName" "Ljava/lang/String;" (.ref wc) ∧ Str Z (Z.heap).size (Z.heap) wc ([(118 : Int32), (111 : Int32), (105 : Int32), (100 : Int32), (101 : Int32), (100 : Int32)] : List Int32) ∧ Sta Z Z.heap "com/example/patient_ledger/patientledger/HoldStatus" "EXPIRED" "Lcom/example/patient_ledger/patientledger/HoldStatus;" (.ref ed) ∧ Fld Z Z.heap ed "com/example/patient_ledger/patientledger/HoldStatus" "wireName" "Ljava/lang/String;" (.ref wd) ∧ Str Z (Z.heap).size (Z.heap) wd ([(101 : Int32), (120 : Int32), (112 : Int32), (105 : Int32), (114 : Int32), (101 : Int32), (100 : Int32)] : List Int32)
theorem nar255 (x : Int32) : nar .char (x &&& (255 : Int32)) = x &&& (255 : Int32) := i2c_mask x
theorem lat255 (x : Int32) : ¬ (x &&& (255 : Int32)) < 0 ∧ ¬ (255 : Int32) < x &&& (255 : Int32) := by
  have h := c_mask x 255 8 (by decide) (by decide)
  have e1 : (255 : Int32).toInt = 255 := by decide
  have e2 : (0 : Int32).toInt = 0 := by decide
  rw [Int32.lt_iff_toInt_lt, Int32.lt_iff_toInt_lt, h]
  omega
theorem latI {x : Int32} (h : ¬ x < 0 ∧ ¬ (255 : Int32) < x) : 0 ≤ x.toInt ∧ x.toInt ≤ 255 := by
  have e1 : (255 : Int32).toInt = 255 := by decide
  have e2 : (0 : Int32).toInt = 0 := by decide
  rw [Int32.lt_iff_toInt_lt, Int32.lt_iff_toInt_lt] at h
  omega
theorem nar_lat {x : Int32} (h : ¬ x < 0 ∧ ¬ (255 : Int32) < x) : nar .char x = x := by
  have q := latI h
  have r := c_i2c x
  have s := rng32 x
  apply Int32.toInt_inj.mp
  show x.toUInt32.toUInt16.toUInt32.toInt32.toInt = x.toInt
  omega
theorem i8_inj {x y : Int32} (hx : ¬ x < 0 ∧ ¬ (255 : Int32) < x) (hy : ¬ y < 0 ∧ ¬ (255 : Int32) < y) (e : x.toInt8.toInt32 = y.toInt8.toInt32) : x = y := by
  have a := latI hx
  have b := latI hy
  have r := c_i2b x
  have s := c_i2b y
  rw [e] at r
  apply Int32.toInt_inj.mp
  omega
theorem bytes_getD (cs : List Int32) (i : Nat) : ((cs.map fun c => c.toInt8.toInt32).map Value.int).getD i (.int (0 : Int32)) = .int (cs.getD i 0).toInt8.toInt32 := by
  rw [List.map_map, List.getD_eq_getElem?_getD, List.getD_eq_getElem?_getD, List.getElem?_map]
  cases cs[i]? <;> rfl
theorem ofNat_toInt {k : Nat} (h : k ≤ 100000) : (Int32.ofNat k).toInt = k := Int32.toInt_ofNat_small (by omega)
theorem lt_ofNat {k i : Nat} {j : Int32} (h : k ≤ 100000) (e : j.toInt = i) (q : i < k) : ¬ j < 0 ∧ j < Int32.ofNat k := by
  rw [Int32.lt_iff_toInt_lt, Int32.lt_iff_toInt_lt, ofNat_toInt h, e]
  have e2 : (0 : Int32).toInt = 0 := by decide
  omega
theorem sub_lt0 {k n : Nat} {j : Int32} (h : k ≤ 100000) (e : j.toInt = n) (q : n ≤ 100000) : (Int32.ofNat k - j) < 0 ↔ k < n := by
  have a := c_isub (Int32.ofNat k) j
  have b := rng32 (Int32.ofNat k - j)
  rw [ofNat_toInt h, e] at a
  have e2 : (0 : Int32).toInt = 0 := by decide
  rw [Int32.lt_iff_toInt_lt, e2]
  omega
theorem b01_iff {P Q : Prop} [Decidable P] [Decidable Q] (h : P ↔ Q) : (if P then (1 : Int32) else 0) = (if Q then (1 : Int32) else 0) := by
  by_cases q : P
  · rw [if_pos q, if_pos (h.mp q)]
  · rw [if_neg q, if_neg (fun z => q (h.mpr z))]

def fwv (ea eb ec ed : Addr) (cs : List Int32) : Value := if cs = ([(112 : Int32), (101 : Int32), (110 : Int32), (100 : Int32), (105 : Int32), (110 : Int32), (103 : Int32)] : List Int32) then .ref ea else if cs = ([(99 : Int32), (97 : Int32), (112 : Int32), (116 : Int32), (117 : Int32), (114 : Int32), (101 : Int32), (100 : Int32)] : List Int32) then .ref eb else if cs = ([(118 : Int32), (111 : Int32), (105 : Int32), (100 : Int32), (101 : Int32), (100 : Int32)] : List Int32) then .ref ec else if cs = ([(101 : Int32), (120 : Int32), (112 : Int32), (105 : Int32), (114 : Int32), (101 : Int32), (100 : Int32)] : List Int32) then .ref ed else .null
theorem fwv_ref {ea eb ec ed : Addr} {cs : List Int32} : (fwv ea eb ec ed cs).isRef = true := by unfold fwv; repeat (first | rfl | split)
--@C values
def Q_values (Z : State) (zc : Int32) (vfm : Value) (va : Addr) (kv : ClassId) (ea : Addr) (eb : Addr) (ec : Addr) (ed : Addr) (wa : Addr) (wb : Addr) (wc : Addr) (wd : Addr) (h0 : Heap) (n0 : Nat) (v : Option Value) (h : Heap) (L : List Loc) : Prop := ∃ (r : Addr), v = some (.ref r) ∧ Fr n0 L ∧ Keep h0 h [] ∧ h0.size ≤ r ∧ Arv Z h r kv (.object "com/example/patient_ledger/patientledger/HoldStatus") (4 : Int32) [(.ref ea), (.ref eb), (.ref ec), (.ref ed)] .null
set_option maxRecDepth 65536 in
set_option maxHeartbeats 40000000 in
theorem rm_values (l : Launch) (Z : State) (a0 : Array Value) (hw : ∀ d ∈ tables_1, d.before a0 Z = true) (zc : Int32) (vfm : Value) (va : Addr) (kv : ClassId) (ea : Addr) (eb : Addr) (ec : Addr) (ed : Addr) (wa : Addr) (wb : Addr) (wc : Addr) (wd : Addr) (h0 : Heap) (n0 : Nat) (Z0 : n0 ≤ h0.size) (hSt : St Z zc vfm va kv ea eb ec ed wa wb wc wd) (hO : Old Z n0 h0) :
    CN l Z ({ cls := "com/example/patient_ledger/patientledger/HoldStatus", name := "values", desc := "()[Lcom/example/patient_ledger/patientledger/HoldStatus;" } : Jvm.MethodName) [(Jvm.Cond.code ({ cls := "com/example/patient_ledger/patientledger/HoldStatus", name := "values", desc := "()[Lcom/example/patient_ledger/patientledger/HoldStatus;" } : Jvm.MethodName) prog_8_method_1_code (0 : Nat) (Option.some (Jvm.ClassFile.FieldType.array (Jvm.ClassFile.FieldType.object "com/example/patient_ledger/patientledger/HoldStatus"))))] ({ frames := 1, cells := 1, slots := 4, locals := 14 } : Room) #[] h0 (Q_values Z zc vfm va kv ea eb ec ed wa wb wc wd h0 n0) := by
  refine CN.of (L0 := #[]) (plainFor_of_name pn_0) (fun m => by first | (simp [entryFrame, mkF, argsToLocals, Value.category]; done) | rfl) ?_
  intro p e s m below meth c s₁ hx hby hml hret hlk hZ hown hnm X0 e0
  have N0 := Fr.nil n0
  have KP0 := Keep.refl h0 []
  have hSt_ := hSt
  obtain ⟨S_cs, n_cs, S_fm, r_fm, S_va, E_va, A_va, S_ea, F_ea, S_wa, S_eb, F_eb, S_wb, S_ec, F_ec, S_wc, S_ed, F_ed, S_wd⟩ := hSt_
  show Go p e below _ (s₁.setTop (mkF m 0 #[] []))
  obtain ⟨T_1, X_1, e_1, st_1⟩ := getS2 X0 hx hZ hown (host := "") (Or.inl (wd_83 hw)) Via.refl e0 (S_va.ext hO.2) (g := (mkF m 0 #[] [])) rfl (hb hby d_prog_8_method_1_code_0)
  refine Go.step st_1 ?_
  show Go p e below _ (T_1.setTop (mkF m 3 #[] [(.ref va)]))
  obtain ⟨T_2, h_2, X_2, e_2, E_2, A_2, B_2, st_2⟩ := cloneH X_1 hx hZ hown (wd_85 hw) (wd_86 hw) (wd_90 hw) (wd_88 hw) (wd_89 hw) (wd_91 hw) e_1 (Arv.arh (A_va.ext hO.2)) (E_va.ext hO.2) (g := (mkF m 3 #[] [(.ref va)])) rfl (by rw [hml]; rfl) rfl (hb hby d_prog_8_method_1_code_3) (by decide) (W := 0) (cap := 4) (by show 2 * 0 + _ ≤ _; exact Nat.le_of_eq rfl) (by decide) (by decide) (by decide) (by decide)
  obtain ⟨b2, q_2⟩ : ∃ z, z = h0.size := ⟨_, rfl⟩
  rw [← q_2] at A_2 B_2 st_2
  refine Go.step st_2 ?_
  have le_2 : h0.size ≤ h_2.size := E_2.1
  have KP_2 := KP0.ext E_2
  have O_2 := hO.ext E_2
  have ge_2 : h0.size ≤ b2 := Nat.le_of_eq q_2.symm
  have sz_b2 : h0.size ≤ b2 := Nat.le_trans (Nat.le_refl _) ge_2
  have g_b2 : n0 ≤ b2 := Nat.le_trans Z0 sz_b2
  have V_2 : Arv Z h_2 b2 kv (.object "com/example/patient_ledger/patientledger/HoldStatus") (4 : Int32) [(.ref ea), (.ref eb), (.ref ec), (.ref ed)] .null := A_2
  show Go p e below _ (T_2.setTop (mkF m 6 #[] [(.ref b2)]))
  obtain ⟨T_3, X_3, e_3, st_3⟩ := castY X_2 hx hZ hown (wd_97 hw) e_2 (Ins.self B_2) (g := (mkF m 6 #[] [(.ref b2)])) rfl rfl (hb hby d_prog_8_method_1_code_6)
  refine Go.step st_3 ?_
  show Go p e below _ (T_3.setTop (mkF m 9 #[] [(.ref b2)]))
  exact Go.retV X_3 hx hlk hret rfl (Or.inr (Or.inr (Or.inr (Or.inr ⟨rfl, rfl, rfl⟩)))) (hb hby d_prog_8_method_1_code_9) (by decide) (by decide) (by rw [e_3]; exact ⟨b2, rfl, N0, KP_2, sz_b2, V_2⟩)
--@E
--@C fw
def Q_fw (Z : State) (zc : Int32) (vfm : Value) (va : Addr) (kv : ClassId) (ea : Addr) (eb : Addr) (ec : Addr) (ed : Addr) (wa : Addr) (wb : Addr) (wc : Addr) (wd : Addr) (a1 : Addr) (cs : List Int32) (h0 : Heap) (n0 : Nat) (v : Option Value) (h : Heap) (L : List Loc) : Prop := v = some (fwv ea eb ec ed cs) ∧ Fr n0 L ∧ Keep h0 h []
set_option maxRecDepth 65536 in
set_option maxHeartbeats 40000000 in
theorem rm_fw (l : Launch) (Z : State) (a0 : Array Value) (hw : ∀ d ∈ tables_1, d.before a0 Z = true) (zc : Int32) (vfm : Value) (va : Addr) (kv : ClassId) (ea : Addr) (eb : Addr) (ec : Addr) (ed : Addr) (wa : Addr) (wb : Addr) (wc : Addr) (wd : Addr) (a1 : Addr) (cs : List Int32) (h0 : Heap) (n0 : Nat) (Z0 : n0 ≤ h0.size) (S_a1 : Str Z h0.size h0 a1 cs) (hSt : St Z zc vfm va kv ea eb ec ed wa wb wc wd) (hO : Old Z n0 h0) :
    CN l Z ({ cls := "com/example/patient_ledger/patientledger/HoldStatus", name := "fromWireName", desc := "(Ljava/lang/String;)Lcom/example/patient_ledger/patientledger/HoldStatus;" } : Jvm.MethodName) [(Jvm.Cond.code ({ cls := "com/example/patient_ledger/patientledger/HoldStatus", name := "fromWireName", desc := "(Ljava/lang/String;)Lcom/example/patient_ledger/patientledger/HoldStatus;" } : Jvm.MethodName) prog_8_method_5_code (6 : Nat) (Option.some (Jvm.ClassFile.FieldType.object "com/example/patient_ledger/patientledger/HoldStatus")))] ({ frames := 2, cells := 1, slots := 4, locals := 28 } : Room) #[(.ref a1)] h0 (Q_fw Z zc vfm va kv ea eb ec ed wa wb wc wd a1 cs h0 n0) := by
  refine CN.of (L0 := #[vR a1, vU, vU, vU, vU, vU]) (plainFor_of_name pn_0) (fun m => by first | (simp [entryFrame, mkF, argsToLocals, Value.category]; done) | rfl) ?_
  intro p e s m below meth c s₁ hx hby hml hret hlk hZ hown hnm X0 e0
  have N0 := Fr.nil n0
  have KP0 := Keep.refl h0 []
  have hSt_ := hSt
  obtain ⟨S_cs, n_cs, S_fm, r_fm, S_va, E_va, A_va, S_ea, F_ea, S_wa, S_eb, F_eb, S_wb, S_ec, F_ec, S_wc, S_ed, F_ed, S_wd⟩ := hSt_
  show Go p e below _ (s₁.setTop (mkF m 0 #[vR a1, vU, vU, vU, vU, vU] []))
  refine Go.step (fun _ k => XS.aconstNull X0.here hx rfl (hb hby d_prog_8_method_5_code_0) k) ?_
  show Go p e below _ (s₁.setTop (mkF m 1 #[vR a1, vU, vU, vU, vU, vU] [.null]))
  refine Go.step (fun _ k => XS.astoreN X0.here hx rfl (hb hby d_prog_8_method_5_code_1) rfl rfl (l' := #[vR a1, .val .null, vU, vU, vU, vU]) rfl k) ?_
  show Go p e below _ (s₁.setTop (mkF m 2 #[vR a1, .val .null, vU, vU, vU, vU] []))
  obtain ⟨v_4, T_4, L_4, X_4, hQ_4, st_4⟩ := goS X0 hx hZ (y := Y_0) hown (wd_80 hw) (wd_81 hw) (wd_78 hw) (wd_82 hw) (by decide) (backOf (W := 0) (rm_values l Z a0 hw zc vfm va kv ea eb ec ed wa wb wc wd h0 n0 (Nat.le_trans Z0 KP0.1) hSt hO) hZ (wd_82 hw) (wd_78 hw) (by decide) (by decide)) e0 (g := (mkF m 2 #[vR a1, .val .null, vU, vU, vU, vU] [])) rfl (by rw [hml]; rfl) (argsL := []) (rest := []) rfl (lenOf pd_0 rfl) rfl (by show 2 * 0 + _ ≤ _; exact Nat.le_of_eq rfl) (hb hby d_prog_8_method_5_code_2) (by decide) (by decide)
  obtain ⟨r_4, rfl, Nq_4, K_4, u0_4, u1_4⟩ := hQ_4
  have N_4 := Fr.app N0 Nq_4
  have le_4 : h0.size ≤ T_4.heap.size := K_4.1
  have KP_4 := KP0.trans K_4 all0
  have O_4 := hO.keep K_4 all0
  have sz_r_4 : h0.size ≤ r_4 := Nat.le_trans (Nat.le_refl _) u0_4
  have g_r_4 : n0 ≤ r_4 := Nat.le_trans Z0 sz_r_4
  refine Go.step st_4 ?_
  show Go p e below _ (T_4.setTop (mkF m 5 #[vR a1, .val .null, vU, vU, vU, vU] [(.ref r_4)]))
  refine Go.step (fun _ k => XS.astoreN X_4.here hx rfl (hb hby d_prog_8_method_5_code_5) rfl rfl (l' := #[vR a1, .val .null, vR r_4, vU, vU, vU]) rfl k) ?_
  show Go p e below _ (T_4.setTop (mkF m 6 #[vR a1, .val .null, vR r_4, vU, vU, vU] []))
  refine Go.step (fun _ k => XS.aloadN X_4.here hx rfl (hb hby d_prog_8_method_5_code_6) rfl rfl k) ?_
  show Go p e below _ (T_4.setTop (mkF m 7 #[vR a1, .val .null, vR r_4, vU, vU, vU] [(.ref r_4)]))
  have cp6 := u1_4
  obtain ⟨cl_5, Ar_5, -, Sz_5, Ng_5, -, -⟩ := cp6
  refine Go.step (fun _ k => X_4.arraylength hx (by exact Ar_5.1) (State.isArrayOf_alike hZ.alike Ar_5.2.1) (g := (mkF m 7 #[vR a1, .val .null, vR r_4, vU, vU, vU] [(.ref r_4)])) rfl rfl (hb hby d_prog_8_method_5_code_7) _ k) ?_
  rw [len_of Sz_5 Ng_5]
  show Go p e below _ (T_4.setTop (mkF m 8 #[vR a1, .val .null, vR r_4, vU, vU, vU] [(.int (4 : Int32))]))
  refine Go.step (fun _ k => XS.istoreN X_4.here hx rfl (hb hby d_prog_8_method_5_code_8) rfl (l' := #[vR a1, .val .null, vR r_4, vI 4, vU, vU]) rfl k) ?_
  show Go p e below _ (T_4.setTop (mkF m 9 #[vR a1, .val .null, vR r_4, vI 4, vU, vU] []))
  refine Go.step (fun _ k => XS.iconst X_4.here hx rfl (hb hby d_prog_8_method_5_code_9) k) ?_
  show Go p e below _ (T_4.setTop (mkF m 10 #[vR a1, .val .null, vR r_4, vI 4, vU, vU] [(.int (0 : Int32))]))
  refine Go.step (fun _ k => XS.istore X_4.here hx rfl (hb hby d_prog_8_method_5_code_10) rfl (l' := #[vR a1, .val .null, vR r_4, vI 4, vI 0, vU]) rfl k) ?_
  show Go p e below _ (T_4.setTop (mkF m 12 #[vR a1, .val .null, vR r_4, vI 4, vI 0, vU] []))
  refine Go.step (fun _ k => XS.iload X_4.here hx rfl (hb hby d_prog_8_method_5_code_12) rfl  k) ?_
  refine Go.step (fun _ k => XS.iloadN X_4.here hx rfl (hb hby d_prog_8_method_5_code_14) rfl  k) ?_
  show Go p e below _ (T_4.setTop (mkF m 15 #[vR a1, .val .null, vR r_4, vI 4, vI 0, vU] [(.int (4 : Int32)), (.int (0 : Int32))]))
  refine Go.step (fun _ k => XS.icmpNo X_4.here hx rfl (hb hby d_prog_8_method_5_code_15) rfl (tlt ((by decide) : (0 : Int32) < (4 : Int32))).2.1 k) ?_
  show Go p e below _ (T_4.setTop (mkF m 18 #[vR a1, .val .null, vR r_4, vI 4, vI 0, vU] []))
  refine Go.step (fun _ k => XS.aloadN X_4.here hx rfl (hb hby d_prog_8_method_5_code_18) rfl rfl k) ?_
  refine Go.step (fun _ k => XS.iload X_4.here hx rfl (hb hby d_prog_8_method_5_code_19) rfl  k) ?_
  show Go p e below _ (T_4.setTop (mkF m 21 #[vR a1, .val .null, vR r_4, vI 4, vI 0, vU] [(.int (0 : Int32)), (.ref r_4)]))
  have cp8 := u1_4
  obtain ⟨cl_7, Ar_7, -, Sz_7, -, Hs_7, -⟩ := cp8
  have hin_7 : ¬ ((0 : Int32) < 0 ∨ cl_7.slots.size ≤ ((0 : Int32)).toNatClampNeg) := (inb_of Sz_7 ⟨by decide, by decide⟩)
  have hat_7 : cl_7.slots[((0 : Int32)).toNatClampNeg]? = some (.ref ea) := (Hs_7.at (inb_of Sz_7 ⟨by decide, by decide⟩) rfl)
  refine Go.step (fun _ k => X_4.aaload hx (j := (0 : Int32)) (v := (.ref ea)) (by exact Ar_7.1) (State.isArrayOf_alike hZ.alike Ar_7.2.1) rfl Ar_7.2.2 hin_7 hat_7 (g := (mkF m 21 #[vR a1, .val .null, vR r_4, vI 4, vI 0, vU] [(.int (0 : Int32)), (.ref r_4)])) rfl rfl (hb hby d_prog_8_method_5_code_21) _ k) ?_
  show Go p e below _ (T_4.setTop (mkF m 22 #[vR a1, .val .null, vR r_4, vI 4, vI 0, vU] [(.ref ea)]))
  refine Go.step (fun _ k => XS.astore X_4.here hx rfl (hb hby d_prog_8_method_5_code_22) rfl rfl (l' := #[vR a1, .val .null, vR r_4, vI 4, vI 0, vR ea]) rfl k) ?_
  show Go p e below _ (T_4.setTop (mkF m 24 #[vR a1, .val .null, vR r_4, vI 4, vI 0, vR ea] []))
  refine Go.step (fun _ k => XS.aload X_4.here hx rfl (hb hby d_prog_8_method_5_code_24) rfl rfl k) ?_
  show Go p e below _ (T_4.setTop (mkF m 26 #[vR a1, .val .null, vR r_4, vI 4, vI 0, vR ea] [(.ref ea)]))
  obtain ⟨T_9, X_9, e_9, st_9⟩ := getF X_4 hx hZ hown (host := "") (Or.inl (wd_99 hw)) Via.refl rfl (F_ea.ext O_4.2) (g := (mkF m 26 #[vR a1, .val .null, vR r_4, vI 4, vI 0, vR ea] [(.ref ea)])) rfl rfl (hb hby d_prog_8_method_5_code_26)
  refine Go.step st_9 ?_
  show Go p e below _ (T_9.setTop (mkF m 29 #[vR a1, .val .null, vR r_4, vI 4, vI 0, vR ea] [(.ref wa)]))
  refine Go.step (fun _ k => XS.aloadN X_9.here hx rfl (hb hby d_prog_8_method_5_code_29) rfl rfl k) ?_
  show Go p e below _ (T_9.setTop (mkF m 30 #[vR a1, .val .null, vR r_4, vI 4, vI 0, vR ea] [(.ref a1), (.ref wa)]))
  have cp10 := (S_wa.ext O_4.2)
  obtain ⟨t11, kb11, -, -, Ex11, Fv11, Fc11, Av11, hl11, hn11⟩ := cp10
  have f12 : Str Z h0.size T_4.heap a1 cs := (S_a1.keep K_4 all0)
  have cp13 := f12
  obtain ⟨t14, kb14, -, -, Ex14, Fv14, Fc14, Av14, hl14, hn14⟩ := cp13
  obtain ⟨v_15, T_15, L_15, X_15, hQ_15, st_15⟩ := goV X_9 hx hZ (y := Y_1) (z := Y_1) (kc := 0) (ks := 0) (QQ := fun v h' L => ((v = some (.int 1) ∧ ([(112 : Int32), (101 : Int32), (110 : Int32), (100 : Int32), (105 : Int32), (110 : Int32), (103 : Int32)] : List Int32) = cs) ∨ (v = some (.int 0) ∧ ¬ ([(112 : Int32), (101 : Int32), (110 : Int32), (100 : Int32), (105 : Int32), (110 : Int32), (103 : Int32)] : List Int32) = cs)) ∧ L = [] ∧ h' = T_4.heap) hown (wd_101 hw) (wd_102 hw) (notFace_of_selects (args := #[]) (mvT hZ (wd_104 hw))) (wd_104 hw) (wd_103 hw) (by decide) (StrChars.Road.eqW (W := 0) hZ (sw_wordsEq hw) (kI := 4) (wd_2 hw) Ex11 Fv11 Fc11 Av11 (StrChars.Road.codOf rfl (fun c hc => (hl11 c hc).2)) (up255 hl11) hn11 Ex14 Fv14 Fc14 Av14 (StrChars.Road.codOf rfl (fun c hc => (hl14 c hc).2)) (up255 hl14) hn14 (S_cs.ext O_4.2) n_cs (by decide) (by decide)) e_9 Ex11 (g := (mkF m 30 #[vR a1, .val .null, vR r_4, vI 4, vI 0, vR ea] [(.ref a1), (.ref wa)])) rfl (by rw [hml]; rfl) (argsL := [(.ref a1)]) (rest := []) rfl (lenOf pd_1 rfl) rfl (by show 2 * 0 + _ ≤ _; exact Nat.le_of_eq rfl) (hb hby d_prog_8_method_5_code_30) (by decide) (by decide)
  obtain ⟨hv_15, rfl, e_15⟩ := hQ_15
  obtain rfl := eqv_if hv_15
  have N_15 := Fr.app N_4 (Fr.nil n0)
  refine Go.step st_15 ?_
  show Go p e below _ (T_15.setTop (mkF m 33 #[vR a1, .val .null, vR r_4, vI 4, vI 0, vR ea] [(.int (if ([(112 : Int32), (101 : Int32), (110 : Int32), (100 : Int32), (105 : Int32), (110 : Int32), (103 : Int32)] : List Int32) = cs then (1 : Int32) else 0))]))
  by_cases y0 : ([(112 : Int32), (101 : Int32), (110 : Int32), (100 : Int32), (105 : Int32), (110 : Int32), (103 : Int32)] : List Int32) = cs
  · skip
    refine Go.step (fun _ k => XS.ifNo X_15.here hx rfl (hb hby d_prog_8_method_5_code_33) rfl ((if0 _ _).trans (feq (b01_ne y0)).1) k) ?_
    show Go p e below _ (T_15.setTop (mkF m 36 #[vR a1, .val .null, vR r_4, vI 4, vI 0, vR ea] []))
    refine Go.step (fun _ k => XS.aload X_15.here hx rfl (hb hby d_prog_8_method_5_code_36) rfl rfl k) ?_
    show Go p e below _ (T_15.setTop (mkF m 38 #[vR a1, .val .null, vR r_4, vI 4, vI 0, vR ea] [(.ref ea)]))
    refine Go.step (fun _ k => XS.astoreN X_15.here hx rfl (hb hby d_prog_8_method_5_code_38) rfl rfl (l' := #[vR a1, vR ea, vR r_4, vI 4, vI 0, vR ea]) rfl k) ?_
    show Go p e below _ (T_15.setTop (mkF m 39 #[vR a1, vR ea, vR r_4, vI 4, vI 0, vR ea] []))
    refine Go.step (fun _ k => XS.iinc X_15.here hx rfl (hb hby d_prog_8_method_5_code_39) rfl (l' := #[vR a1, vR ea, vR r_4, vI 4, vI ((0 : Int32) + (1 : Int32)), vR ea]) rfl k) ?_
    show Go p e below _ (T_15.setTop (mkF m 42 #[vR a1, vR ea, vR r_4, vI 4, vI ((0 : Int32) + (1 : Int32)), vR ea] []))
    rw [show ((0 : Int32) + (1 : Int32)) = (1 : Int32) from by decide]
    show Go p e below _ (T_15.setTop (mkF m 42 #[vR a1, vR ea, vR r_4, vI 4, vI 1, vR ea] []))
    refine Go.step (fun _ k => XS.goto X_15.here hx rfl (pc0 := 42) (pc' := 12) rfl (hb hby d_prog_8_method_5_code_42) (by decide) (by decide) k) ?_
    show Go p e below _ (T_15.setTop (mkF m 12 #[vR a1, vR ea, vR r_4, vI 4, vI 1, vR ea] []))
    refine Go.step (fun _ k => XS.iload X_15.here hx rfl (hb hby d_prog_8_method_5_code_12) rfl  k) ?_
    refine Go.step (fun _ k => XS.iloadN X_15.here hx rfl (hb hby d_prog_8_method_5_code_14) rfl  k) ?_
    show Go p e below _ (T_15.setTop (mkF m 15 #[vR a1, vR ea, vR r_4, vI 4, vI 1, vR ea] [(.int (4 : Int32)), (.int (1 : Int32))]))
    refine Go.step (fun _ k => XS.icmpNo X_15.here hx rfl (hb hby d_prog_8_method_5_code_15) rfl (tlt ((by decide) : (1 : Int32) < (4 : Int32))).2.1 k) ?_
    show Go p e below _ (T_15.setTop (mkF m 18 #[vR a1, vR ea, vR r_4, vI 4, vI 1, vR ea] []))
    refine Go.step (fun _ k => XS.aloadN X_15.here hx rfl (hb hby d_prog_8_method_5_code_18) rfl rfl k) ?_
    refine Go.step (fun _ k => XS.iload X_15.here hx rfl (hb hby d_prog_8_method_5_code_19) rfl  k) ?_
    show Go p e below _ (T_15.setTop (mkF m 21 #[vR a1, vR ea, vR r_4, vI 4, vI 1, vR ea] [(.int (1 : Int32)), (.ref r_4)]))
    have cp17 := u1_4
    obtain ⟨cl_16, Ar_16, -, Sz_16, -, Hs_16, -⟩ := cp17
    have hin_16 : ¬ ((1 : Int32) < 0 ∨ cl_16.slots.size ≤ ((1 : Int32)).toNatClampNeg) := (inb_of Sz_16 ⟨by decide, by decide⟩)
    have hat_16 : cl_16.slots[((1 : Int32)).toNatClampNeg]? = some (.ref eb) := (Hs_16.at (inb_of Sz_16 ⟨by decide, by decide⟩) rfl)
    refine Go.step (fun _ k => X_15.aaload hx (j := (1 : Int32)) (v := (.ref eb)) (by rw [e_15]; exact Ar_16.1) (State.isArrayOf_alike hZ.alike Ar_16.2.1) rfl Ar_16.2.2 hin_16 hat_16 (g := (mkF m 21 #[vR a1, vR ea, vR r_4, vI 4, vI 1, vR ea] [(.int (1 : Int32)), (.ref r_4)])) rfl rfl (hb hby d_prog_8_method_5_code_21) _ k) ?_
    show Go p e below _ (T_15.setTop (mkF m 22 #[vR a1, vR ea, vR r_4, vI 4, vI 1, vR ea] [(.ref eb)]))
    refine Go.step (fun _ k => XS.astore X_15.here hx rfl (hb hby d_prog_8_method_5_code_22) rfl rfl (l' := #[vR a1, vR ea, vR r_4, vI 4, vI 1, vR eb]) rfl k) ?_
    show Go p e below _ (T_15.setTop (mkF m 24 #[vR a1, vR ea, vR r_4, vI 4, vI 1, vR eb] []))
    refine Go.step (fun _ k => XS.aload X_15.here hx rfl (hb hby d_prog_8_method_5_code_24) rfl rfl k) ?_
    show Go p e below _ (T_15.setTop (mkF m 26 #[vR a1, vR ea, vR r_4, vI 4, vI 1, vR eb] [(.ref eb)]))
    obtain ⟨T_18, X_18, e_18, st_18⟩ := getF X_15 hx hZ hown (host := "") (Or.inl (wd_99 hw)) Via.refl e_15 (F_eb.ext O_4.2) (g := (mkF m 26 #[vR a1, vR ea, vR r_4, vI 4, vI 1, vR eb] [(.ref eb)])) rfl rfl (hb hby d_prog_8_method_5_code_26)
    refine Go.step st_18 ?_
    show Go p e below _ (T_18.setTop (mkF m 29 #[vR a1, vR ea, vR r_4, vI 4, vI 1, vR eb] [(.ref wb)]))
    refine Go.step (fun _ k => XS.aloadN X_18.here hx rfl (hb hby d_prog_8_method_5_code_29) rfl rfl k) ?_
    show Go p e below _ (T_18.setTop (mkF m 30 #[vR a1, vR ea, vR r_4, vI 4, vI 1, vR eb] [(.ref a1), (.ref wb)]))
    have cp19 := (S_wb.ext O_4.2)
    obtain ⟨t20, kb20, -, -, Ex20, Fv20, Fc20, Av20, hl20, hn20⟩ := cp19
    have cp21 := f12
    obtain ⟨t22, kb22, -, -, Ex22, Fv22, Fc22, Av22, hl22, hn22⟩ := cp21
    obtain ⟨v_23, T_23, L_23, X_23, hQ_23, st_23⟩ := goV X_18 hx hZ (y := Y_1) (z := Y_1) (kc := 0) (ks := 0) (QQ := fun v h' L => ((v = some (.int 1) ∧ ([(99 : Int32), (97 : Int32), (112 : Int32), (116 : Int32), (117 : Int32), (114 : Int32), (101 : Int32), (100 : Int32)] : List Int32) = cs) ∨ (v = some (.int 0) ∧ ¬ ([(99 : Int32), (97 : Int32), (112 : Int32), (116 : Int32), (117 : Int32), (114 : Int32), (101 : Int32), (100 : Int32)] : List Int32) = cs)) ∧ L = [] ∧ h' = T_4.heap) hown (wd_101 hw) (wd_102 hw) (notFace_of_selects (args := #[]) (mvT hZ (wd_104 hw))) (wd_104 hw) (wd_103 hw) (by decide) (StrChars.Road.eqW (W := 0) hZ (sw_wordsEq hw) (kI := 4) (wd_2 hw) Ex20 Fv20 Fc20 Av20 (StrChars.Road.codOf rfl (fun c hc => (hl20 c hc).2)) (up255 hl20) hn20 Ex22 Fv22 Fc22 Av22 (StrChars.Road.codOf rfl (fun c hc => (hl22 c hc).2)) (up255 hl22) hn22 (S_cs.ext O_4.2) n_cs (by decide) (by decide)) e_18 Ex20 (g := (mkF m 30 #[vR a1, vR ea, vR r_4, vI 4, vI 1, vR eb] [(.ref a1), (.ref wb)])) rfl (by rw [hml]; rfl) (argsL := [(.ref a1)]) (rest := []) rfl (lenOf pd_1 rfl) rfl (by show 2 * 0 + _ ≤ _; exact Nat.le_of_eq rfl) (hb hby d_prog_8_method_5_code_30) (by decide) (by decide)
    obtain ⟨hv_23, rfl, e_23⟩ := hQ_23
    obtain rfl := eqv_if hv_23
    have N_23 := Fr.app N_15 (Fr.nil n0)
    refine Go.step st_23 ?_
    show Go p e below _ (T_23.setTop (mkF m 33 #[vR a1, vR ea, vR r_4, vI 4, vI 1, vR eb] [(.int (if ([(99 : Int32), (97 : Int32), (112 : Int32), (116 : Int32), (117 : Int32), (114 : Int32), (101 : Int32), (100 : Int32)] : List Int32) = cs then (1 : Int32) else 0))]))
    by_cases y1 : ([(99 : Int32), (97 : Int32), (112 : Int32), (116 : Int32), (117 : Int32), (114 : Int32), (101 : Int32), (100 : Int32)] : List Int32) = cs
    · skip
      refine Go.step (fun _ k => XS.ifNo X_23.here hx rfl (hb hby d_prog_8_method_5_code_33) rfl ((if0 _ _).trans (feq (b01_ne y1)).1) k) ?_
      show Go p e below _ (T_23.setTop (mkF m 36 #[vR a1, vR ea, vR r_4, vI 4, vI 1, vR eb] []))
      refine Go.step (fun _ k => XS.aload X_23.here hx rfl (hb hby d_prog_8_method_5_code_36) rfl rfl k) ?_
      show Go p e below _ (T_23.setTop (mkF m 38 #[vR a1, vR ea, vR r_4, vI 4, vI 1, vR eb] [(.ref eb)]))
      refine Go.step (fun _ k => XS.astoreN X_23.here hx rfl (hb hby d_prog_8_method_5_code_38) rfl rfl (l' := #[vR a1, vR eb, vR r_4, vI 4, vI 1, vR eb]) rfl k) ?_
      show Go p e below _ (T_23.setTop (mkF m 39 #[vR a1, vR eb, vR r_4, vI 4, vI 1, vR eb] []))
      refine Go.step (fun _ k => XS.iinc X_23.here hx rfl (hb hby d_prog_8_method_5_code_39) rfl (l' := #[vR a1, vR eb, vR r_4, vI 4, vI ((1 : Int32) + (1 : Int32)), vR eb]) rfl k) ?_
      show Go p e below _ (T_23.setTop (mkF m 42 #[vR a1, vR eb, vR r_4, vI 4, vI ((1 : Int32) + (1 : Int32)), vR eb] []))
      rw [show ((1 : Int32) + (1 : Int32)) = (2 : Int32) from by decide]
      show Go p e below _ (T_23.setTop (mkF m 42 #[vR a1, vR eb, vR r_4, vI 4, vI 2, vR eb] []))
      refine Go.step (fun _ k => XS.goto X_23.here hx rfl (pc0 := 42) (pc' := 12) rfl (hb hby d_prog_8_method_5_code_42) (by decide) (by decide) k) ?_
      show Go p e below _ (T_23.setTop (mkF m 12 #[vR a1, vR eb, vR r_4, vI 4, vI 2, vR eb] []))
      refine Go.step (fun _ k => XS.iload X_23.here hx rfl (hb hby d_prog_8_method_5_code_12) rfl  k) ?_
      refine Go.step (fun _ k => XS.iloadN X_23.here hx rfl (hb hby d_prog_8_method_5_code_14) rfl  k) ?_
      show Go p e below _ (T_23.setTop (mkF m 15 #[vR a1, vR eb, vR r_4, vI 4, vI 2, vR eb] [(.int (4 : Int32)), (.int (2 : Int32))]))
      refine Go.step (fun _ k => XS.icmpNo X_23.here hx rfl (hb hby d_prog_8_method_5_code_15) rfl (tlt ((by decide) : (2 : Int32) < (4 : Int32))).2.1 k) ?_
      show Go p e below _ (T_23.setTop (mkF m 18 #[vR a1, vR eb, vR r_4, vI 4, vI 2, vR eb] []))
      refine Go.step (fun _ k => XS.aloadN X_23.here hx rfl (hb hby d_prog_8_method_5_code_18) rfl rfl k) ?_
      refine Go.step (fun _ k => XS.iload X_23.here hx rfl (hb hby d_prog_8_method_5_code_19) rfl  k) ?_
      show Go p e below _ (T_23.setTop (mkF m 21 #[vR a1, vR eb, vR r_4, vI 4, vI 2, vR eb] [(.int (2 : Int32)), (.ref r_4)]))
      have cp25 := u1_4
      obtain ⟨cl_24, Ar_24, -, Sz_24, -, Hs_24, -⟩ := cp25
      have hin_24 : ¬ ((2 : Int32) < 0 ∨ cl_24.slots.size ≤ ((2 : Int32)).toNatClampNeg) := (inb_of Sz_24 ⟨by decide, by decide⟩)
      have hat_24 : cl_24.slots[((2 : Int32)).toNatClampNeg]? = some (.ref ec) := (Hs_24.at (inb_of Sz_24 ⟨by decide, by decide⟩) rfl)
      refine Go.step (fun _ k => X_23.aaload hx (j := (2 : Int32)) (v := (.ref ec)) (by rw [e_23]; exact Ar_24.1) (State.isArrayOf_alike hZ.alike Ar_24.2.1) rfl Ar_24.2.2 hin_24 hat_24 (g := (mkF m 21 #[vR a1, vR eb, vR r_4, vI 4, vI 2, vR eb] [(.int (2 : Int32)), (.ref r_4)])) rfl rfl (hb hby d_prog_8_method_5_code_21) _ k) ?_
      show Go p e below _ (T_23.setTop (mkF m 22 #[vR a1, vR eb, vR r_4, vI 4, vI 2, vR eb] [(.ref ec)]))
      refine Go.step (fun _ k => XS.astore X_23.here hx rfl (hb hby d_prog_8_method_5_code_22) rfl rfl (l' := #[vR a1, vR eb, vR r_4, vI 4, vI 2, vR ec]) rfl k) ?_
      show Go p e below _ (T_23.setTop (mkF m 24 #[vR a1, vR eb, vR r_4, vI 4, vI 2, vR ec] []))
      refine Go.step (fun _ k => XS.aload X_23.here hx rfl (hb hby d_prog_8_method_5_code_24) rfl rfl k) ?_
      show Go p e below _ (T_23.setTop (mkF m 26 #[vR a1, vR eb, vR r_4, vI 4, vI 2, vR ec] [(.ref ec)]))
      obtain ⟨T_26, X_26, e_26, st_26⟩ := getF X_23 hx hZ hown (host := "") (Or.inl (wd_99 hw)) Via.refl e_23 (F_ec.ext O_4.2) (g := (mkF m 26 #[vR a1, vR eb, vR r_4, vI 4, vI 2, vR ec] [(.ref ec)])) rfl rfl (hb hby d_prog_8_method_5_code_26)
      refine Go.step st_26 ?_
      show Go p e below _ (T_26.setTop (mkF m 29 #[vR a1, vR eb, vR r_4, vI 4, vI 2, vR ec] [(.ref wc)]))
      refine Go.step (fun _ k => XS.aloadN X_26.here hx rfl (hb hby d_prog_8_method_5_code_29) rfl rfl k) ?_
      show Go p e below _ (T_26.setTop (mkF m 30 #[vR a1, vR eb, vR r_4, vI 4, vI 2, vR ec] [(.ref a1), (.ref wc)]))
      have cp27 := (S_wc.ext O_4.2)
      obtain ⟨t28, kb28, -, -, Ex28, Fv28, Fc28, Av28, hl28, hn28⟩ := cp27
      have cp29 := f12
      obtain ⟨t30, kb30, -, -, Ex30, Fv30, Fc30, Av30, hl30, hn30⟩ := cp29
      obtain ⟨v_31, T_31, L_31, X_31, hQ_31, st_31⟩ := goV X_26 hx hZ (y := Y_1) (z := Y_1) (kc := 0) (ks := 0) (QQ := fun v h' L => ((v = some (.int 1) ∧ ([(118 : Int32), (111 : Int32), (105 : Int32), (100 : Int32), (101 : Int32), (100 : Int32)] : List Int32) = cs) ∨ (v = some (.int 0) ∧ ¬ ([(118 : Int32), (111 : Int32), (105 : Int32), (100 : Int32), (101 : Int32), (100 : Int32)] : List Int32) = cs)) ∧ L = [] ∧ h' = T_4.heap) hown (wd_101 hw) (wd_102 hw) (notFace_of_selects (args := #[]) (mvT hZ (wd_104 hw))) (wd_104 hw) (wd_103 hw) (by decide) (StrChars.Road.eqW (W := 0) hZ (sw_wordsEq hw) (kI := 4) (wd_2 hw) Ex28 Fv28 Fc28 Av28 (StrChars.Road.codOf rfl (fun c hc => (hl28 c hc).2)) (up255 hl28) hn28 Ex30 Fv30 Fc30 Av30 (StrChars.Road.codOf rfl (fun c hc => (hl30 c hc).2)) (up255 hl30) hn30 (S_cs.ext O_4.2) n_cs (by decide) (by decide)) e_26 Ex28 (g := (mkF m 30 #[vR a1, vR eb, vR r_4, vI 4, vI 2, vR ec] [(.ref a1), (.ref wc)])) rfl (by rw [hml]; rfl) (argsL := [(.ref a1)]) (rest := []) rfl (lenOf pd_1 rfl) rfl (by show 2 * 0 + _ ≤ _; exact Nat.le_of_eq rfl) (hb hby d_prog_8_method_5_code_30) (by decide) (by decide)
      obtain ⟨hv_31, rfl, e_31⟩ := hQ_31
      obtain rfl := eqv_if hv_31
      have N_31 := Fr.app N_23 (Fr.nil n0)
      refine Go.step st_31 ?_
      show Go p e below _ (T_31.setTop (mkF m 33 #[vR a1, vR eb, vR r_4, vI 4, vI 2, vR ec] [(.int (if ([(118 : Int32), (111 : Int32), (105 : Int32), (100 : Int32), (101 : Int32), (100 : Int32)] : List Int32) = cs then (1 : Int32) else 0))]))
      by_cases y2 : ([(118 : Int32), (111 : Int32), (105 : Int32), (100 : Int32), (101 : Int32), (100 : Int32)] : List Int32) = cs
      · skip
        refine Go.step (fun _ k => XS.ifNo X_31.here hx rfl (hb hby d_prog_8_method_5_code_33) rfl ((if0 _ _).trans (feq (b01_ne y2)).1) k) ?_
        show Go p e below _ (T_31.setTop (mkF m 36 #[vR a1, vR eb, vR r_4, vI 4, vI 2, vR ec] []))
        refine Go.step (fun _ k => XS.aload X_31.here hx rfl (hb hby d_prog_8_method_5_code_36) rfl rfl k) ?_
        show Go p e below _ (T_31.setTop (mkF m 38 #[vR a1, vR eb, vR r_4, vI 4, vI 2, vR ec] [(.ref ec)]))
        refine Go.step (fun _ k => XS.astoreN X_31.here hx rfl (hb hby d_prog_8_method_5_code_38) rfl rfl (l' := #[vR a1, vR ec, vR r_4, vI 4, vI 2, vR ec]) rfl k) ?_
        show Go p e below _ (T_31.setTop (mkF m 39 #[vR a1, vR ec, vR r_4, vI 4, vI 2, vR ec] []))
        refine Go.step (fun _ k => XS.iinc X_31.here hx rfl (hb hby d_prog_8_method_5_code_39) rfl (l' := #[vR a1, vR ec, vR r_4, vI 4, vI ((2 : Int32) + (1 : Int32)), vR ec]) rfl k) ?_
        show Go p e below _ (T_31.setTop (mkF m 42 #[vR a1, vR ec, vR r_4, vI 4, vI ((2 : Int32) + (1 : Int32)), vR ec] []))
        rw [show ((2 : Int32) + (1 : Int32)) = (3 : Int32) from by decide]
        show Go p e below _ (T_31.setTop (mkF m 42 #[vR a1, vR ec, vR r_4, vI 4, vI 3, vR ec] []))
        refine Go.step (fun _ k => XS.goto X_31.here hx rfl (pc0 := 42) (pc' := 12) rfl (hb hby d_prog_8_method_5_code_42) (by decide) (by decide) k) ?_
        show Go p e below _ (T_31.setTop (mkF m 12 #[vR a1, vR ec, vR r_4, vI 4, vI 3, vR ec] []))
        refine Go.step (fun _ k => XS.iload X_31.here hx rfl (hb hby d_prog_8_method_5_code_12) rfl  k) ?_
        refine Go.step (fun _ k => XS.iloadN X_31.here hx rfl (hb hby d_prog_8_method_5_code_14) rfl  k) ?_
        show Go p e below _ (T_31.setTop (mkF m 15 #[vR a1, vR ec, vR r_4, vI 4, vI 3, vR ec] [(.int (4 : Int32)), (.int (3 : Int32))]))
        refine Go.step (fun _ k => XS.icmpNo X_31.here hx rfl (hb hby d_prog_8_method_5_code_15) rfl (tlt ((by decide) : (3 : Int32) < (4 : Int32))).2.1 k) ?_
        show Go p e below _ (T_31.setTop (mkF m 18 #[vR a1, vR ec, vR r_4, vI 4, vI 3, vR ec] []))
        refine Go.step (fun _ k => XS.aloadN X_31.here hx rfl (hb hby d_prog_8_method_5_code_18) rfl rfl k) ?_
        refine Go.step (fun _ k => XS.iload X_31.here hx rfl (hb hby d_prog_8_method_5_code_19) rfl  k) ?_
        show Go p e below _ (T_31.setTop (mkF m 21 #[vR a1, vR ec, vR r_4, vI 4, vI 3, vR ec] [(.int (3 : Int32)), (.ref r_4)]))
        have cp33 := u1_4
        obtain ⟨cl_32, Ar_32, -, Sz_32, -, Hs_32, -⟩ := cp33
        have hin_32 : ¬ ((3 : Int32) < 0 ∨ cl_32.slots.size ≤ ((3 : Int32)).toNatClampNeg) := (inb_of Sz_32 ⟨by decide, by decide⟩)
        have hat_32 : cl_32.slots[((3 : Int32)).toNatClampNeg]? = some (.ref ed) := (Hs_32.at (inb_of Sz_32 ⟨by decide, by decide⟩) rfl)
        refine Go.step (fun _ k => X_31.aaload hx (j := (3 : Int32)) (v := (.ref ed)) (by rw [e_31]; exact Ar_32.1) (State.isArrayOf_alike hZ.alike Ar_32.2.1) rfl Ar_32.2.2 hin_32 hat_32 (g := (mkF m 21 #[vR a1, vR ec, vR r_4, vI 4, vI 3, vR ec] [(.int (3 : Int32)), (.ref r_4)])) rfl rfl (hb hby d_prog_8_method_5_code_21) _ k) ?_
        show Go p e below _ (T_31.setTop (mkF m 22 #[vR a1, vR ec, vR r_4, vI 4, vI 3, vR ec] [(.ref ed)]))
        refine Go.step (fun _ k => XS.astore X_31.here hx rfl (hb hby d_prog_8_method_5_code_22) rfl rfl (l' := #[vR a1, vR ec, vR r_4, vI 4, vI 3, vR ed]) rfl k) ?_
        show Go p e below _ (T_31.setTop (mkF m 24 #[vR a1, vR ec, vR r_4, vI 4, vI 3, vR ed] []))
        refine Go.step (fun _ k => XS.aload X_31.here hx rfl (hb hby d_prog_8_method_5_code_24) rfl rfl k) ?_
        show Go p e below _ (T_31.setTop (mkF m 26 #[vR a1, vR ec, vR r_4, vI 4, vI 3, vR ed] [(.ref ed)]))
        obtain ⟨T_34, X_34, e_34, st_34⟩ := getF X_31 hx hZ hown (host := "") (Or.inl (wd_99 hw)) Via.refl e_31 (F_ed.ext O_4.2) (g := (mkF m 26 #[vR a1, vR ec, vR r_4, vI 4, vI 3, vR ed] [(.ref ed)])) rfl rfl (hb hby d_prog_8_method_5_code_26)
        refine Go.step st_34 ?_
        show Go p e below _ (T_34.setTop (mkF m 29 #[vR a1, vR ec, vR r_4, vI 4, vI 3, vR ed] [(.ref wd)]))
        refine Go.step (fun _ k => XS.aloadN X_34.here hx rfl (hb hby d_prog_8_method_5_code_29) rfl rfl k) ?_
        show Go p e below _ (T_34.setTop (mkF m 30 #[vR a1, vR ec, vR r_4, vI 4, vI 3, vR ed] [(.ref a1), (.ref wd)]))
        have cp35 := (S_wd.ext O_4.2)
        obtain ⟨t36, kb36, -, -, Ex36, Fv36, Fc36, Av36, hl36, hn36⟩ := cp35
        have cp37 := f12
        obtain ⟨t38, kb38, -, -, Ex38, Fv38, Fc38, Av38, hl38, hn38⟩ := cp37
        obtain ⟨v_39, T_39, L_39, X_39, hQ_39, st_39⟩ := goV X_34 hx hZ (y := Y_1) (z := Y_1) (kc := 0) (ks := 0) (QQ := fun v h' L => ((v = some (.int 1) ∧ ([(101 : Int32), (120 : Int32), (112 : Int32), (105 : Int32), (114 : Int32), (101 : Int32), (100 : Int32)] : List Int32) = cs) ∨ (v = some (.int 0) ∧ ¬ ([(101 : Int32), (120 : Int32), (112 : Int32), (105 : Int32), (114 : Int32), (101 : Int32), (100 : Int32)] : List Int32) = cs)) ∧ L = [] ∧ h' = T_4.heap) hown (wd_101 hw) (wd_102 hw) (notFace_of_selects (args := #[]) (mvT hZ (wd_104 hw))) (wd_104 hw) (wd_103 hw) (by decide) (StrChars.Road.eqW (W := 0) hZ (sw_wordsEq hw) (kI := 4) (wd_2 hw) Ex36 Fv36 Fc36 Av36 (StrChars.Road.codOf rfl (fun c hc => (hl36 c hc).2)) (up255 hl36) hn36 Ex38 Fv38 Fc38 Av38 (StrChars.Road.codOf rfl (fun c hc => (hl38 c hc).2)) (up255 hl38) hn38 (S_cs.ext O_4.2) n_cs (by decide) (by decide)) e_34 Ex36 (g := (mkF m 30 #[vR a1, vR ec, vR r_4, vI 4, vI 3, vR ed] [(.ref a1), (.ref wd)])) rfl (by rw [hml]; rfl) (argsL := [(.ref a1)]) (rest := []) rfl (lenOf pd_1 rfl) rfl (by show 2 * 0 + _ ≤ _; exact Nat.le_of_eq rfl) (hb hby d_prog_8_method_5_code_30) (by decide) (by decide)
        obtain ⟨hv_39, rfl, e_39⟩ := hQ_39
        obtain rfl := eqv_if hv_39
        have N_39 := Fr.app N_31 (Fr.nil n0)
        refine Go.step st_39 ?_
        show Go p e below _ (T_39.setTop (mkF m 33 #[vR a1, vR ec, vR r_4, vI 4, vI 3, vR ed] [(.int (if ([(101 : Int32), (120 : Int32), (112 : Int32), (105 : Int32), (114 : Int32), (101 : Int32), (100 : Int32)] : List Int32) = cs then (1 : Int32) else 0))]))
        by_cases y3 : ([(101 : Int32), (120 : Int32), (112 : Int32), (105 : Int32), (114 : Int32), (101 : Int32), (100 : Int32)] : List Int32) = cs
        · skip
          refine Go.step (fun _ k => XS.ifNo X_39.here hx rfl (hb hby d_prog_8_method_5_code_33) rfl ((if0 _ _).trans (feq (b01_ne y3)).1) k) ?_
          show Go p e below _ (T_39.setTop (mkF m 36 #[vR a1, vR ec, vR r_4, vI 4, vI 3, vR ed] []))
          refine Go.step (fun _ k => XS.aload X_39.here hx rfl (hb hby d_prog_8_method_5_code_36) rfl rfl k) ?_
          show Go p e below _ (T_39.setTop (mkF m 38 #[vR a1, vR ec, vR r_4, vI 4, vI 3, vR ed] [(.ref ed)]))
          refine Go.step (fun _ k => XS.astoreN X_39.here hx rfl (hb hby d_prog_8_method_5_code_38) rfl rfl (l' := #[vR a1, vR ed, vR r_4, vI 4, vI 3, vR ed]) rfl k) ?_
          show Go p e below _ (T_39.setTop (mkF m 39 #[vR a1, vR ed, vR r_4, vI 4, vI 3, vR ed] []))
          refine Go.step (fun _ k => XS.iinc X_39.here hx rfl (hb hby d_prog_8_method_5_code_39) rfl (l' := #[vR a1, vR ed, vR r_4, vI 4, vI ((3 : Int32) + (1 : Int32)), vR ed]) rfl k) ?_
          show Go p e below _ (T_39.setTop (mkF m 42 #[vR a1, vR ed, vR r_4, vI 4, vI ((3 : Int32) + (1 : Int32)), vR ed] []))
          rw [show ((3 : Int32) + (1 : Int32)) = (4 : Int32) from by decide]
          show Go p e below _ (T_39.setTop (mkF m 42 #[vR a1, vR ed, vR r_4, vI 4, vI 4, vR ed] []))
          refine Go.step (fun _ k => XS.goto X_39.here hx rfl (pc0 := 42) (pc' := 12) rfl (hb hby d_prog_8_method_5_code_42) (by decide) (by decide) k) ?_
          show Go p e below _ (T_39.setTop (mkF m 12 #[vR a1, vR ed, vR r_4, vI 4, vI 4, vR ed] []))
          refine Go.step (fun _ k => XS.iload X_39.here hx rfl (hb hby d_prog_8_method_5_code_12) rfl  k) ?_
          refine Go.step (fun _ k => XS.iloadN X_39.here hx rfl (hb hby d_prog_8_method_5_code_14) rfl  k) ?_
          show Go p e below _ (T_39.setTop (mkF m 15 #[vR a1, vR ed, vR r_4, vI 4, vI 4, vR ed] [(.int (4 : Int32)), (.int (4 : Int32))]))
          refine Go.step (fun _ k => XS.icmpYes X_39.here hx rfl (pc0 := 15) (pc' := 45) rfl (hb hby d_prog_8_method_5_code_15) rfl (flt ((by decide) : ¬ ((4 : Int32) < (4 : Int32)))).2.1 (by decide) (by decide) k) ?_
          show Go p e below _ (T_39.setTop (mkF m 45 #[vR a1, vR ed, vR r_4, vI 4, vI 4, vR ed] []))
          refine Go.step (fun _ k => XS.aloadN X_39.here hx rfl (hb hby d_prog_8_method_5_code_45) rfl rfl k) ?_
          show Go p e below _ (T_39.setTop (mkF m 46 #[vR a1, vR ed, vR r_4, vI 4, vI 4, vR ed] [(.ref ed)]))
          exact Go.retV X_39 hx hlk hret rfl (Or.inr (Or.inr (Or.inr (Or.inr ⟨rfl, rfl, rfl⟩)))) (hb hby d_prog_8_method_5_code_46) (by decide) (by decide) (by rw [e_39]; exact ⟨(absurd (y0.trans y1.symm) (by decide)), N_39, KP_4⟩)
        · skip
          refine Go.step (fun _ k => XS.ifYes X_39.here hx rfl (pc0 := 33) (pc' := 39) rfl (hb hby d_prog_8_method_5_code_33) rfl ((if0 _ _).trans (teq (b01_eq y3)).1) (by decide) (by decide) k) ?_
          show Go p e below _ (T_39.setTop (mkF m 39 #[vR a1, vR ec, vR r_4, vI 4, vI 3, vR ed] []))
          refine Go.step (fun _ k => XS.iinc X_39.here hx rfl (hb hby d_prog_8_method_5_code_39) rfl (l' := #[vR a1, vR ec, vR r_4, vI 4, vI ((3 : Int32) + (1 : Int32)), vR ed]) rfl k) ?_
          show Go p e below _ (T_39.setTop (mkF m 42 #[vR a1, vR ec, vR r_4, vI 4, vI ((3 : Int32) + (1 : Int32)), vR ed] []))
          rw [show ((3 : Int32) + (1 : Int32)) = (4 : Int32) from by decide]
          show Go p e below _ (T_39.setTop (mkF m 42 #[vR a1, vR ec, vR r_4, vI 4, vI 4, vR ed] []))
          refine Go.step (fun _ k => XS.goto X_39.here hx rfl (pc0 := 42) (pc' := 12) rfl (hb hby d_prog_8_method_5_code_42) (by decide) (by decide) k) ?_
          show Go p e below _ (T_39.setTop (mkF m 12 #[vR a1, vR ec, vR r_4, vI 4, vI 4, vR ed] []))
          refine Go.step (fun _ k => XS.iload X_39.here hx rfl (hb hby d_prog_8_method_5_code_12) rfl  k) ?_
          refine Go.step (fun _ k => XS.iloadN X_39.here hx rfl (hb hby d_prog_8_method_5_code_14) rfl  k) ?_
          show Go p e below _ (T_39.setTop (mkF m 15 #[vR a1, vR ec, vR r_4, vI 4, vI 4, vR ed] [(.int (4 : Int32)), (.int (4 : Int32))]))
          refine Go.step (fun _ k => XS.icmpYes X_39.here hx rfl (pc0 := 15) (pc' := 45) rfl (hb hby d_prog_8_method_5_code_15) rfl (flt ((by decide) : ¬ ((4 : Int32) < (4 : Int32)))).2.1 (by decide) (by decide) k) ?_
          show Go p e below _ (T_39.setTop (mkF m 45 #[vR a1, vR ec, vR r_4, vI 4, vI 4, vR ed] []))
          refine Go.step (fun _ k => XS.aloadN X_39.here hx rfl (hb hby d_prog_8_method_5_code_45) rfl rfl k) ?_
          show Go p e below _ (T_39.setTop (mkF m 46 #[vR a1, vR ec, vR r_4, vI 4, vI 4, vR ed] [(.ref ec)]))
          exact Go.retV X_39 hx hlk hret rfl (Or.inr (Or.inr (Or.inr (Or.inr ⟨rfl, rfl, rfl⟩)))) (hb hby d_prog_8_method_5_code_46) (by decide) (by decide) (by rw [e_39]; exact ⟨(absurd (y0.trans y1.symm) (by decide)), N_39, KP_4⟩)
      · skip
        refine Go.step (fun _ k => XS.ifYes X_31.here hx rfl (pc0 := 33) (pc' := 39) rfl (hb hby d_prog_8_method_5_code_33) rfl ((if0 _ _).trans (teq (b01_eq y2)).1) (by decide) (by decide) k) ?_
        show Go p e below _ (T_31.setTop (mkF m 39 #[vR a1, vR eb, vR r_4, vI 4, vI 2, vR ec] []))
        refine Go.step (fun _ k => XS.iinc X_31.here hx rfl (hb hby d_prog_8_method_5_code_39) rfl (l' := #[vR a1, vR eb, vR r_4, vI 4, vI ((2 : Int32) + (1 : Int32)), vR ec]) rfl k) ?_
        show Go p e below _ (T_31.setTop (mkF m 42 #[vR a1, vR eb, vR r_4, vI 4, vI ((2 : Int32) + (1 : Int32)), vR ec] []))
        rw [show ((2 : Int32) + (1 : Int32)) = (3 : Int32) from by decide]
        show Go p e below _ (T_31.setTop (mkF m 42 #[vR a1, vR eb, vR r_4, vI 4, vI 3, vR ec] []))
        refine Go.step (fun _ k => XS.goto X_31.here hx rfl (pc0 := 42) (pc' := 12) rfl (hb hby d_prog_8_method_5_code_42) (by decide) (by decide) k) ?_
        show Go p e below _ (T_31.setTop (mkF m 12 #[vR a1, vR eb, vR r_4, vI 4, vI 3, vR ec] []))
        refine Go.step (fun _ k => XS.iload X_31.here hx rfl (hb hby d_prog_8_method_5_code_12) rfl  k) ?_
        refine Go.step (fun _ k => XS.iloadN X_31.here hx rfl (hb hby d_prog_8_method_5_code_14) rfl  k) ?_
        show Go p e below _ (T_31.setTop (mkF m 15 #[vR a1, vR eb, vR r_4, vI 4, vI 3, vR ec] [(.int (4 : Int32)), (.int (3 : Int32))]))
        refine Go.step (fun _ k => XS.icmpNo X_31.here hx rfl (hb hby d_prog_8_method_5_code_15) rfl (tlt ((by decide) : (3 : Int32) < (4 : Int32))).2.1 k) ?_
        show Go p e below _ (T_31.setTop (mkF m 18 #[vR a1, vR eb, vR r_4, vI 4, vI 3, vR ec] []))
        refine Go.step (fun _ k => XS.aloadN X_31.here hx rfl (hb hby d_prog_8_method_5_code_18) rfl rfl k) ?_
        refine Go.step (fun _ k => XS.iload X_31.here hx rfl (hb hby d_prog_8_method_5_code_19) rfl  k) ?_
        show Go p e below _ (T_31.setTop (mkF m 21 #[vR a1, vR eb, vR r_4, vI 4, vI 3, vR ec] [(.int (3 : Int32)), (.ref r_4)]))
        have cp41 := u1_4
        obtain ⟨cl_40, Ar_40, -, Sz_40, -, Hs_40, -⟩ := cp41
        have hin_40 : ¬ ((3 : Int32) < 0 ∨ cl_40.slots.size ≤ ((3 : Int32)).toNatClampNeg) := (inb_of Sz_40 ⟨by decide, by decide⟩)
        have hat_40 : cl_40.slots[((3 : Int32)).toNatClampNeg]? = some (.ref ed) := (Hs_40.at (inb_of Sz_40 ⟨by decide, by decide⟩) rfl)
        refine Go.step (fun _ k => X_31.aaload hx (j := (3 : Int32)) (v := (.ref ed)) (by rw [e_31]; exact Ar_40.1) (State.isArrayOf_alike hZ.alike Ar_40.2.1) rfl Ar_40.2.2 hin_40 hat_40 (g := (mkF m 21 #[vR a1, vR eb, vR r_4, vI 4, vI 3, vR ec] [(.int (3 : Int32)), (.ref r_4)])) rfl rfl (hb hby d_prog_8_method_5_code_21) _ k) ?_
        show Go p e below _ (T_31.setTop (mkF m 22 #[vR a1, vR eb, vR r_4, vI 4, vI 3, vR ec] [(.ref ed)]))
        refine Go.step (fun _ k => XS.astore X_31.here hx rfl (hb hby d_prog_8_method_5_code_22) rfl rfl (l' := #[vR a1, vR eb, vR r_4, vI 4, vI 3, vR ed]) rfl k) ?_
        show Go p e below _ (T_31.setTop (mkF m 24 #[vR a1, vR eb, vR r_4, vI 4, vI 3, vR ed] []))
        refine Go.step (fun _ k => XS.aload X_31.here hx rfl (hb hby d_prog_8_method_5_code_24) rfl rfl k) ?_
        show Go p e below _ (T_31.setTop (mkF m 26 #[vR a1, vR eb, vR r_4, vI 4, vI 3, vR ed] [(.ref ed)]))
        obtain ⟨T_42, X_42, e_42, st_42⟩ := getF X_31 hx hZ hown (host := "") (Or.inl (wd_99 hw)) Via.refl e_31 (F_ed.ext O_4.2) (g := (mkF m 26 #[vR a1, vR eb, vR r_4, vI 4, vI 3, vR ed] [(.ref ed)])) rfl rfl (hb hby d_prog_8_method_5_code_26)
        refine Go.step st_42 ?_
        show Go p e below _ (T_42.setTop (mkF m 29 #[vR a1, vR eb, vR r_4, vI 4, vI 3, vR ed] [(.ref wd)]))
        refine Go.step (fun _ k => XS.aloadN X_42.here hx rfl (hb hby d_prog_8_method_5_code_29) rfl rfl k) ?_
        show Go p e below _ (T_42.setTop (mkF m 30 #[vR a1, vR eb, vR r_4, vI 4, vI 3, vR ed] [(.ref a1), (.ref wd)]))
        have cp43 := (S_wd.ext O_4.2)
        obtain ⟨t44, kb44, -, -, Ex44, Fv44, Fc44, Av44, hl44, hn44⟩ := cp43
        have cp45 := f12
        obtain ⟨t46, kb46, -, -, Ex46, Fv46, Fc46, Av46, hl46, hn46⟩ := cp45
        obtain ⟨v_47, T_47, L_47, X_47, hQ_47, st_47⟩ := goV X_42 hx hZ (y := Y_1) (z := Y_1) (kc := 0) (ks := 0) (QQ := fun v h' L => ((v = some (.int 1) ∧ ([(101 : Int32), (120 : Int32), (112 : Int32), (105 : Int32), (114 : Int32), (101 : Int32), (100 : Int32)] : List Int32) = cs) ∨ (v = some (.int 0) ∧ ¬ ([(101 : Int32), (120 : Int32), (112 : Int32), (105 : Int32), (114 : Int32), (101 : Int32), (100 : Int32)] : List Int32) = cs)) ∧ L = [] ∧ h' = T_4.heap) hown (wd_101 hw) (wd_102 hw) (notFace_of_selects (args := #[]) (mvT hZ (wd_104 hw))) (wd_104 hw) (wd_103 hw) (by decide) (StrChars.Road.eqW (W := 0) hZ (sw_wordsEq hw) (kI := 4) (wd_2 hw) Ex44 Fv44 Fc44 Av44 (StrChars.Road.codOf rfl (fun c hc => (hl44 c hc).2)) (up255 hl44) hn44 Ex46 Fv46 Fc46 Av46 (StrChars.Road.codOf rfl (fun c hc => (hl46 c hc).2)) (up255 hl46) hn46 (S_cs.ext O_4.2) n_cs (by decide) (by decide)) e_42 Ex44 (g := (mkF m 30 #[vR a1, vR eb, vR r_4, vI 4, vI 3, vR ed] [(.ref a1), (.ref wd)])) rfl (by rw [hml]; rfl) (argsL := [(.ref a1)]) (rest := []) rfl (lenOf pd_1 rfl) rfl (by show 2 * 0 + _ ≤ _; exact Nat.le_of_eq rfl) (hb hby d_prog_8_method_5_code_30) (by decide) (by decide)
        obtain ⟨hv_47, rfl, e_47⟩ := hQ_47
        obtain rfl := eqv_if hv_47
        have N_47 := Fr.app N_31 (Fr.nil n0)
        refine Go.step st_47 ?_
        show Go p e below _ (T_47.setTop (mkF m 33 #[vR a1, vR eb, vR r_4, vI 4, vI 3, vR ed] [(.int (if ([(101 : Int32), (120 : Int32), (112 : Int32), (105 : Int32), (114 : Int32), (101 : Int32), (100 : Int32)] : List Int32) = cs then (1 : Int32) else 0))]))
        by_cases y3 : ([(101 : Int32), (120 : Int32), (112 : Int32), (105 : Int32), (114 : Int32), (101 : Int32), (100 : Int32)] : List Int32) = cs
        · skip
          refine Go.step (fun _ k => XS.ifNo X_47.here hx rfl (hb hby d_prog_8_method_5_code_33) rfl ((if0 _ _).trans (feq (b01_ne y3)).1) k) ?_
          show Go p e below _ (T_47.setTop (mkF m 36 #[vR a1, vR eb, vR r_4, vI 4, vI 3, vR ed] []))
          refine Go.step (fun _ k => XS.aload X_47.here hx rfl (hb hby d_prog_8_method_5_code_36) rfl rfl k) ?_
          show Go p e below _ (T_47.setTop (mkF m 38 #[vR a1, vR eb, vR r_4, vI 4, vI 3, vR ed] [(.ref ed)]))
          refine Go.step (fun _ k => XS.astoreN X_47.here hx rfl (hb hby d_prog_8_method_5_code_38) rfl rfl (l' := #[vR a1, vR ed, vR r_4, vI 4, vI 3, vR ed]) rfl k) ?_
          show Go p e below _ (T_47.setTop (mkF m 39 #[vR a1, vR ed, vR r_4, vI 4, vI 3, vR ed] []))
          refine Go.step (fun _ k => XS.iinc X_47.here hx rfl (hb hby d_prog_8_method_5_code_39) rfl (l' := #[vR a1, vR ed, vR r_4, vI 4, vI ((3 : Int32) + (1 : Int32)), vR ed]) rfl k) ?_
          show Go p e below _ (T_47.setTop (mkF m 42 #[vR a1, vR ed, vR r_4, vI 4, vI ((3 : Int32) + (1 : Int32)), vR ed] []))
          rw [show ((3 : Int32) + (1 : Int32)) = (4 : Int32) from by decide]
          show Go p e below _ (T_47.setTop (mkF m 42 #[vR a1, vR ed, vR r_4, vI 4, vI 4, vR ed] []))
          refine Go.step (fun _ k => XS.goto X_47.here hx rfl (pc0 := 42) (pc' := 12) rfl (hb hby d_prog_8_method_5_code_42) (by decide) (by decide) k) ?_
          show Go p e below _ (T_47.setTop (mkF m 12 #[vR a1, vR ed, vR r_4, vI 4, vI 4, vR ed] []))
          refine Go.step (fun _ k => XS.iload X_47.here hx rfl (hb hby d_prog_8_method_5_code_12) rfl  k) ?_
          refine Go.step (fun _ k => XS.iloadN X_47.here hx rfl (hb hby d_prog_8_method_5_code_14) rfl  k) ?_
          show Go p e below _ (T_47.setTop (mkF m 15 #[vR a1, vR ed, vR r_4, vI 4, vI 4, vR ed] [(.int (4 : Int32)), (.int (4 : Int32))]))
          refine Go.step (fun _ k => XS.icmpYes X_47.here hx rfl (pc0 := 15) (pc' := 45) rfl (hb hby d_prog_8_method_5_code_15) rfl (flt ((by decide) : ¬ ((4 : Int32) < (4 : Int32)))).2.1 (by decide) (by decide) k) ?_
          show Go p e below _ (T_47.setTop (mkF m 45 #[vR a1, vR ed, vR r_4, vI 4, vI 4, vR ed] []))
          refine Go.step (fun _ k => XS.aloadN X_47.here hx rfl (hb hby d_prog_8_method_5_code_45) rfl rfl k) ?_
          show Go p e below _ (T_47.setTop (mkF m 46 #[vR a1, vR ed, vR r_4, vI 4, vI 4, vR ed] [(.ref ed)]))
          exact Go.retV X_47 hx hlk hret rfl (Or.inr (Or.inr (Or.inr (Or.inr ⟨rfl, rfl, rfl⟩)))) (hb hby d_prog_8_method_5_code_46) (by decide) (by decide) (by rw [e_47]; exact ⟨(absurd (y0.trans y1.symm) (by decide)), N_47, KP_4⟩)
        · skip
          refine Go.step (fun _ k => XS.ifYes X_47.here hx rfl (pc0 := 33) (pc' := 39) rfl (hb hby d_prog_8_method_5_code_33) rfl ((if0 _ _).trans (teq (b01_eq y3)).1) (by decide) (by decide) k) ?_
          show Go p e below _ (T_47.setTop (mkF m 39 #[vR a1, vR eb, vR r_4, vI 4, vI 3, vR ed] []))
          refine Go.step (fun _ k => XS.iinc X_47.here hx rfl (hb hby d_prog_8_method_5_code_39) rfl (l' := #[vR a1, vR eb, vR r_4, vI 4, vI ((3 : Int32) + (1 : Int32)), vR ed]) rfl k) ?_
          show Go p e below _ (T_47.setTop (mkF m 42 #[vR a1, vR eb, vR r_4, vI 4, vI ((3 : Int32) + (1 : Int32)), vR ed] []))
          rw [show ((3 : Int32) + (1 : Int32)) = (4 : Int32) from by decide]
          show Go p e below _ (T_47.setTop (mkF m 42 #[vR a1, vR eb, vR r_4, vI 4, vI 4, vR ed] []))
          refine Go.step (fun _ k => XS.goto X_47.here hx rfl (pc0 := 42) (pc' := 12) rfl (hb hby d_prog_8_method_5_code_42) (by decide) (by decide) k) ?_
          show Go p e below _ (T_47.setTop (mkF m 12 #[vR a1, vR eb, vR r_4, vI 4, vI 4, vR ed] []))
          refine Go.step (fun _ k => XS.iload X_47.here hx rfl (hb hby d_prog_8_method_5_code_12) rfl  k) ?_
          refine Go.step (fun _ k => XS.iloadN X_47.here hx rfl (hb hby d_prog_8_method_5_code_14) rfl  k) ?_
          show Go p e below _ (T_47.setTop (mkF m 15 #[vR a1, vR eb, vR r_4, vI 4, vI 4, vR ed] [(.int (4 : Int32)), (.int (4 : Int32))]))
          refine Go.step (fun _ k => XS.icmpYes X_47.here hx rfl (pc0 := 15) (pc' := 45) rfl (hb hby d_prog_8_method_5_code_15) rfl (flt ((by decide) : ¬ ((4 : Int32) < (4 : Int32)))).2.1 (by decide) (by decide) k) ?_
          show Go p e below _ (T_47.setTop (mkF m 45 #[vR a1, vR eb, vR r_4, vI 4, vI 4, vR ed] []))
          refine Go.step (fun _ k => XS.aloadN X_47.here hx rfl (hb hby d_prog_8_method_5_code_45) rfl rfl k) ?_
          show Go p e below _ (T_47.setTop (mkF m 46 #[vR a1, vR eb, vR r_4, vI 4, vI 4, vR ed] [(.ref eb)]))
          exact Go.retV X_47 hx hlk hret rfl (Or.inr (Or.inr (Or.inr (Or.inr ⟨rfl, rfl, rfl⟩)))) (hb hby d_prog_8_method_5_code_46) (by decide) (by decide) (by rw [e_47]; exact ⟨(absurd (y0.trans y1.symm) (by decide)), N_47, KP_4⟩)
    · skip
      refine Go.step (fun _ k => XS.ifYes X_23.here hx rfl (pc0 := 33) (pc' := 39) rfl (hb hby d_prog_8_method_5_code_33) rfl ((if0 _ _).trans (teq (b01_eq y1)).1) (by decide) (by decide) k) ?_
      show Go p e below _ (T_23.setTop (mkF m 39 #[vR a1, vR ea, vR r_4, vI 4, vI 1, vR eb] []))
      refine Go.step (fun _ k => XS.iinc X_23.here hx rfl (hb hby d_prog_8_method_5_code_39) rfl (l' := #[vR a1, vR ea, vR r_4, vI 4, vI ((1 : Int32) + (1 : Int32)), vR eb]) rfl k) ?_
      show Go p e below _ (T_23.setTop (mkF m 42 #[vR a1, vR ea, vR r_4, vI 4, vI ((1 : Int32) + (1 : Int32)), vR eb] []))
      rw [show ((1 : Int32) + (1 : Int32)) = (2 : Int32) from by decide]
      show Go p e below _ (T_23.setTop (mkF m 42 #[vR a1, vR ea, vR r_4, vI 4, vI 2, vR eb] []))
      refine Go.step (fun _ k => XS.goto X_23.here hx rfl (pc0 := 42) (pc' := 12) rfl (hb hby d_prog_8_method_5_code_42) (by decide) (by decide) k) ?_
      show Go p e below _ (T_23.setTop (mkF m 12 #[vR a1, vR ea, vR r_4, vI 4, vI 2, vR eb] []))
      refine Go.step (fun _ k => XS.iload X_23.here hx rfl (hb hby d_prog_8_method_5_code_12) rfl  k) ?_
      refine Go.step (fun _ k => XS.iloadN X_23.here hx rfl (hb hby d_prog_8_method_5_code_14) rfl  k) ?_
      show Go p e below _ (T_23.setTop (mkF m 15 #[vR a1, vR ea, vR r_4, vI 4, vI 2, vR eb] [(.int (4 : Int32)), (.int (2 : Int32))]))
      refine Go.step (fun _ k => XS.icmpNo X_23.here hx rfl (hb hby d_prog_8_method_5_code_15) rfl (tlt ((by decide) : (2 : Int32) < (4 : Int32))).2.1 k) ?_
      show Go p e below _ (T_23.setTop (mkF m 18 #[vR a1, vR ea, vR r_4, vI 4, vI 2, vR eb] []))
      refine Go.step (fun _ k => XS.aloadN X_23.here hx rfl (hb hby d_prog_8_method_5_code_18) rfl rfl k) ?_
      refine Go.step (fun _ k => XS.iload X_23.here hx rfl (hb hby d_prog_8_method_5_code_19) rfl  k) ?_
      show Go p e below _ (T_23.setTop (mkF m 21 #[vR a1, vR ea, vR r_4, vI 4, vI 2, vR eb] [(.int (2 : Int32)), (.ref r_4)]))
      have cp49 := u1_4
      obtain ⟨cl_48, Ar_48, -, Sz_48, -, Hs_48, -⟩ := cp49
      have hin_48 : ¬ ((2 : Int32) < 0 ∨ cl_48.slots.size ≤ ((2 : Int32)).toNatClampNeg) := (inb_of Sz_48 ⟨by decide, by decide⟩)
      have hat_48 : cl_48.slots[((2 : Int32)).toNatClampNeg]? = some (.ref ec) := (Hs_48.at (inb_of Sz_48 ⟨by decide, by decide⟩) rfl)
      refine Go.step (fun _ k => X_23.aaload hx (j := (2 : Int32)) (v := (.ref ec)) (by rw [e_23]; exact Ar_48.1) (State.isArrayOf_alike hZ.alike Ar_48.2.1) rfl Ar_48.2.2 hin_48 hat_48 (g := (mkF m 21 #[vR a1, vR ea, vR r_4, vI 4, vI 2, vR eb] [(.int (2 : Int32)), (.ref r_4)])) rfl rfl (hb hby d_prog_8_method_5_code_21) _ k) ?_
      show Go p e below _ (T_23.setTop (mkF m 22 #[vR a1, vR ea, vR r_4, vI 4, vI 2, vR eb] [(.ref ec)]))
      refine Go.step (fun _ k => XS.astore X_23.here hx rfl (hb hby d_prog_8_method_5_code_22) rfl rfl (l' := #[vR a1, vR ea, vR r_4, vI 4, vI 2, vR ec]) rfl k) ?_
      show Go p e below _ (T_23.setTop (mkF m 24 #[vR a1, vR ea, vR r_4, vI 4, vI 2, vR ec] []))
      refine Go.step (fun _ k => XS.aload X_23.here hx rfl (hb hby d_prog_8_method_5_code_24) rfl rfl k) ?_
      show Go p e below _ (T_23.setTop (mkF m 26 #[vR a1, vR ea, vR r_4, vI 4, vI 2, vR ec] [(.ref ec)]))
      obtain ⟨T_50, X_50, e_50, st_50⟩ := getF X_23 hx hZ hown (host := "") (Or.inl (wd_99 hw)) Via.refl e_23 (F_ec.ext O_4.2) (g := (mkF m 26 #[vR a1, vR ea, vR r_4, vI 4, vI 2, vR ec] [(.ref ec)])) rfl rfl (hb hby d_prog_8_method_5_code_26)
      refine Go.step st_50 ?_
      show Go p e below _ (T_50.setTop (mkF m 29 #[vR a1, vR ea, vR r_4, vI 4, vI 2, vR ec] [(.ref wc)]))
      refine Go.step (fun _ k => XS.aloadN X_50.here hx rfl (hb hby d_prog_8_method_5_code_29) rfl rfl k) ?_
      show Go p e below _ (T_50.setTop (mkF m 30 #[vR a1, vR ea, vR r_4, vI 4, vI 2, vR ec] [(.ref a1), (.ref wc)]))
      have cp51 := (S_wc.ext O_4.2)
      obtain ⟨t52, kb52, -, -, Ex52, Fv52, Fc52, Av52, hl52, hn52⟩ := cp51
      have cp53 := f12
      obtain ⟨t54, kb54, -, -, Ex54, Fv54, Fc54, Av54, hl54, hn54⟩ := cp53
      obtain ⟨v_55, T_55, L_55, X_55, hQ_55, st_55⟩ := goV X_50 hx hZ (y := Y_1) (z := Y_1) (kc := 0) (ks := 0) (QQ := fun v h' L => ((v = some (.int 1) ∧ ([(118 : Int32), (111 : Int32), (105 : Int32), (100 : Int32), (101 : Int32), (100 : Int32)] : List Int32) = cs) ∨ (v = some (.int 0) ∧ ¬ ([(118 : Int32), (111 : Int32), (105 : Int32), (100 : Int32), (101 : Int32), (100 : Int32)] : List Int32) = cs)) ∧ L = [] ∧ h' = T_4.heap) hown (wd_101 hw) (wd_102 hw) (notFace_of_selects (args := #[]) (mvT hZ (wd_104 hw))) (wd_104 hw) (wd_103 hw) (by decide) (StrChars.Road.eqW (W := 0) hZ (sw_wordsEq hw) (kI := 4) (wd_2 hw) Ex52 Fv52 Fc52 Av52 (StrChars.Road.codOf rfl (fun c hc => (hl52 c hc).2)) (up255 hl52) hn52 Ex54 Fv54 Fc54 Av54 (StrChars.Road.codOf rfl (fun c hc => (hl54 c hc).2)) (up255 hl54) hn54 (S_cs.ext O_4.2) n_cs (by decide) (by decide)) e_50 Ex52 (g := (mkF m 30 #[vR a1, vR ea, vR r_4, vI 4, vI 2, vR ec] [(.ref a1), (.ref wc)])) rfl (by rw [hml]; rfl) (argsL := [(.ref a1)]) (rest := []) rfl (lenOf pd_1 rfl) rfl (by show 2 * 0 + _ ≤ _; exact Nat.le_of_eq rfl) (hb hby d_prog_8_method_5_code_30) (by decide) (by decide)
      obtain ⟨hv_55, rfl, e_55⟩ := hQ_55
      obtain rfl := eqv_if hv_55
      have N_55 := Fr.app N_23 (Fr.nil n0)
      refine Go.step st_55 ?_
      show Go p e below _ (T_55.setTop (mkF m 33 #[vR a1, vR ea, vR r_4, vI 4, vI 2, vR ec] [(.int (if ([(118 : Int32), (111 : Int32), (105 : Int32), (100 : Int32), (101 : Int32), (100 : Int32)] : List Int32) = cs then (1 : Int32) else 0))]))
      by_cases y2 : ([(118 : Int32), (111 : Int32), (105 : Int32), (100 : Int32), (101 : Int32), (100 : Int32)] : List Int32) = cs
      · skip
        refine Go.step (fun _ k => XS.ifNo X_55.here hx rfl (hb hby d_prog_8_method_5_code_33) rfl ((if0 _ _).trans (feq (b01_ne y2)).1) k) ?_
        show Go p e below _ (T_55.setTop (mkF m 36 #[vR a1, vR ea, vR r_4, vI 4, vI 2, vR ec] []))
        refine Go.step (fun _ k => XS.aload X_55.here hx rfl (hb hby d_prog_8_method_5_code_36) rfl rfl k) ?_
        show Go p e below _ (T_55.setTop (mkF m 38 #[vR a1, vR ea, vR r_4, vI 4, vI 2, vR ec] [(.ref ec)]))
        refine Go.step (fun _ k => XS.astoreN X_55.here hx rfl (hb hby d_prog_8_method_5_code_38) rfl rfl (l' := #[vR a1, vR ec, vR r_4, vI 4, vI 2, vR ec]) rfl k) ?_
        show Go p e below _ (T_55.setTop (mkF m 39 #[vR a1, vR ec, vR r_4, vI 4, vI 2, vR ec] []))
        refine Go.step (fun _ k => XS.iinc X_55.here hx rfl (hb hby d_prog_8_method_5_code_39) rfl (l' := #[vR a1, vR ec, vR r_4, vI 4, vI ((2 : Int32) + (1 : Int32)), vR ec]) rfl k) ?_
        show Go p e below _ (T_55.setTop (mkF m 42 #[vR a1, vR ec, vR r_4, vI 4, vI ((2 : Int32) + (1 : Int32)), vR ec] []))
        rw [show ((2 : Int32) + (1 : Int32)) = (3 : Int32) from by decide]
        show Go p e below _ (T_55.setTop (mkF m 42 #[vR a1, vR ec, vR r_4, vI 4, vI 3, vR ec] []))
        refine Go.step (fun _ k => XS.goto X_55.here hx rfl (pc0 := 42) (pc' := 12) rfl (hb hby d_prog_8_method_5_code_42) (by decide) (by decide) k) ?_
        show Go p e below _ (T_55.setTop (mkF m 12 #[vR a1, vR ec, vR r_4, vI 4, vI 3, vR ec] []))
        refine Go.step (fun _ k => XS.iload X_55.here hx rfl (hb hby d_prog_8_method_5_code_12) rfl  k) ?_
        refine Go.step (fun _ k => XS.iloadN X_55.here hx rfl (hb hby d_prog_8_method_5_code_14) rfl  k) ?_
        show Go p e below _ (T_55.setTop (mkF m 15 #[vR a1, vR ec, vR r_4, vI 4, vI 3, vR ec] [(.int (4 : Int32)), (.int (3 : Int32))]))
        refine Go.step (fun _ k => XS.icmpNo X_55.here hx rfl (hb hby d_prog_8_method_5_code_15) rfl (tlt ((by decide) : (3 : Int32) < (4 : Int32))).2.1 k) ?_
        show Go p e below _ (T_55.setTop (mkF m 18 #[vR a1, vR ec, vR r_4, vI 4, vI 3, vR ec] []))
        refine Go.step (fun _ k => XS.aloadN X_55.here hx rfl (hb hby d_prog_8_method_5_code_18) rfl rfl k) ?_
        refine Go.step (fun _ k => XS.iload X_55.here hx rfl (hb hby d_prog_8_method_5_code_19) rfl  k) ?_
        show Go p e below _ (T_55.setTop (mkF m 21 #[vR a1, vR ec, vR r_4, vI 4, vI 3, vR ec] [(.int (3 : Int32)), (.ref r_4)]))
        have cp57 := u1_4
        obtain ⟨cl_56, Ar_56, -, Sz_56, -, Hs_56, -⟩ := cp57
        have hin_56 : ¬ ((3 : Int32) < 0 ∨ cl_56.slots.size ≤ ((3 : Int32)).toNatClampNeg) := (inb_of Sz_56 ⟨by decide, by decide⟩)
        have hat_56 : cl_56.slots[((3 : Int32)).toNatClampNeg]? = some (.ref ed) := (Hs_56.at (inb_of Sz_56 ⟨by decide, by decide⟩) rfl)
        refine Go.step (fun _ k => X_55.aaload hx (j := (3 : Int32)) (v := (.ref ed)) (by rw [e_55]; exact Ar_56.1) (State.isArrayOf_alike hZ.alike Ar_56.2.1) rfl Ar_56.2.2 hin_56 hat_56 (g := (mkF m 21 #[vR a1, vR ec, vR r_4, vI 4, vI 3, vR ec] [(.int (3 : Int32)), (.ref r_4)])) rfl rfl (hb hby d_prog_8_method_5_code_21) _ k) ?_
        show Go p e below _ (T_55.setTop (mkF m 22 #[vR a1, vR ec, vR r_4, vI 4, vI 3, vR ec] [(.ref ed)]))
        refine Go.step (fun _ k => XS.astore X_55.here hx rfl (hb hby d_prog_8_method_5_code_22) rfl rfl (l' := #[vR a1, vR ec, vR r_4, vI 4, vI 3, vR ed]) rfl k) ?_
        show Go p e below _ (T_55.setTop (mkF m 24 #[vR a1, vR ec, vR r_4, vI 4, vI 3, vR ed] []))
        refine Go.step (fun _ k => XS.aload X_55.here hx rfl (hb hby d_prog_8_method_5_code_24) rfl rfl k) ?_
        show Go p e below _ (T_55.setTop (mkF m 26 #[vR a1, vR ec, vR r_4, vI 4, vI 3, vR ed] [(.ref ed)]))
        obtain ⟨T_58, X_58, e_58, st_58⟩ := getF X_55 hx hZ hown (host := "") (Or.inl (wd_99 hw)) Via.refl e_55 (F_ed.ext O_4.2) (g := (mkF m 26 #[vR a1, vR ec, vR r_4, vI 4, vI 3, vR ed] [(.ref ed)])) rfl rfl (hb hby d_prog_8_method_5_code_26)
        refine Go.step st_58 ?_
        show Go p e below _ (T_58.setTop (mkF m 29 #[vR a1, vR ec, vR r_4, vI 4, vI 3, vR ed] [(.ref wd)]))
        refine Go.step (fun _ k => XS.aloadN X_58.here hx rfl (hb hby d_prog_8_method_5_code_29) rfl rfl k) ?_
        show Go p e below _ (T_58.setTop (mkF m 30 #[vR a1, vR ec, vR r_4, vI 4, vI 3, vR ed] [(.ref a1), (.ref wd)]))
        have cp59 := (S_wd.ext O_4.2)
        obtain ⟨t60, kb60, -, -, Ex60, Fv60, Fc60, Av60, hl60, hn60⟩ := cp59
        have cp61 := f12
        obtain ⟨t62, kb62, -, -, Ex62, Fv62, Fc62, Av62, hl62, hn62⟩ := cp61
        obtain ⟨v_63, T_63, L_63, X_63, hQ_63, st_63⟩ := goV X_58 hx hZ (y := Y_1) (z := Y_1) (kc := 0) (ks := 0) (QQ := fun v h' L => ((v = some (.int 1) ∧ ([(101 : Int32), (120 : Int32), (112 : Int32), (105 : Int32), (114 : Int32), (101 : Int32), (100 : Int32)] : List Int32) = cs) ∨ (v = some (.int 0) ∧ ¬ ([(101 : Int32), (120 : Int32), (112 : Int32), (105 : Int32), (114 : Int32), (101 : Int32), (100 : Int32)] : List Int32) = cs)) ∧ L = [] ∧ h' = T_4.heap) hown (wd_101 hw) (wd_102 hw) (notFace_of_selects (args := #[]) (mvT hZ (wd_104 hw))) (wd_104 hw) (wd_103 hw) (by decide) (StrChars.Road.eqW (W := 0) hZ (sw_wordsEq hw) (kI := 4) (wd_2 hw) Ex60 Fv60 Fc60 Av60 (StrChars.Road.codOf rfl (fun c hc => (hl60 c hc).2)) (up255 hl60) hn60 Ex62 Fv62 Fc62 Av62 (StrChars.Road.codOf rfl (fun c hc => (hl62 c hc).2)) (up255 hl62) hn62 (S_cs.ext O_4.2) n_cs (by decide) (by decide)) e_58 Ex60 (g := (mkF m 30 #[vR a1, vR ec, vR r_4, vI 4, vI 3, vR ed] [(.ref a1), (.ref wd)])) rfl (by rw [hml]; rfl) (argsL := [(.ref a1)]) (rest := []) rfl (lenOf pd_1 rfl) rfl (by show 2 * 0 + _ ≤ _; exact Nat.le_of_eq rfl) (hb hby d_prog_8_method_5_code_30) (by decide) (by decide)
        obtain ⟨hv_63, rfl, e_63⟩ := hQ_63
        obtain rfl := eqv_if hv_63
        have N_63 := Fr.app N_55 (Fr.nil n0)
        refine Go.step st_63 ?_
        show Go p e below _ (T_63.setTop (mkF m 33 #[vR a1, vR ec, vR r_4, vI 4, vI 3, vR ed] [(.int (if ([(101 : Int32), (120 : Int32), (112 : Int32), (105 : Int32), (114 : Int32), (101 : Int32), (100 : Int32)] : List Int32) = cs then (1 : Int32) else 0))]))
        by_cases y3 : ([(101 : Int32), (120 : Int32), (112 : Int32), (105 : Int32), (114 : Int32), (101 : Int32), (100 : Int32)] : List Int32) = cs
        · skip
          refine Go.step (fun _ k => XS.ifNo X_63.here hx rfl (hb hby d_prog_8_method_5_code_33) rfl ((if0 _ _).trans (feq (b01_ne y3)).1) k) ?_
          show Go p e below _ (T_63.setTop (mkF m 36 #[vR a1, vR ec, vR r_4, vI 4, vI 3, vR ed] []))
          refine Go.step (fun _ k => XS.aload X_63.here hx rfl (hb hby d_prog_8_method_5_code_36) rfl rfl k) ?_
          show Go p e below _ (T_63.setTop (mkF m 38 #[vR a1, vR ec, vR r_4, vI 4, vI 3, vR ed] [(.ref ed)]))
          refine Go.step (fun _ k => XS.astoreN X_63.here hx rfl (hb hby d_prog_8_method_5_code_38) rfl rfl (l' := #[vR a1, vR ed, vR r_4, vI 4, vI 3, vR ed]) rfl k) ?_
          show Go p e below _ (T_63.setTop (mkF m 39 #[vR a1, vR ed, vR r_4, vI 4, vI 3, vR ed] []))
          refine Go.step (fun _ k => XS.iinc X_63.here hx rfl (hb hby d_prog_8_method_5_code_39) rfl (l' := #[vR a1, vR ed, vR r_4, vI 4, vI ((3 : Int32) + (1 : Int32)), vR ed]) rfl k) ?_
          show Go p e below _ (T_63.setTop (mkF m 42 #[vR a1, vR ed, vR r_4, vI 4, vI ((3 : Int32) + (1 : Int32)), vR ed] []))
          rw [show ((3 : Int32) + (1 : Int32)) = (4 : Int32) from by decide]
          show Go p e below _ (T_63.setTop (mkF m 42 #[vR a1, vR ed, vR r_4, vI 4, vI 4, vR ed] []))
          refine Go.step (fun _ k => XS.goto X_63.here hx rfl (pc0 := 42) (pc' := 12) rfl (hb hby d_prog_8_method_5_code_42) (by decide) (by decide) k) ?_
          show Go p e below _ (T_63.setTop (mkF m 12 #[vR a1, vR ed, vR r_4, vI 4, vI 4, vR ed] []))
          refine Go.step (fun _ k => XS.iload X_63.here hx rfl (hb hby d_prog_8_method_5_code_12) rfl  k) ?_
          refine Go.step (fun _ k => XS.iloadN X_63.here hx rfl (hb hby d_prog_8_method_5_code_14) rfl  k) ?_
          show Go p e below _ (T_63.setTop (mkF m 15 #[vR a1, vR ed, vR r_4, vI 4, vI 4, vR ed] [(.int (4 : Int32)), (.int (4 : Int32))]))
          refine Go.step (fun _ k => XS.icmpYes X_63.here hx rfl (pc0 := 15) (pc' := 45) rfl (hb hby d_prog_8_method_5_code_15) rfl (flt ((by decide) : ¬ ((4 : Int32) < (4 : Int32)))).2.1 (by decide) (by decide) k) ?_
          show Go p e below _ (T_63.setTop (mkF m 45 #[vR a1, vR ed, vR r_4, vI 4, vI 4, vR ed] []))
          refine Go.step (fun _ k => XS.aloadN X_63.here hx rfl (hb hby d_prog_8_method_5_code_45) rfl rfl k) ?_
          show Go p e below _ (T_63.setTop (mkF m 46 #[vR a1, vR ed, vR r_4, vI 4, vI 4, vR ed] [(.ref ed)]))
          exact Go.retV X_63 hx hlk hret rfl (Or.inr (Or.inr (Or.inr (Or.inr ⟨rfl, rfl, rfl⟩)))) (hb hby d_prog_8_method_5_code_46) (by decide) (by decide) (by rw [e_63]; exact ⟨(absurd (y0.trans y2.symm) (by decide)), N_63, KP_4⟩)
        · skip
          refine Go.step (fun _ k => XS.ifYes X_63.here hx rfl (pc0 := 33) (pc' := 39) rfl (hb hby d_prog_8_method_5_code_33) rfl ((if0 _ _).trans (teq (b01_eq y3)).1) (by decide) (by decide) k) ?_
          show Go p e below _ (T_63.setTop (mkF m 39 #[vR a1, vR ec, vR r_4, vI 4, vI 3, vR ed] []))
          refine Go.step (fun _ k => XS.iinc X_63.here hx rfl (hb hby d_prog_8_method_5_code_39) rfl (l' := #[vR a1, vR ec, vR r_4, vI 4, vI ((3 : Int32) + (1 : Int32)), vR ed]) rfl k) ?_
          show Go p e below _ (T_63.setTop (mkF m 42 #[vR a1, vR ec, vR r_4, vI 4, vI ((3 : Int32) + (1 : Int32)), vR ed] []))
          rw [show ((3 : Int32) + (1 : Int32)) = (4 : Int32) from by decide]
          show Go p e below _ (T_63.setTop (mkF m 42 #[vR a1, vR ec, vR r_4, vI 4, vI 4, vR ed] []))
          refine Go.step (fun _ k => XS.goto X_63.here hx rfl (pc0 := 42) (pc' := 12) rfl (hb hby d_prog_8_method_5_code_42) (by decide) (by decide) k) ?_
          show Go p e below _ (T_63.setTop (mkF m 12 #[vR a1, vR ec, vR r_4, vI 4, vI 4, vR ed] []))
          refine Go.step (fun _ k => XS.iload X_63.here hx rfl (hb hby d_prog_8_method_5_code_12) rfl  k) ?_
          refine Go.step (fun _ k => XS.iloadN X_63.here hx rfl (hb hby d_prog_8_method_5_code_14) rfl  k) ?_
          show Go p e below _ (T_63.setTop (mkF m 15 #[vR a1, vR ec, vR r_4, vI 4, vI 4, vR ed] [(.int (4 : Int32)), (.int (4 : Int32))]))
          refine Go.step (fun _ k => XS.icmpYes X_63.here hx rfl (pc0 := 15) (pc' := 45) rfl (hb hby d_prog_8_method_5_code_15) rfl (flt ((by decide) : ¬ ((4 : Int32) < (4 : Int32)))).2.1 (by decide) (by decide) k) ?_
          show Go p e below _ (T_63.setTop (mkF m 45 #[vR a1, vR ec, vR r_4, vI 4, vI 4, vR ed] []))
          refine Go.step (fun _ k => XS.aloadN X_63.here hx rfl (hb hby d_prog_8_method_5_code_45) rfl rfl k) ?_
          show Go p e below _ (T_63.setTop (mkF m 46 #[vR a1, vR ec, vR r_4, vI 4, vI 4, vR ed] [(.ref ec)]))
          exact Go.retV X_63 hx hlk hret rfl (Or.inr (Or.inr (Or.inr (Or.inr ⟨rfl, rfl, rfl⟩)))) (hb hby d_prog_8_method_5_code_46) (by decide) (by decide) (by rw [e_63]; exact ⟨(absurd (y0.trans y2.symm) (by decide)), N_63, KP_4⟩)
      · skip
        refine Go.step (fun _ k => XS.ifYes X_55.here hx rfl (pc0 := 33) (pc' := 39) rfl (hb hby d_prog_8_method_5_code_33) rfl ((if0 _ _).trans (teq (b01_eq y2)).1) (by decide) (by decide) k) ?_
        show Go p e below _ (T_55.setTop (mkF m 39 #[vR a1, vR ea, vR r_4, vI 4, vI 2, vR ec] []))
        refine Go.step (fun _ k => XS.iinc X_55.here hx rfl (hb hby d_prog_8_method_5_code_39) rfl (l' := #[vR a1, vR ea, vR r_4, vI 4, vI ((2 : Int32) + (1 : Int32)), vR ec]) rfl k) ?_
        show Go p e below _ (T_55.setTop (mkF m 42 #[vR a1, vR ea, vR r_4, vI 4, vI ((2 : Int32) + (1 : Int32)), vR ec] []))
        rw [show ((2 : Int32) + (1 : Int32)) = (3 : Int32) from by decide]
        show Go p e below _ (T_55.setTop (mkF m 42 #[vR a1, vR ea, vR r_4, vI 4, vI 3, vR ec] []))
        refine Go.step (fun _ k => XS.goto X_55.here hx rfl (pc0 := 42) (pc' := 12) rfl (hb hby d_prog_8_method_5_code_42) (by decide) (by decide) k) ?_
        show Go p e below _ (T_55.setTop (mkF m 12 #[vR a1, vR ea, vR r_4, vI 4, vI 3, vR ec] []))
        refine Go.step (fun _ k => XS.iload X_55.here hx rfl (hb hby d_prog_8_method_5_code_12) rfl  k) ?_
        refine Go.step (fun _ k => XS.iloadN X_55.here hx rfl (hb hby d_prog_8_method_5_code_14) rfl  k) ?_
        show Go p e below _ (T_55.setTop (mkF m 15 #[vR a1, vR ea, vR r_4, vI 4, vI 3, vR ec] [(.int (4 : Int32)), (.int (3 : Int32))]))
        refine Go.step (fun _ k => XS.icmpNo X_55.here hx rfl (hb hby d_prog_8_method_5_code_15) rfl (tlt ((by decide) : (3 : Int32) < (4 : Int32))).2.1 k) ?_
        show Go p e below _ (T_55.setTop (mkF m 18 #[vR a1, vR ea, vR r_4, vI 4, vI 3, vR ec] []))
        refine Go.step (fun _ k => XS.aloadN X_55.here hx rfl (hb hby d_prog_8_method_5_code_18) rfl rfl k) ?_
        refine Go.step (fun _ k => XS.iload X_55.here hx rfl (hb hby d_prog_8_method_5_code_19) rfl  k) ?_
        show Go p e below _ (T_55.setTop (mkF m 21 #[vR a1, vR ea, vR r_4, vI 4, vI 3, vR ec] [(.int (3 : Int32)), (.ref r_4)]))
        have cp65 := u1_4
        obtain ⟨cl_64, Ar_64, -, Sz_64, -, Hs_64, -⟩ := cp65
        have hin_64 : ¬ ((3 : Int32) < 0 ∨ cl_64.slots.size ≤ ((3 : Int32)).toNatClampNeg) := (inb_of Sz_64 ⟨by decide, by decide⟩)
        have hat_64 : cl_64.slots[((3 : Int32)).toNatClampNeg]? = some (.ref ed) := (Hs_64.at (inb_of Sz_64 ⟨by decide, by decide⟩) rfl)
        refine Go.step (fun _ k => X_55.aaload hx (j := (3 : Int32)) (v := (.ref ed)) (by rw [e_55]; exact Ar_64.1) (State.isArrayOf_alike hZ.alike Ar_64.2.1) rfl Ar_64.2.2 hin_64 hat_64 (g := (mkF m 21 #[vR a1, vR ea, vR r_4, vI 4, vI 3, vR ec] [(.int (3 : Int32)), (.ref r_4)])) rfl rfl (hb hby d_prog_8_method_5_code_21) _ k) ?_
        show Go p e below _ (T_55.setTop (mkF m 22 #[vR a1, vR ea, vR r_4, vI 4, vI 3, vR ec] [(.ref ed)]))
        refine Go.step (fun _ k => XS.astore X_55.here hx rfl (hb hby d_prog_8_method_5_code_22) rfl rfl (l' := #[vR a1, vR ea, vR r_4, vI 4, vI 3, vR ed]) rfl k) ?_
        show Go p e below _ (T_55.setTop (mkF m 24 #[vR a1, vR ea, vR r_4, vI 4, vI 3, vR ed] []))
        refine Go.step (fun _ k => XS.aload X_55.here hx rfl (hb hby d_prog_8_method_5_code_24) rfl rfl k) ?_
        show Go p e below _ (T_55.setTop (mkF m 26 #[vR a1, vR ea, vR r_4, vI 4, vI 3, vR ed] [(.ref ed)]))
        obtain ⟨T_66, X_66, e_66, st_66⟩ := getF X_55 hx hZ hown (host := "") (Or.inl (wd_99 hw)) Via.refl e_55 (F_ed.ext O_4.2) (g := (mkF m 26 #[vR a1, vR ea, vR r_4, vI 4, vI 3, vR ed] [(.ref ed)])) rfl rfl (hb hby d_prog_8_method_5_code_26)
        refine Go.step st_66 ?_
        show Go p e below _ (T_66.setTop (mkF m 29 #[vR a1, vR ea, vR r_4, vI 4, vI 3, vR ed] [(.ref wd)]))
        refine Go.step (fun _ k => XS.aloadN X_66.here hx rfl (hb hby d_prog_8_method_5_code_29) rfl rfl k) ?_
        show Go p e below _ (T_66.setTop (mkF m 30 #[vR a1, vR ea, vR r_4, vI 4, vI 3, vR ed] [(.ref a1), (.ref wd)]))
        have cp67 := (S_wd.ext O_4.2)
        obtain ⟨t68, kb68, -, -, Ex68, Fv68, Fc68, Av68, hl68, hn68⟩ := cp67
        have cp69 := f12
        obtain ⟨t70, kb70, -, -, Ex70, Fv70, Fc70, Av70, hl70, hn70⟩ := cp69
        obtain ⟨v_71, T_71, L_71, X_71, hQ_71, st_71⟩ := goV X_66 hx hZ (y := Y_1) (z := Y_1) (kc := 0) (ks := 0) (QQ := fun v h' L => ((v = some (.int 1) ∧ ([(101 : Int32), (120 : Int32), (112 : Int32), (105 : Int32), (114 : Int32), (101 : Int32), (100 : Int32)] : List Int32) = cs) ∨ (v = some (.int 0) ∧ ¬ ([(101 : Int32), (120 : Int32), (112 : Int32), (105 : Int32), (114 : Int32), (101 : Int32), (100 : Int32)] : List Int32) = cs)) ∧ L = [] ∧ h' = T_4.heap) hown (wd_101 hw) (wd_102 hw) (notFace_of_selects (args := #[]) (mvT hZ (wd_104 hw))) (wd_104 hw) (wd_103 hw) (by decide) (StrChars.Road.eqW (W := 0) hZ (sw_wordsEq hw) (kI := 4) (wd_2 hw) Ex68 Fv68 Fc68 Av68 (StrChars.Road.codOf rfl (fun c hc => (hl68 c hc).2)) (up255 hl68) hn68 Ex70 Fv70 Fc70 Av70 (StrChars.Road.codOf rfl (fun c hc => (hl70 c hc).2)) (up255 hl70) hn70 (S_cs.ext O_4.2) n_cs (by decide) (by decide)) e_66 Ex68 (g := (mkF m 30 #[vR a1, vR ea, vR r_4, vI 4, vI 3, vR ed] [(.ref a1), (.ref wd)])) rfl (by rw [hml]; rfl) (argsL := [(.ref a1)]) (rest := []) rfl (lenOf pd_1 rfl) rfl (by show 2 * 0 + _ ≤ _; exact Nat.le_of_eq rfl) (hb hby d_prog_8_method_5_code_30) (by decide) (by decide)
        obtain ⟨hv_71, rfl, e_71⟩ := hQ_71
        obtain rfl := eqv_if hv_71
        have N_71 := Fr.app N_55 (Fr.nil n0)
        refine Go.step st_71 ?_
        show Go p e below _ (T_71.setTop (mkF m 33 #[vR a1, vR ea, vR r_4, vI 4, vI 3, vR ed] [(.int (if ([(101 : Int32), (120 : Int32), (112 : Int32), (105 : Int32), (114 : Int32), (101 : Int32), (100 : Int32)] : List Int32) = cs then (1 : Int32) else 0))]))
        by_cases y3 : ([(101 : Int32), (120 : Int32), (112 : Int32), (105 : Int32), (114 : Int32), (101 : Int32), (100 : Int32)] : List Int32) = cs
        · skip
          refine Go.step (fun _ k => XS.ifNo X_71.here hx rfl (hb hby d_prog_8_method_5_code_33) rfl ((if0 _ _).trans (feq (b01_ne y3)).1) k) ?_
          show Go p e below _ (T_71.setTop (mkF m 36 #[vR a1, vR ea, vR r_4, vI 4, vI 3, vR ed] []))
          refine Go.step (fun _ k => XS.aload X_71.here hx rfl (hb hby d_prog_8_method_5_code_36) rfl rfl k) ?_
          show Go p e below _ (T_71.setTop (mkF m 38 #[vR a1, vR ea, vR r_4, vI 4, vI 3, vR ed] [(.ref ed)]))
          refine Go.step (fun _ k => XS.astoreN X_71.here hx rfl (hb hby d_prog_8_method_5_code_38) rfl rfl (l' := #[vR a1, vR ed, vR r_4, vI 4, vI 3, vR ed]) rfl k) ?_
          show Go p e below _ (T_71.setTop (mkF m 39 #[vR a1, vR ed, vR r_4, vI 4, vI 3, vR ed] []))
          refine Go.step (fun _ k => XS.iinc X_71.here hx rfl (hb hby d_prog_8_method_5_code_39) rfl (l' := #[vR a1, vR ed, vR r_4, vI 4, vI ((3 : Int32) + (1 : Int32)), vR ed]) rfl k) ?_
          show Go p e below _ (T_71.setTop (mkF m 42 #[vR a1, vR ed, vR r_4, vI 4, vI ((3 : Int32) + (1 : Int32)), vR ed] []))
          rw [show ((3 : Int32) + (1 : Int32)) = (4 : Int32) from by decide]
          show Go p e below _ (T_71.setTop (mkF m 42 #[vR a1, vR ed, vR r_4, vI 4, vI 4, vR ed] []))
          refine Go.step (fun _ k => XS.goto X_71.here hx rfl (pc0 := 42) (pc' := 12) rfl (hb hby d_prog_8_method_5_code_42) (by decide) (by decide) k) ?_
          show Go p e below _ (T_71.setTop (mkF m 12 #[vR a1, vR ed, vR r_4, vI 4, vI 4, vR ed] []))
          refine Go.step (fun _ k => XS.iload X_71.here hx rfl (hb hby d_prog_8_method_5_code_12) rfl  k) ?_
          refine Go.step (fun _ k => XS.iloadN X_71.here hx rfl (hb hby d_prog_8_method_5_code_14) rfl  k) ?_
          show Go p e below _ (T_71.setTop (mkF m 15 #[vR a1, vR ed, vR r_4, vI 4, vI 4, vR ed] [(.int (4 : Int32)), (.int (4 : Int32))]))
          refine Go.step (fun _ k => XS.icmpYes X_71.here hx rfl (pc0 := 15) (pc' := 45) rfl (hb hby d_prog_8_method_5_code_15) rfl (flt ((by decide) : ¬ ((4 : Int32) < (4 : Int32)))).2.1 (by decide) (by decide) k) ?_
          show Go p e below _ (T_71.setTop (mkF m 45 #[vR a1, vR ed, vR r_4, vI 4, vI 4, vR ed] []))
          refine Go.step (fun _ k => XS.aloadN X_71.here hx rfl (hb hby d_prog_8_method_5_code_45) rfl rfl k) ?_
          show Go p e below _ (T_71.setTop (mkF m 46 #[vR a1, vR ed, vR r_4, vI 4, vI 4, vR ed] [(.ref ed)]))
          exact Go.retV X_71 hx hlk hret rfl (Or.inr (Or.inr (Or.inr (Or.inr ⟨rfl, rfl, rfl⟩)))) (hb hby d_prog_8_method_5_code_46) (by decide) (by decide) (by rw [e_71]; exact ⟨(absurd (y0.trans y3.symm) (by decide)), N_71, KP_4⟩)
        · skip
          refine Go.step (fun _ k => XS.ifYes X_71.here hx rfl (pc0 := 33) (pc' := 39) rfl (hb hby d_prog_8_method_5_code_33) rfl ((if0 _ _).trans (teq (b01_eq y3)).1) (by decide) (by decide) k) ?_
          show Go p e below _ (T_71.setTop (mkF m 39 #[vR a1, vR ea, vR r_4, vI 4, vI 3, vR ed] []))
          refine Go.step (fun _ k => XS.iinc X_71.here hx rfl (hb hby d_prog_8_method_5_code_39) rfl (l' := #[vR a1, vR ea, vR r_4, vI 4, vI ((3 : Int32) + (1 : Int32)), vR ed]) rfl k) ?_
          show Go p e below _ (T_71.setTop (mkF m 42 #[vR a1, vR ea, vR r_4, vI 4, vI ((3 : Int32) + (1 : Int32)), vR ed] []))
          rw [show ((3 : Int32) + (1 : Int32)) = (4 : Int32) from by decide]
          show Go p e below _ (T_71.setTop (mkF m 42 #[vR a1, vR ea, vR r_4, vI 4, vI 4, vR ed] []))
          refine Go.step (fun _ k => XS.goto X_71.here hx rfl (pc0 := 42) (pc' := 12) rfl (hb hby d_prog_8_method_5_code_42) (by decide) (by decide) k) ?_
          show Go p e below _ (T_71.setTop (mkF m 12 #[vR a1, vR ea, vR r_4, vI 4, vI 4, vR ed] []))
          refine Go.step (fun _ k => XS.iload X_71.here hx rfl (hb hby d_prog_8_method_5_code_12) rfl  k) ?_
          refine Go.step (fun _ k => XS.iloadN X_71.here hx rfl (hb hby d_prog_8_method_5_code_14) rfl  k) ?_
          show Go p e below _ (T_71.setTop (mkF m 15 #[vR a1, vR ea, vR r_4, vI 4, vI 4, vR ed] [(.int (4 : Int32)), (.int (4 : Int32))]))
          refine Go.step (fun _ k => XS.icmpYes X_71.here hx rfl (pc0 := 15) (pc' := 45) rfl (hb hby d_prog_8_method_5_code_15) rfl (flt ((by decide) : ¬ ((4 : Int32) < (4 : Int32)))).2.1 (by decide) (by decide) k) ?_
          show Go p e below _ (T_71.setTop (mkF m 45 #[vR a1, vR ea, vR r_4, vI 4, vI 4, vR ed] []))
          refine Go.step (fun _ k => XS.aloadN X_71.here hx rfl (hb hby d_prog_8_method_5_code_45) rfl rfl k) ?_
          show Go p e below _ (T_71.setTop (mkF m 46 #[vR a1, vR ea, vR r_4, vI 4, vI 4, vR ed] [(.ref ea)]))
          exact Go.retV X_71 hx hlk hret rfl (Or.inr (Or.inr (Or.inr (Or.inr ⟨rfl, rfl, rfl⟩)))) (hb hby d_prog_8_method_5_code_46) (by decide) (by decide) (by rw [e_71]; exact ⟨(by rw [fwv, if_pos y0.symm]), N_71, KP_4⟩)
  · skip
    refine Go.step (fun _ k => XS.ifYes X_15.here hx rfl (pc0 := 33) (pc' := 39) rfl (hb hby d_prog_8_method_5_code_33) rfl ((if0 _ _).trans (teq (b01_eq y0)).1) (by decide) (by decide) k) ?_
    show Go p e below _ (T_15.setTop (mkF m 39 #[vR a1, .val .null, vR r_4, vI 4, vI 0, vR ea] []))
    refine Go.step (fun _ k => XS.iinc X_15.here hx rfl (hb hby d_prog_8_method_5_code_39) rfl (l' := #[vR a1, .val .null, vR r_4, vI 4, vI ((0 : Int32) + (1 : Int32)), vR ea]) rfl k) ?_
    show Go p e below _ (T_15.setTop (mkF m 42 #[vR a1, .val .null, vR r_4, vI 4, vI ((0 : Int32) + (1 : Int32)), vR ea] []))
    rw [show ((0 : Int32) + (1 : Int32)) = (1 : Int32) from by decide]
    show Go p e below _ (T_15.setTop (mkF m 42 #[vR a1, .val .null, vR r_4, vI 4, vI 1, vR ea] []))
    refine Go.step (fun _ k => XS.goto X_15.here hx rfl (pc0 := 42) (pc' := 12) rfl (hb hby d_prog_8_method_5_code_42) (by decide) (by decide) k) ?_
    show Go p e below _ (T_15.setTop (mkF m 12 #[vR a1, .val .null, vR r_4, vI 4, vI 1, vR ea] []))
    refine Go.step (fun _ k => XS.iload X_15.here hx rfl (hb hby d_prog_8_method_5_code_12) rfl  k) ?_
    refine Go.step (fun _ k => XS.iloadN X_15.here hx rfl (hb hby d_prog_8_method_5_code_14) rfl  k) ?_
    show Go p e below _ (T_15.setTop (mkF m 15 #[vR a1, .val .null, vR r_4, vI 4, vI 1, vR ea] [(.int (4 : Int32)), (.int (1 : Int32))]))
    refine Go.step (fun _ k => XS.icmpNo X_15.here hx rfl (hb hby d_prog_8_method_5_code_15) rfl (tlt ((by decide) : (1 : Int32) < (4 : Int32))).2.1 k) ?_
    show Go p e below _ (T_15.setTop (mkF m 18 #[vR a1, .val .null, vR r_4, vI 4, vI 1, vR ea] []))
    refine Go.step (fun _ k => XS.aloadN X_15.here hx rfl (hb hby d_prog_8_method_5_code_18) rfl rfl k) ?_
    refine Go.step (fun _ k => XS.iload X_15.here hx rfl (hb hby d_prog_8_method_5_code_19) rfl  k) ?_
    show Go p e below _ (T_15.setTop (mkF m 21 #[vR a1, .val .null, vR r_4, vI 4, vI 1, vR ea] [(.int (1 : Int32)), (.ref r_4)]))
    have cp73 := u1_4
    obtain ⟨cl_72, Ar_72, -, Sz_72, -, Hs_72, -⟩ := cp73
    have hin_72 : ¬ ((1 : Int32) < 0 ∨ cl_72.slots.size ≤ ((1 : Int32)).toNatClampNeg) := (inb_of Sz_72 ⟨by decide, by decide⟩)
    have hat_72 : cl_72.slots[((1 : Int32)).toNatClampNeg]? = some (.ref eb) := (Hs_72.at (inb_of Sz_72 ⟨by decide, by decide⟩) rfl)
    refine Go.step (fun _ k => X_15.aaload hx (j := (1 : Int32)) (v := (.ref eb)) (by rw [e_15]; exact Ar_72.1) (State.isArrayOf_alike hZ.alike Ar_72.2.1) rfl Ar_72.2.2 hin_72 hat_72 (g := (mkF m 21 #[vR a1, .val .null, vR r_4, vI 4, vI 1, vR ea] [(.int (1 : Int32)), (.ref r_4)])) rfl rfl (hb hby d_prog_8_method_5_code_21) _ k) ?_
    show Go p e below _ (T_15.setTop (mkF m 22 #[vR a1, .val .null, vR r_4, vI 4, vI 1, vR ea] [(.ref eb)]))
    refine Go.step (fun _ k => XS.astore X_15.here hx rfl (hb hby d_prog_8_method_5_code_22) rfl rfl (l' := #[vR a1, .val .null, vR r_4, vI 4, vI 1, vR eb]) rfl k) ?_
    show Go p e below _ (T_15.setTop (mkF m 24 #[vR a1, .val .null, vR r_4, vI 4, vI 1, vR eb] []))
    refine Go.step (fun _ k => XS.aload X_15.here hx rfl (hb hby d_prog_8_method_5_code_24) rfl rfl k) ?_
    show Go p e below _ (T_15.setTop (mkF m 26 #[vR a1, .val .null, vR r_4, vI 4, vI 1, vR eb] [(.ref eb)]))
    obtain ⟨T_74, X_74, e_74, st_74⟩ := getF X_15 hx hZ hown (host := "") (Or.inl (wd_99 hw)) Via.refl e_15 (F_eb.ext O_4.2) (g := (mkF m 26 #[vR a1, .val .null, vR r_4, vI 4, vI 1, vR eb] [(.ref eb)])) rfl rfl (hb hby d_prog_8_method_5_code_26)
    refine Go.step st_74 ?_
    show Go p e below _ (T_74.setTop (mkF m 29 #[vR a1, .val .null, vR r_4, vI 4, vI 1, vR eb] [(.ref wb)]))
    refine Go.step (fun _ k => XS.aloadN X_74.here hx rfl (hb hby d_prog_8_method_5_code_29) rfl rfl k) ?_
    show Go p e below _ (T_74.setTop (mkF m 30 #[vR a1, .val .null, vR r_4, vI 4, vI 1, vR eb] [(.ref a1), (.ref wb)]))
    have cp75 := (S_wb.ext O_4.2)
    obtain ⟨t76, kb76, -, -, Ex76, Fv76, Fc76, Av76, hl76, hn76⟩ := cp75
    have cp77 := f12
    obtain ⟨t78, kb78, -, -, Ex78, Fv78, Fc78, Av78, hl78, hn78⟩ := cp77
    obtain ⟨v_79, T_79, L_79, X_79, hQ_79, st_79⟩ := goV X_74 hx hZ (y := Y_1) (z := Y_1) (kc := 0) (ks := 0) (QQ := fun v h' L => ((v = some (.int 1) ∧ ([(99 : Int32), (97 : Int32), (112 : Int32), (116 : Int32), (117 : Int32), (114 : Int32), (101 : Int32), (100 : Int32)] : List Int32) = cs) ∨ (v = some (.int 0) ∧ ¬ ([(99 : Int32), (97 : Int32), (112 : Int32), (116 : Int32), (117 : Int32), (114 : Int32), (101 : Int32), (100 : Int32)] : List Int32) = cs)) ∧ L = [] ∧ h' = T_4.heap) hown (wd_101 hw) (wd_102 hw) (notFace_of_selects (args := #[]) (mvT hZ (wd_104 hw))) (wd_104 hw) (wd_103 hw) (by decide) (StrChars.Road.eqW (W := 0) hZ (sw_wordsEq hw) (kI := 4) (wd_2 hw) Ex76 Fv76 Fc76 Av76 (StrChars.Road.codOf rfl (fun c hc => (hl76 c hc).2)) (up255 hl76) hn76 Ex78 Fv78 Fc78 Av78 (StrChars.Road.codOf rfl (fun c hc => (hl78 c hc).2)) (up255 hl78) hn78 (S_cs.ext O_4.2) n_cs (by decide) (by decide)) e_74 Ex76 (g := (mkF m 30 #[vR a1, .val .null, vR r_4, vI 4, vI 1, vR eb] [(.ref a1), (.ref wb)])) rfl (by rw [hml]; rfl) (argsL := [(.ref a1)]) (rest := []) rfl (lenOf pd_1 rfl) rfl (by show 2 * 0 + _ ≤ _; exact Nat.le_of_eq rfl) (hb hby d_prog_8_method_5_code_30) (by decide) (by decide)
    obtain ⟨hv_79, rfl, e_79⟩ := hQ_79
    obtain rfl := eqv_if hv_79
    have N_79 := Fr.app N_15 (Fr.nil n0)
    refine Go.step st_79 ?_
    show Go p e below _ (T_79.setTop (mkF m 33 #[vR a1, .val .null, vR r_4, vI 4, vI 1, vR eb] [(.int (if ([(99 : Int32), (97 : Int32), (112 : Int32), (116 : Int32), (117 : Int32), (114 : Int32), (101 : Int32), (100 : Int32)] : List Int32) = cs then (1 : Int32) else 0))]))
    by_cases y1 : ([(99 : Int32), (97 : Int32), (112 : Int32), (116 : Int32), (117 : Int32), (114 : Int32), (101 : Int32), (100 : Int32)] : List Int32) = cs
    · skip
      refine Go.step (fun _ k => XS.ifNo X_79.here hx rfl (hb hby d_prog_8_method_5_code_33) rfl ((if0 _ _).trans (feq (b01_ne y1)).1) k) ?_
      show Go p e below _ (T_79.setTop (mkF m 36 #[vR a1, .val .null, vR r_4, vI 4, vI 1, vR eb] []))
      refine Go.step (fun _ k => XS.aload X_79.here hx rfl (hb hby d_prog_8_method_5_code_36) rfl rfl k) ?_
      show Go p e below _ (T_79.setTop (mkF m 38 #[vR a1, .val .null, vR r_4, vI 4, vI 1, vR eb] [(.ref eb)]))
      refine Go.step (fun _ k => XS.astoreN X_79.here hx rfl (hb hby d_prog_8_method_5_code_38) rfl rfl (l' := #[vR a1, vR eb, vR r_4, vI 4, vI 1, vR eb]) rfl k) ?_
      show Go p e below _ (T_79.setTop (mkF m 39 #[vR a1, vR eb, vR r_4, vI 4, vI 1, vR eb] []))
      refine Go.step (fun _ k => XS.iinc X_79.here hx rfl (hb hby d_prog_8_method_5_code_39) rfl (l' := #[vR a1, vR eb, vR r_4, vI 4, vI ((1 : Int32) + (1 : Int32)), vR eb]) rfl k) ?_
      show Go p e below _ (T_79.setTop (mkF m 42 #[vR a1, vR eb, vR r_4, vI 4, vI ((1 : Int32) + (1 : Int32)), vR eb] []))
      rw [show ((1 : Int32) + (1 : Int32)) = (2 : Int32) from by decide]
      show Go p e below _ (T_79.setTop (mkF m 42 #[vR a1, vR eb, vR r_4, vI 4, vI 2, vR eb] []))
      refine Go.step (fun _ k => XS.goto X_79.here hx rfl (pc0 := 42) (pc' := 12) rfl (hb hby d_prog_8_method_5_code_42) (by decide) (by decide) k) ?_
      show Go p e below _ (T_79.setTop (mkF m 12 #[vR a1, vR eb, vR r_4, vI 4, vI 2, vR eb] []))
      refine Go.step (fun _ k => XS.iload X_79.here hx rfl (hb hby d_prog_8_method_5_code_12) rfl  k) ?_
      refine Go.step (fun _ k => XS.iloadN X_79.here hx rfl (hb hby d_prog_8_method_5_code_14) rfl  k) ?_
      show Go p e below _ (T_79.setTop (mkF m 15 #[vR a1, vR eb, vR r_4, vI 4, vI 2, vR eb] [(.int (4 : Int32)), (.int (2 : Int32))]))
      refine Go.step (fun _ k => XS.icmpNo X_79.here hx rfl (hb hby d_prog_8_method_5_code_15) rfl (tlt ((by decide) : (2 : Int32) < (4 : Int32))).2.1 k) ?_
      show Go p e below _ (T_79.setTop (mkF m 18 #[vR a1, vR eb, vR r_4, vI 4, vI 2, vR eb] []))
      refine Go.step (fun _ k => XS.aloadN X_79.here hx rfl (hb hby d_prog_8_method_5_code_18) rfl rfl k) ?_
      refine Go.step (fun _ k => XS.iload X_79.here hx rfl (hb hby d_prog_8_method_5_code_19) rfl  k) ?_
      show Go p e below _ (T_79.setTop (mkF m 21 #[vR a1, vR eb, vR r_4, vI 4, vI 2, vR eb] [(.int (2 : Int32)), (.ref r_4)]))
      have cp81 := u1_4
      obtain ⟨cl_80, Ar_80, -, Sz_80, -, Hs_80, -⟩ := cp81
      have hin_80 : ¬ ((2 : Int32) < 0 ∨ cl_80.slots.size ≤ ((2 : Int32)).toNatClampNeg) := (inb_of Sz_80 ⟨by decide, by decide⟩)
      have hat_80 : cl_80.slots[((2 : Int32)).toNatClampNeg]? = some (.ref ec) := (Hs_80.at (inb_of Sz_80 ⟨by decide, by decide⟩) rfl)
      refine Go.step (fun _ k => X_79.aaload hx (j := (2 : Int32)) (v := (.ref ec)) (by rw [e_79]; exact Ar_80.1) (State.isArrayOf_alike hZ.alike Ar_80.2.1) rfl Ar_80.2.2 hin_80 hat_80 (g := (mkF m 21 #[vR a1, vR eb, vR r_4, vI 4, vI 2, vR eb] [(.int (2 : Int32)), (.ref r_4)])) rfl rfl (hb hby d_prog_8_method_5_code_21) _ k) ?_
      show Go p e below _ (T_79.setTop (mkF m 22 #[vR a1, vR eb, vR r_4, vI 4, vI 2, vR eb] [(.ref ec)]))
      refine Go.step (fun _ k => XS.astore X_79.here hx rfl (hb hby d_prog_8_method_5_code_22) rfl rfl (l' := #[vR a1, vR eb, vR r_4, vI 4, vI 2, vR ec]) rfl k) ?_
      show Go p e below _ (T_79.setTop (mkF m 24 #[vR a1, vR eb, vR r_4, vI 4, vI 2, vR ec] []))
      refine Go.step (fun _ k => XS.aload X_79.here hx rfl (hb hby d_prog_8_method_5_code_24) rfl rfl k) ?_
      show Go p e below _ (T_79.setTop (mkF m 26 #[vR a1, vR eb, vR r_4, vI 4, vI 2, vR ec] [(.ref ec)]))
      obtain ⟨T_82, X_82, e_82, st_82⟩ := getF X_79 hx hZ hown (host := "") (Or.inl (wd_99 hw)) Via.refl e_79 (F_ec.ext O_4.2) (g := (mkF m 26 #[vR a1, vR eb, vR r_4, vI 4, vI 2, vR ec] [(.ref ec)])) rfl rfl (hb hby d_prog_8_method_5_code_26)
      refine Go.step st_82 ?_
      show Go p e below _ (T_82.setTop (mkF m 29 #[vR a1, vR eb, vR r_4, vI 4, vI 2, vR ec] [(.ref wc)]))
      refine Go.step (fun _ k => XS.aloadN X_82.here hx rfl (hb hby d_prog_8_method_5_code_29) rfl rfl k) ?_
      show Go p e below _ (T_82.setTop (mkF m 30 #[vR a1, vR eb, vR r_4, vI 4, vI 2, vR ec] [(.ref a1), (.ref wc)]))
      have cp83 := (S_wc.ext O_4.2)
      obtain ⟨t84, kb84, -, -, Ex84, Fv84, Fc84, Av84, hl84, hn84⟩ := cp83
      have cp85 := f12
      obtain ⟨t86, kb86, -, -, Ex86, Fv86, Fc86, Av86, hl86, hn86⟩ := cp85
      obtain ⟨v_87, T_87, L_87, X_87, hQ_87, st_87⟩ := goV X_82 hx hZ (y := Y_1) (z := Y_1) (kc := 0) (ks := 0) (QQ := fun v h' L => ((v = some (.int 1) ∧ ([(118 : Int32), (111 : Int32), (105 : Int32), (100 : Int32), (101 : Int32), (100 : Int32)] : List Int32) = cs) ∨ (v = some (.int 0) ∧ ¬ ([(118 : Int32), (111 : Int32), (105 : Int32), (100 : Int32), (101 : Int32), (100 : Int32)] : List Int32) = cs)) ∧ L = [] ∧ h' = T_4.heap) hown (wd_101 hw) (wd_102 hw) (notFace_of_selects (args := #[]) (mvT hZ (wd_104 hw))) (wd_104 hw) (wd_103 hw) (by decide) (StrChars.Road.eqW (W := 0) hZ (sw_wordsEq hw) (kI := 4) (wd_2 hw) Ex84 Fv84 Fc84 Av84 (StrChars.Road.codOf rfl (fun c hc => (hl84 c hc).2)) (up255 hl84) hn84 Ex86 Fv86 Fc86 Av86 (StrChars.Road.codOf rfl (fun c hc => (hl86 c hc).2)) (up255 hl86) hn86 (S_cs.ext O_4.2) n_cs (by decide) (by decide)) e_82 Ex84 (g := (mkF m 30 #[vR a1, vR eb, vR r_4, vI 4, vI 2, vR ec] [(.ref a1), (.ref wc)])) rfl (by rw [hml]; rfl) (argsL := [(.ref a1)]) (rest := []) rfl (lenOf pd_1 rfl) rfl (by show 2 * 0 + _ ≤ _; exact Nat.le_of_eq rfl) (hb hby d_prog_8_method_5_code_30) (by decide) (by decide)
      obtain ⟨hv_87, rfl, e_87⟩ := hQ_87
      obtain rfl := eqv_if hv_87
      have N_87 := Fr.app N_79 (Fr.nil n0)
      refine Go.step st_87 ?_
      show Go p e below _ (T_87.setTop (mkF m 33 #[vR a1, vR eb, vR r_4, vI 4, vI 2, vR ec] [(.int (if ([(118 : Int32), (111 : Int32), (105 : Int32), (100 : Int32), (101 : Int32), (100 : Int32)] : List Int32) = cs then (1 : Int32) else 0))]))
      by_cases y2 : ([(118 : Int32), (111 : Int32), (105 : Int32), (100 : Int32), (101 : Int32), (100 : Int32)] : List Int32) = cs
      · skip
        refine Go.step (fun _ k => XS.ifNo X_87.here hx rfl (hb hby d_prog_8_method_5_code_33) rfl ((if0 _ _).trans (feq (b01_ne y2)).1) k) ?_
        show Go p e below _ (T_87.setTop (mkF m 36 #[vR a1, vR eb, vR r_4, vI 4, vI 2, vR ec] []))
        refine Go.step (fun _ k => XS.aload X_87.here hx rfl (hb hby d_prog_8_method_5_code_36) rfl rfl k) ?_
        show Go p e below _ (T_87.setTop (mkF m 38 #[vR a1, vR eb, vR r_4, vI 4, vI 2, vR ec] [(.ref ec)]))
        refine Go.step (fun _ k => XS.astoreN X_87.here hx rfl (hb hby d_prog_8_method_5_code_38) rfl rfl (l' := #[vR a1, vR ec, vR r_4, vI 4, vI 2, vR ec]) rfl k) ?_
        show Go p e below _ (T_87.setTop (mkF m 39 #[vR a1, vR ec, vR r_4, vI 4, vI 2, vR ec] []))
        refine Go.step (fun _ k => XS.iinc X_87.here hx rfl (hb hby d_prog_8_method_5_code_39) rfl (l' := #[vR a1, vR ec, vR r_4, vI 4, vI ((2 : Int32) + (1 : Int32)), vR ec]) rfl k) ?_
        show Go p e below _ (T_87.setTop (mkF m 42 #[vR a1, vR ec, vR r_4, vI 4, vI ((2 : Int32) + (1 : Int32)), vR ec] []))
        rw [show ((2 : Int32) + (1 : Int32)) = (3 : Int32) from by decide]
        show Go p e below _ (T_87.setTop (mkF m 42 #[vR a1, vR ec, vR r_4, vI 4, vI 3, vR ec] []))
        refine Go.step (fun _ k => XS.goto X_87.here hx rfl (pc0 := 42) (pc' := 12) rfl (hb hby d_prog_8_method_5_code_42) (by decide) (by decide) k) ?_
        show Go p e below _ (T_87.setTop (mkF m 12 #[vR a1, vR ec, vR r_4, vI 4, vI 3, vR ec] []))
        refine Go.step (fun _ k => XS.iload X_87.here hx rfl (hb hby d_prog_8_method_5_code_12) rfl  k) ?_
        refine Go.step (fun _ k => XS.iloadN X_87.here hx rfl (hb hby d_prog_8_method_5_code_14) rfl  k) ?_
        show Go p e below _ (T_87.setTop (mkF m 15 #[vR a1, vR ec, vR r_4, vI 4, vI 3, vR ec] [(.int (4 : Int32)), (.int (3 : Int32))]))
        refine Go.step (fun _ k => XS.icmpNo X_87.here hx rfl (hb hby d_prog_8_method_5_code_15) rfl (tlt ((by decide) : (3 : Int32) < (4 : Int32))).2.1 k) ?_
        show Go p e below _ (T_87.setTop (mkF m 18 #[vR a1, vR ec, vR r_4, vI 4, vI 3, vR ec] []))
        refine Go.step (fun _ k => XS.aloadN X_87.here hx rfl (hb hby d_prog_8_method_5_code_18) rfl rfl k) ?_
        refine Go.step (fun _ k => XS.iload X_87.here hx rfl (hb hby d_prog_8_method_5_code_19) rfl  k) ?_
        show Go p e below _ (T_87.setTop (mkF m 21 #[vR a1, vR ec, vR r_4, vI 4, vI 3, vR ec] [(.int (3 : Int32)), (.ref r_4)]))
        have cp89 := u1_4
        obtain ⟨cl_88, Ar_88, -, Sz_88, -, Hs_88, -⟩ := cp89
        have hin_88 : ¬ ((3 : Int32) < 0 ∨ cl_88.slots.size ≤ ((3 : Int32)).toNatClampNeg) := (inb_of Sz_88 ⟨by decide, by decide⟩)
        have hat_88 : cl_88.slots[((3 : Int32)).toNatClampNeg]? = some (.ref ed) := (Hs_88.at (inb_of Sz_88 ⟨by decide, by decide⟩) rfl)
        refine Go.step (fun _ k => X_87.aaload hx (j := (3 : Int32)) (v := (.ref ed)) (by rw [e_87]; exact Ar_88.1) (State.isArrayOf_alike hZ.alike Ar_88.2.1) rfl Ar_88.2.2 hin_88 hat_88 (g := (mkF m 21 #[vR a1, vR ec, vR r_4, vI 4, vI 3, vR ec] [(.int (3 : Int32)), (.ref r_4)])) rfl rfl (hb hby d_prog_8_method_5_code_21) _ k) ?_
        show Go p e below _ (T_87.setTop (mkF m 22 #[vR a1, vR ec, vR r_4, vI 4, vI 3, vR ec] [(.ref ed)]))
        refine Go.step (fun _ k => XS.astore X_87.here hx rfl (hb hby d_prog_8_method_5_code_22) rfl rfl (l' := #[vR a1, vR ec, vR r_4, vI 4, vI 3, vR ed]) rfl k) ?_
        show Go p e below _ (T_87.setTop (mkF m 24 #[vR a1, vR ec, vR r_4, vI 4, vI 3, vR ed] []))
        refine Go.step (fun _ k => XS.aload X_87.here hx rfl (hb hby d_prog_8_method_5_code_24) rfl rfl k) ?_
        show Go p e below _ (T_87.setTop (mkF m 26 #[vR a1, vR ec, vR r_4, vI 4, vI 3, vR ed] [(.ref ed)]))
        obtain ⟨T_90, X_90, e_90, st_90⟩ := getF X_87 hx hZ hown (host := "") (Or.inl (wd_99 hw)) Via.refl e_87 (F_ed.ext O_4.2) (g := (mkF m 26 #[vR a1, vR ec, vR r_4, vI 4, vI 3, vR ed] [(.ref ed)])) rfl rfl (hb hby d_prog_8_method_5_code_26)
        refine Go.step st_90 ?_
        show Go p e below _ (T_90.setTop (mkF m 29 #[vR a1, vR ec, vR r_4, vI 4, vI 3, vR ed] [(.ref wd)]))
        refine Go.step (fun _ k => XS.aloadN X_90.here hx rfl (hb hby d_prog_8_method_5_code_29) rfl rfl k) ?_
        show Go p e below _ (T_90.setTop (mkF m 30 #[vR a1, vR ec, vR r_4, vI 4, vI 3, vR ed] [(.ref a1), (.ref wd)]))
        have cp91 := (S_wd.ext O_4.2)
        obtain ⟨t92, kb92, -, -, Ex92, Fv92, Fc92, Av92, hl92, hn92⟩ := cp91
        have cp93 := f12
        obtain ⟨t94, kb94, -, -, Ex94, Fv94, Fc94, Av94, hl94, hn94⟩ := cp93
        obtain ⟨v_95, T_95, L_95, X_95, hQ_95, st_95⟩ := goV X_90 hx hZ (y := Y_1) (z := Y_1) (kc := 0) (ks := 0) (QQ := fun v h' L => ((v = some (.int 1) ∧ ([(101 : Int32), (120 : Int32), (112 : Int32), (105 : Int32), (114 : Int32), (101 : Int32), (100 : Int32)] : List Int32) = cs) ∨ (v = some (.int 0) ∧ ¬ ([(101 : Int32), (120 : Int32), (112 : Int32), (105 : Int32), (114 : Int32), (101 : Int32), (100 : Int32)] : List Int32) = cs)) ∧ L = [] ∧ h' = T_4.heap) hown (wd_101 hw) (wd_102 hw) (notFace_of_selects (args := #[]) (mvT hZ (wd_104 hw))) (wd_104 hw) (wd_103 hw) (by decide) (StrChars.Road.eqW (W := 0) hZ (sw_wordsEq hw) (kI := 4) (wd_2 hw) Ex92 Fv92 Fc92 Av92 (StrChars.Road.codOf rfl (fun c hc => (hl92 c hc).2)) (up255 hl92) hn92 Ex94 Fv94 Fc94 Av94 (StrChars.Road.codOf rfl (fun c hc => (hl94 c hc).2)) (up255 hl94) hn94 (S_cs.ext O_4.2) n_cs (by decide) (by decide)) e_90 Ex92 (g := (mkF m 30 #[vR a1, vR ec, vR r_4, vI 4, vI 3, vR ed] [(.ref a1), (.ref wd)])) rfl (by rw [hml]; rfl) (argsL := [(.ref a1)]) (rest := []) rfl (lenOf pd_1 rfl) rfl (by show 2 * 0 + _ ≤ _; exact Nat.le_of_eq rfl) (hb hby d_prog_8_method_5_code_30) (by decide) (by decide)
        obtain ⟨hv_95, rfl, e_95⟩ := hQ_95
        obtain rfl := eqv_if hv_95
        have N_95 := Fr.app N_87 (Fr.nil n0)
        refine Go.step st_95 ?_
        show Go p e below _ (T_95.setTop (mkF m 33 #[vR a1, vR ec, vR r_4, vI 4, vI 3, vR ed] [(.int (if ([(101 : Int32), (120 : Int32), (112 : Int32), (105 : Int32), (114 : Int32), (101 : Int32), (100 : Int32)] : List Int32) = cs then (1 : Int32) else 0))]))
        by_cases y3 : ([(101 : Int32), (120 : Int32), (112 : Int32), (105 : Int32), (114 : Int32), (101 : Int32), (100 : Int32)] : List Int32) = cs
        · skip
          refine Go.step (fun _ k => XS.ifNo X_95.here hx rfl (hb hby d_prog_8_method_5_code_33) rfl ((if0 _ _).trans (feq (b01_ne y3)).1) k) ?_
          show Go p e below _ (T_95.setTop (mkF m 36 #[vR a1, vR ec, vR r_4, vI 4, vI 3, vR ed] []))
          refine Go.step (fun _ k => XS.aload X_95.here hx rfl (hb hby d_prog_8_method_5_code_36) rfl rfl k) ?_
          show Go p e below _ (T_95.setTop (mkF m 38 #[vR a1, vR ec, vR r_4, vI 4, vI 3, vR ed] [(.ref ed)]))
          refine Go.step (fun _ k => XS.astoreN X_95.here hx rfl (hb hby d_prog_8_method_5_code_38) rfl rfl (l' := #[vR a1, vR ed, vR r_4, vI 4, vI 3, vR ed]) rfl k) ?_
          show Go p e below _ (T_95.setTop (mkF m 39 #[vR a1, vR ed, vR r_4, vI 4, vI 3, vR ed] []))
          refine Go.step (fun _ k => XS.iinc X_95.here hx rfl (hb hby d_prog_8_method_5_code_39) rfl (l' := #[vR a1, vR ed, vR r_4, vI 4, vI ((3 : Int32) + (1 : Int32)), vR ed]) rfl k) ?_
          show Go p e below _ (T_95.setTop (mkF m 42 #[vR a1, vR ed, vR r_4, vI 4, vI ((3 : Int32) + (1 : Int32)), vR ed] []))
          rw [show ((3 : Int32) + (1 : Int32)) = (4 : Int32) from by decide]
          show Go p e below _ (T_95.setTop (mkF m 42 #[vR a1, vR ed, vR r_4, vI 4, vI 4, vR ed] []))
          refine Go.step (fun _ k => XS.goto X_95.here hx rfl (pc0 := 42) (pc' := 12) rfl (hb hby d_prog_8_method_5_code_42) (by decide) (by decide) k) ?_
          show Go p e below _ (T_95.setTop (mkF m 12 #[vR a1, vR ed, vR r_4, vI 4, vI 4, vR ed] []))
          refine Go.step (fun _ k => XS.iload X_95.here hx rfl (hb hby d_prog_8_method_5_code_12) rfl  k) ?_
          refine Go.step (fun _ k => XS.iloadN X_95.here hx rfl (hb hby d_prog_8_method_5_code_14) rfl  k) ?_
          show Go p e below _ (T_95.setTop (mkF m 15 #[vR a1, vR ed, vR r_4, vI 4, vI 4, vR ed] [(.int (4 : Int32)), (.int (4 : Int32))]))
          refine Go.step (fun _ k => XS.icmpYes X_95.here hx rfl (pc0 := 15) (pc' := 45) rfl (hb hby d_prog_8_method_5_code_15) rfl (flt ((by decide) : ¬ ((4 : Int32) < (4 : Int32)))).2.1 (by decide) (by decide) k) ?_
          show Go p e below _ (T_95.setTop (mkF m 45 #[vR a1, vR ed, vR r_4, vI 4, vI 4, vR ed] []))
          refine Go.step (fun _ k => XS.aloadN X_95.here hx rfl (hb hby d_prog_8_method_5_code_45) rfl rfl k) ?_
          show Go p e below _ (T_95.setTop (mkF m 46 #[vR a1, vR ed, vR r_4, vI 4, vI 4, vR ed] [(.ref ed)]))
          exact Go.retV X_95 hx hlk hret rfl (Or.inr (Or.inr (Or.inr (Or.inr ⟨rfl, rfl, rfl⟩)))) (hb hby d_prog_8_method_5_code_46) (by decide) (by decide) (by rw [e_95]; exact ⟨(absurd (y1.trans y2.symm) (by decide)), N_95, KP_4⟩)
        · skip
          refine Go.step (fun _ k => XS.ifYes X_95.here hx rfl (pc0 := 33) (pc' := 39) rfl (hb hby d_prog_8_method_5_code_33) rfl ((if0 _ _).trans (teq (b01_eq y3)).1) (by decide) (by decide) k) ?_
          show Go p e below _ (T_95.setTop (mkF m 39 #[vR a1, vR ec, vR r_4, vI 4, vI 3, vR ed] []))
          refine Go.step (fun _ k => XS.iinc X_95.here hx rfl (hb hby d_prog_8_method_5_code_39) rfl (l' := #[vR a1, vR ec, vR r_4, vI 4, vI ((3 : Int32) + (1 : Int32)), vR ed]) rfl k) ?_
          show Go p e below _ (T_95.setTop (mkF m 42 #[vR a1, vR ec, vR r_4, vI 4, vI ((3 : Int32) + (1 : Int32)), vR ed] []))
          rw [show ((3 : Int32) + (1 : Int32)) = (4 : Int32) from by decide]
          show Go p e below _ (T_95.setTop (mkF m 42 #[vR a1, vR ec, vR r_4, vI 4, vI 4, vR ed] []))
          refine Go.step (fun _ k => XS.goto X_95.here hx rfl (pc0 := 42) (pc' := 12) rfl (hb hby d_prog_8_method_5_code_42) (by decide) (by decide) k) ?_
          show Go p e below _ (T_95.setTop (mkF m 12 #[vR a1, vR ec, vR r_4, vI 4, vI 4, vR ed] []))
          refine Go.step (fun _ k => XS.iload X_95.here hx rfl (hb hby d_prog_8_method_5_code_12) rfl  k) ?_
          refine Go.step (fun _ k => XS.iloadN X_95.here hx rfl (hb hby d_prog_8_method_5_code_14) rfl  k) ?_
          show Go p e below _ (T_95.setTop (mkF m 15 #[vR a1, vR ec, vR r_4, vI 4, vI 4, vR ed] [(.int (4 : Int32)), (.int (4 : Int32))]))
          refine Go.step (fun _ k => XS.icmpYes X_95.here hx rfl (pc0 := 15) (pc' := 45) rfl (hb hby d_prog_8_method_5_code_15) rfl (flt ((by decide) : ¬ ((4 : Int32) < (4 : Int32)))).2.1 (by decide) (by decide) k) ?_
          show Go p e below _ (T_95.setTop (mkF m 45 #[vR a1, vR ec, vR r_4, vI 4, vI 4, vR ed] []))
          refine Go.step (fun _ k => XS.aloadN X_95.here hx rfl (hb hby d_prog_8_method_5_code_45) rfl rfl k) ?_
          show Go p e below _ (T_95.setTop (mkF m 46 #[vR a1, vR ec, vR r_4, vI 4, vI 4, vR ed] [(.ref ec)]))
          exact Go.retV X_95 hx hlk hret rfl (Or.inr (Or.inr (Or.inr (Or.inr ⟨rfl, rfl, rfl⟩)))) (hb hby d_prog_8_method_5_code_46) (by decide) (by decide) (by rw [e_95]; exact ⟨(absurd (y1.trans y2.symm) (by decide)), N_95, KP_4⟩)
      · skip
        refine Go.step (fun _ k => XS.ifYes X_87.here hx rfl (pc0 := 33) (pc' := 39) rfl (hb hby d_prog_8_method_5_code_33) rfl ((if0 _ _).trans (teq (b01_eq y2)).1) (by decide) (by decide) k) ?_
        show Go p e below _ (T_87.setTop (mkF m 39 #[vR a1, vR eb, vR r_4, vI 4, vI 2, vR ec] []))
        refine Go.step (fun _ k => XS.iinc X_87.here hx rfl (hb hby d_prog_8_method_5_code_39) rfl (l' := #[vR a1, vR eb, vR r_4, vI 4, vI ((2 : Int32) + (1 : Int32)), vR ec]) rfl k) ?_
        show Go p e below _ (T_87.setTop (mkF m 42 #[vR a1, vR eb, vR r_4, vI 4, vI ((2 : Int32) + (1 : Int32)), vR ec] []))
        rw [show ((2 : Int32) + (1 : Int32)) = (3 : Int32) from by decide]
        show Go p e below _ (T_87.setTop (mkF m 42 #[vR a1, vR eb, vR r_4, vI 4, vI 3, vR ec] []))
        refine Go.step (fun _ k => XS.goto X_87.here hx rfl (pc0 := 42) (pc' := 12) rfl (hb hby d_prog_8_method_5_code_42) (by decide) (by decide) k) ?_
        show Go p e below _ (T_87.setTop (mkF m 12 #[vR a1, vR eb, vR r_4, vI 4, vI 3, vR ec] []))
        refine Go.step (fun _ k => XS.iload X_87.here hx rfl (hb hby d_prog_8_method_5_code_12) rfl  k) ?_
        refine Go.step (fun _ k => XS.iloadN X_87.here hx rfl (hb hby d_prog_8_method_5_code_14) rfl  k) ?_
        show Go p e below _ (T_87.setTop (mkF m 15 #[vR a1, vR eb, vR r_4, vI 4, vI 3, vR ec] [(.int (4 : Int32)), (.int (3 : Int32))]))
        refine Go.step (fun _ k => XS.icmpNo X_87.here hx rfl (hb hby d_prog_8_method_5_code_15) rfl (tlt ((by decide) : (3 : Int32) < (4 : Int32))).2.1 k) ?_
        show Go p e below _ (T_87.setTop (mkF m 18 #[vR a1, vR eb, vR r_4, vI 4, vI 3, vR ec] []))
        refine Go.step (fun _ k => XS.aloadN X_87.here hx rfl (hb hby d_prog_8_method_5_code_18) rfl rfl k) ?_
        refine Go.step (fun _ k => XS.iload X_87.here hx rfl (hb hby d_prog_8_method_5_code_19) rfl  k) ?_
        show Go p e below _ (T_87.setTop (mkF m 21 #[vR a1, vR eb, vR r_4, vI 4, vI 3, vR ec] [(.int (3 : Int32)), (.ref r_4)]))
        have cp97 := u1_4
        obtain ⟨cl_96, Ar_96, -, Sz_96, -, Hs_96, -⟩ := cp97
        have hin_96 : ¬ ((3 : Int32) < 0 ∨ cl_96.slots.size ≤ ((3 : Int32)).toNatClampNeg) := (inb_of Sz_96 ⟨by decide, by decide⟩)
        have hat_96 : cl_96.slots[((3 : Int32)).toNatClampNeg]? = some (.ref ed) := (Hs_96.at (inb_of Sz_96 ⟨by decide, by decide⟩) rfl)
        refine Go.step (fun _ k => X_87.aaload hx (j := (3 : Int32)) (v := (.ref ed)) (by rw [e_87]; exact Ar_96.1) (State.isArrayOf_alike hZ.alike Ar_96.2.1) rfl Ar_96.2.2 hin_96 hat_96 (g := (mkF m 21 #[vR a1, vR eb, vR r_4, vI 4, vI 3, vR ec] [(.int (3 : Int32)), (.ref r_4)])) rfl rfl (hb hby d_prog_8_method_5_code_21) _ k) ?_
        show Go p e below _ (T_87.setTop (mkF m 22 #[vR a1, vR eb, vR r_4, vI 4, vI 3, vR ec] [(.ref ed)]))
        refine Go.step (fun _ k => XS.astore X_87.here hx rfl (hb hby d_prog_8_method_5_code_22) rfl rfl (l' := #[vR a1, vR eb, vR r_4, vI 4, vI 3, vR ed]) rfl k) ?_
        show Go p e below _ (T_87.setTop (mkF m 24 #[vR a1, vR eb, vR r_4, vI 4, vI 3, vR ed] []))
        refine Go.step (fun _ k => XS.aload X_87.here hx rfl (hb hby d_prog_8_method_5_code_24) rfl rfl k) ?_
        show Go p e below _ (T_87.setTop (mkF m 26 #[vR a1, vR eb, vR r_4, vI 4, vI 3, vR ed] [(.ref ed)]))
        obtain ⟨T_98, X_98, e_98, st_98⟩ := getF X_87 hx hZ hown (host := "") (Or.inl (wd_99 hw)) Via.refl e_87 (F_ed.ext O_4.2) (g := (mkF m 26 #[vR a1, vR eb, vR r_4, vI 4, vI 3, vR ed] [(.ref ed)])) rfl rfl (hb hby d_prog_8_method_5_code_26)
        refine Go.step st_98 ?_
        show Go p e below _ (T_98.setTop (mkF m 29 #[vR a1, vR eb, vR r_4, vI 4, vI 3, vR ed] [(.ref wd)]))
        refine Go.step (fun _ k => XS.aloadN X_98.here hx rfl (hb hby d_prog_8_method_5_code_29) rfl rfl k) ?_
        show Go p e below _ (T_98.setTop (mkF m 30 #[vR a1, vR eb, vR r_4, vI 4, vI 3, vR ed] [(.ref a1), (.ref wd)]))
        have cp99 := (S_wd.ext O_4.2)
        obtain ⟨t100, kb100, -, -, Ex100, Fv100, Fc100, Av100, hl100, hn100⟩ := cp99
        have cp101 := f12
        obtain ⟨t102, kb102, -, -, Ex102, Fv102, Fc102, Av102, hl102, hn102⟩ := cp101
        obtain ⟨v_103, T_103, L_103, X_103, hQ_103, st_103⟩ := goV X_98 hx hZ (y := Y_1) (z := Y_1) (kc := 0) (ks := 0) (QQ := fun v h' L => ((v = some (.int 1) ∧ ([(101 : Int32), (120 : Int32), (112 : Int32), (105 : Int32), (114 : Int32), (101 : Int32), (100 : Int32)] : List Int32) = cs) ∨ (v = some (.int 0) ∧ ¬ ([(101 : Int32), (120 : Int32), (112 : Int32), (105 : Int32), (114 : Int32), (101 : Int32), (100 : Int32)] : List Int32) = cs)) ∧ L = [] ∧ h' = T_4.heap) hown (wd_101 hw) (wd_102 hw) (notFace_of_selects (args := #[]) (mvT hZ (wd_104 hw))) (wd_104 hw) (wd_103 hw) (by decide) (StrChars.Road.eqW (W := 0) hZ (sw_wordsEq hw) (kI := 4) (wd_2 hw) Ex100 Fv100 Fc100 Av100 (StrChars.Road.codOf rfl (fun c hc => (hl100 c hc).2)) (up255 hl100) hn100 Ex102 Fv102 Fc102 Av102 (StrChars.Road.codOf rfl (fun c hc => (hl102 c hc).2)) (up255 hl102) hn102 (S_cs.ext O_4.2) n_cs (by decide) (by decide)) e_98 Ex100 (g := (mkF m 30 #[vR a1, vR eb, vR r_4, vI 4, vI 3, vR ed] [(.ref a1), (.ref wd)])) rfl (by rw [hml]; rfl) (argsL := [(.ref a1)]) (rest := []) rfl (lenOf pd_1 rfl) rfl (by show 2 * 0 + _ ≤ _; exact Nat.le_of_eq rfl) (hb hby d_prog_8_method_5_code_30) (by decide) (by decide)
        obtain ⟨hv_103, rfl, e_103⟩ := hQ_103
        obtain rfl := eqv_if hv_103
        have N_103 := Fr.app N_87 (Fr.nil n0)
        refine Go.step st_103 ?_
        show Go p e below _ (T_103.setTop (mkF m 33 #[vR a1, vR eb, vR r_4, vI 4, vI 3, vR ed] [(.int (if ([(101 : Int32), (120 : Int32), (112 : Int32), (105 : Int32), (114 : Int32), (101 : Int32), (100 : Int32)] : List Int32) = cs then (1 : Int32) else 0))]))
        by_cases y3 : ([(101 : Int32), (120 : Int32), (112 : Int32), (105 : Int32), (114 : Int32), (101 : Int32), (100 : Int32)] : List Int32) = cs
        · skip
          refine Go.step (fun _ k => XS.ifNo X_103.here hx rfl (hb hby d_prog_8_method_5_code_33) rfl ((if0 _ _).trans (feq (b01_ne y3)).1) k) ?_
          show Go p e below _ (T_103.setTop (mkF m 36 #[vR a1, vR eb, vR r_4, vI 4, vI 3, vR ed] []))
          refine Go.step (fun _ k => XS.aload X_103.here hx rfl (hb hby d_prog_8_method_5_code_36) rfl rfl k) ?_
          show Go p e below _ (T_103.setTop (mkF m 38 #[vR a1, vR eb, vR r_4, vI 4, vI 3, vR ed] [(.ref ed)]))
          refine Go.step (fun _ k => XS.astoreN X_103.here hx rfl (hb hby d_prog_8_method_5_code_38) rfl rfl (l' := #[vR a1, vR ed, vR r_4, vI 4, vI 3, vR ed]) rfl k) ?_
          show Go p e below _ (T_103.setTop (mkF m 39 #[vR a1, vR ed, vR r_4, vI 4, vI 3, vR ed] []))
          refine Go.step (fun _ k => XS.iinc X_103.here hx rfl (hb hby d_prog_8_method_5_code_39) rfl (l' := #[vR a1, vR ed, vR r_4, vI 4, vI ((3 : Int32) + (1 : Int32)), vR ed]) rfl k) ?_
          show Go p e below _ (T_103.setTop (mkF m 42 #[vR a1, vR ed, vR r_4, vI 4, vI ((3 : Int32) + (1 : Int32)), vR ed] []))
          rw [show ((3 : Int32) + (1 : Int32)) = (4 : Int32) from by decide]
          show Go p e below _ (T_103.setTop (mkF m 42 #[vR a1, vR ed, vR r_4, vI 4, vI 4, vR ed] []))
          refine Go.step (fun _ k => XS.goto X_103.here hx rfl (pc0 := 42) (pc' := 12) rfl (hb hby d_prog_8_method_5_code_42) (by decide) (by decide) k) ?_
          show Go p e below _ (T_103.setTop (mkF m 12 #[vR a1, vR ed, vR r_4, vI 4, vI 4, vR ed] []))
          refine Go.step (fun _ k => XS.iload X_103.here hx rfl (hb hby d_prog_8_method_5_code_12) rfl  k) ?_
          refine Go.step (fun _ k => XS.iloadN X_103.here hx rfl (hb hby d_prog_8_method_5_code_14) rfl  k) ?_
          show Go p e below _ (T_103.setTop (mkF m 15 #[vR a1, vR ed, vR r_4, vI 4, vI 4, vR ed] [(.int (4 : Int32)), (.int (4 : Int32))]))
          refine Go.step (fun _ k => XS.icmpYes X_103.here hx rfl (pc0 := 15) (pc' := 45) rfl (hb hby d_prog_8_method_5_code_15) rfl (flt ((by decide) : ¬ ((4 : Int32) < (4 : Int32)))).2.1 (by decide) (by decide) k) ?_
          show Go p e below _ (T_103.setTop (mkF m 45 #[vR a1, vR ed, vR r_4, vI 4, vI 4, vR ed] []))
          refine Go.step (fun _ k => XS.aloadN X_103.here hx rfl (hb hby d_prog_8_method_5_code_45) rfl rfl k) ?_
          show Go p e below _ (T_103.setTop (mkF m 46 #[vR a1, vR ed, vR r_4, vI 4, vI 4, vR ed] [(.ref ed)]))
          exact Go.retV X_103 hx hlk hret rfl (Or.inr (Or.inr (Or.inr (Or.inr ⟨rfl, rfl, rfl⟩)))) (hb hby d_prog_8_method_5_code_46) (by decide) (by decide) (by rw [e_103]; exact ⟨(absurd (y1.trans y3.symm) (by decide)), N_103, KP_4⟩)
        · skip
          refine Go.step (fun _ k => XS.ifYes X_103.here hx rfl (pc0 := 33) (pc' := 39) rfl (hb hby d_prog_8_method_5_code_33) rfl ((if0 _ _).trans (teq (b01_eq y3)).1) (by decide) (by decide) k) ?_
          show Go p e below _ (T_103.setTop (mkF m 39 #[vR a1, vR eb, vR r_4, vI 4, vI 3, vR ed] []))
          refine Go.step (fun _ k => XS.iinc X_103.here hx rfl (hb hby d_prog_8_method_5_code_39) rfl (l' := #[vR a1, vR eb, vR r_4, vI 4, vI ((3 : Int32) + (1 : Int32)), vR ed]) rfl k) ?_
          show Go p e below _ (T_103.setTop (mkF m 42 #[vR a1, vR eb, vR r_4, vI 4, vI ((3 : Int32) + (1 : Int32)), vR ed] []))
          rw [show ((3 : Int32) + (1 : Int32)) = (4 : Int32) from by decide]
          show Go p e below _ (T_103.setTop (mkF m 42 #[vR a1, vR eb, vR r_4, vI 4, vI 4, vR ed] []))
          refine Go.step (fun _ k => XS.goto X_103.here hx rfl (pc0 := 42) (pc' := 12) rfl (hb hby d_prog_8_method_5_code_42) (by decide) (by decide) k) ?_
          show Go p e below _ (T_103.setTop (mkF m 12 #[vR a1, vR eb, vR r_4, vI 4, vI 4, vR ed] []))
          refine Go.step (fun _ k => XS.iload X_103.here hx rfl (hb hby d_prog_8_method_5_code_12) rfl  k) ?_
          refine Go.step (fun _ k => XS.iloadN X_103.here hx rfl (hb hby d_prog_8_method_5_code_14) rfl  k) ?_
          show Go p e below _ (T_103.setTop (mkF m 15 #[vR a1, vR eb, vR r_4, vI 4, vI 4, vR ed] [(.int (4 : Int32)), (.int (4 : Int32))]))
          refine Go.step (fun _ k => XS.icmpYes X_103.here hx rfl (pc0 := 15) (pc' := 45) rfl (hb hby d_prog_8_method_5_code_15) rfl (flt ((by decide) : ¬ ((4 : Int32) < (4 : Int32)))).2.1 (by decide) (by decide) k) ?_
          show Go p e below _ (T_103.setTop (mkF m 45 #[vR a1, vR eb, vR r_4, vI 4, vI 4, vR ed] []))
          refine Go.step (fun _ k => XS.aloadN X_103.here hx rfl (hb hby d_prog_8_method_5_code_45) rfl rfl k) ?_
          show Go p e below _ (T_103.setTop (mkF m 46 #[vR a1, vR eb, vR r_4, vI 4, vI 4, vR ed] [(.ref eb)]))
          exact Go.retV X_103 hx hlk hret rfl (Or.inr (Or.inr (Or.inr (Or.inr ⟨rfl, rfl, rfl⟩)))) (hb hby d_prog_8_method_5_code_46) (by decide) (by decide) (by rw [e_103]; exact ⟨(by rw [fwv, if_neg (fun q => y0 q.symm), if_pos y1.symm]), N_103, KP_4⟩)
    · skip
      refine Go.step (fun _ k => XS.ifYes X_79.here hx rfl (pc0 := 33) (pc' := 39) rfl (hb hby d_prog_8_method_5_code_33) rfl ((if0 _ _).trans (teq (b01_eq y1)).1) (by decide) (by decide) k) ?_
      show Go p e below _ (T_79.setTop (mkF m 39 #[vR a1, .val .null, vR r_4, vI 4, vI 1, vR eb] []))
      refine Go.step (fun _ k => XS.iinc X_79.here hx rfl (hb hby d_prog_8_method_5_code_39) rfl (l' := #[vR a1, .val .null, vR r_4, vI 4, vI ((1 : Int32) + (1 : Int32)), vR eb]) rfl k) ?_
      show Go p e below _ (T_79.setTop (mkF m 42 #[vR a1, .val .null, vR r_4, vI 4, vI ((1 : Int32) + (1 : Int32)), vR eb] []))
      rw [show ((1 : Int32) + (1 : Int32)) = (2 : Int32) from by decide]
      show Go p e below _ (T_79.setTop (mkF m 42 #[vR a1, .val .null, vR r_4, vI 4, vI 2, vR eb] []))
      refine Go.step (fun _ k => XS.goto X_79.here hx rfl (pc0 := 42) (pc' := 12) rfl (hb hby d_prog_8_method_5_code_42) (by decide) (by decide) k) ?_
      show Go p e below _ (T_79.setTop (mkF m 12 #[vR a1, .val .null, vR r_4, vI 4, vI 2, vR eb] []))
      refine Go.step (fun _ k => XS.iload X_79.here hx rfl (hb hby d_prog_8_method_5_code_12) rfl  k) ?_
      refine Go.step (fun _ k => XS.iloadN X_79.here hx rfl (hb hby d_prog_8_method_5_code_14) rfl  k) ?_
      show Go p e below _ (T_79.setTop (mkF m 15 #[vR a1, .val .null, vR r_4, vI 4, vI 2, vR eb] [(.int (4 : Int32)), (.int (2 : Int32))]))
      refine Go.step (fun _ k => XS.icmpNo X_79.here hx rfl (hb hby d_prog_8_method_5_code_15) rfl (tlt ((by decide) : (2 : Int32) < (4 : Int32))).2.1 k) ?_
      show Go p e below _ (T_79.setTop (mkF m 18 #[vR a1, .val .null, vR r_4, vI 4, vI 2, vR eb] []))
      refine Go.step (fun _ k => XS.aloadN X_79.here hx rfl (hb hby d_prog_8_method_5_code_18) rfl rfl k) ?_
      refine Go.step (fun _ k => XS.iload X_79.here hx rfl (hb hby d_prog_8_method_5_code_19) rfl  k) ?_
      show Go p e below _ (T_79.setTop (mkF m 21 #[vR a1, .val .null, vR r_4, vI 4, vI 2, vR eb] [(.int (2 : Int32)), (.ref r_4)]))
      have cp105 := u1_4
      obtain ⟨cl_104, Ar_104, -, Sz_104, -, Hs_104, -⟩ := cp105
      have hin_104 : ¬ ((2 : Int32) < 0 ∨ cl_104.slots.size ≤ ((2 : Int32)).toNatClampNeg) := (inb_of Sz_104 ⟨by decide, by decide⟩)
      have hat_104 : cl_104.slots[((2 : Int32)).toNatClampNeg]? = some (.ref ec) := (Hs_104.at (inb_of Sz_104 ⟨by decide, by decide⟩) rfl)
      refine Go.step (fun _ k => X_79.aaload hx (j := (2 : Int32)) (v := (.ref ec)) (by rw [e_79]; exact Ar_104.1) (State.isArrayOf_alike hZ.alike Ar_104.2.1) rfl Ar_104.2.2 hin_104 hat_104 (g := (mkF m 21 #[vR a1, .val .null, vR r_4, vI 4, vI 2, vR eb] [(.int (2 : Int32)), (.ref r_4)])) rfl rfl (hb hby d_prog_8_method_5_code_21) _ k) ?_
      show Go p e below _ (T_79.setTop (mkF m 22 #[vR a1, .val .null, vR r_4, vI 4, vI 2, vR eb] [(.ref ec)]))
      refine Go.step (fun _ k => XS.astore X_79.here hx rfl (hb hby d_prog_8_method_5_code_22) rfl rfl (l' := #[vR a1, .val .null, vR r_4, vI 4, vI 2, vR ec]) rfl k) ?_
      show Go p e below _ (T_79.setTop (mkF m 24 #[vR a1, .val .null, vR r_4, vI 4, vI 2, vR ec] []))
      refine Go.step (fun _ k => XS.aload X_79.here hx rfl (hb hby d_prog_8_method_5_code_24) rfl rfl k) ?_
      show Go p e below _ (T_79.setTop (mkF m 26 #[vR a1, .val .null, vR r_4, vI 4, vI 2, vR ec] [(.ref ec)]))
      obtain ⟨T_106, X_106, e_106, st_106⟩ := getF X_79 hx hZ hown (host := "") (Or.inl (wd_99 hw)) Via.refl e_79 (F_ec.ext O_4.2) (g := (mkF m 26 #[vR a1, .val .null, vR r_4, vI 4, vI 2, vR ec] [(.ref ec)])) rfl rfl (hb hby d_prog_8_method_5_code_26)
      refine Go.step st_106 ?_
      show Go p e below _ (T_106.setTop (mkF m 29 #[vR a1, .val .null, vR r_4, vI 4, vI 2, vR ec] [(.ref wc)]))
      refine Go.step (fun _ k => XS.aloadN X_106.here hx rfl (hb hby d_prog_8_method_5_code_29) rfl rfl k) ?_
      show Go p e below _ (T_106.setTop (mkF m 30 #[vR a1, .val .null, vR r_4, vI 4, vI 2, vR ec] [(.ref a1), (.ref wc)]))
      have cp107 := (S_wc.ext O_4.2)
      obtain ⟨t108, kb108, -, -, Ex108, Fv108, Fc108, Av108, hl108, hn108⟩ := cp107
      have cp109 := f12
      obtain ⟨t110, kb110, -, -, Ex110, Fv110, Fc110, Av110, hl110, hn110⟩ := cp109
      obtain ⟨v_111, T_111, L_111, X_111, hQ_111, st_111⟩ := goV X_106 hx hZ (y := Y_1) (z := Y_1) (kc := 0) (ks := 0) (QQ := fun v h' L => ((v = some (.int 1) ∧ ([(118 : Int32), (111 : Int32), (105 : Int32), (100 : Int32), (101 : Int32), (100 : Int32)] : List Int32) = cs) ∨ (v = some (.int 0) ∧ ¬ ([(118 : Int32), (111 : Int32), (105 : Int32), (100 : Int32), (101 : Int32), (100 : Int32)] : List Int32) = cs)) ∧ L = [] ∧ h' = T_4.heap) hown (wd_101 hw) (wd_102 hw) (notFace_of_selects (args := #[]) (mvT hZ (wd_104 hw))) (wd_104 hw) (wd_103 hw) (by decide) (StrChars.Road.eqW (W := 0) hZ (sw_wordsEq hw) (kI := 4) (wd_2 hw) Ex108 Fv108 Fc108 Av108 (StrChars.Road.codOf rfl (fun c hc => (hl108 c hc).2)) (up255 hl108) hn108 Ex110 Fv110 Fc110 Av110 (StrChars.Road.codOf rfl (fun c hc => (hl110 c hc).2)) (up255 hl110) hn110 (S_cs.ext O_4.2) n_cs (by decide) (by decide)) e_106 Ex108 (g := (mkF m 30 #[vR a1, .val .null, vR r_4, vI 4, vI 2, vR ec] [(.ref a1), (.ref wc)])) rfl (by rw [hml]; rfl) (argsL := [(.ref a1)]) (rest := []) rfl (lenOf pd_1 rfl) rfl (by show 2 * 0 + _ ≤ _; exact Nat.le_of_eq rfl) (hb hby d_prog_8_method_5_code_30) (by decide) (by decide)
      obtain ⟨hv_111, rfl, e_111⟩ := hQ_111
      obtain rfl := eqv_if hv_111
      have N_111 := Fr.app N_79 (Fr.nil n0)
      refine Go.step st_111 ?_
      show Go p e below _ (T_111.setTop (mkF m 33 #[vR a1, .val .null, vR r_4, vI 4, vI 2, vR ec] [(.int (if ([(118 : Int32), (111 : Int32), (105 : Int32), (100 : Int32), (101 : Int32), (100 : Int32)] : List Int32) = cs then (1 : Int32) else 0))]))
      by_cases y2 : ([(118 : Int32), (111 : Int32), (105 : Int32), (100 : Int32), (101 : Int32), (100 : Int32)] : List Int32) = cs
      · skip
        refine Go.step (fun _ k => XS.ifNo X_111.here hx rfl (hb hby d_prog_8_method_5_code_33) rfl ((if0 _ _).trans (feq (b01_ne y2)).1) k) ?_
        show Go p e below _ (T_111.setTop (mkF m 36 #[vR a1, .val .null, vR r_4, vI 4, vI 2, vR ec] []))
        refine Go.step (fun _ k => XS.aload X_111.here hx rfl (hb hby d_prog_8_method_5_code_36) rfl rfl k) ?_
        show Go p e below _ (T_111.setTop (mkF m 38 #[vR a1, .val .null, vR r_4, vI 4, vI 2, vR ec] [(.ref ec)]))
        refine Go.step (fun _ k => XS.astoreN X_111.here hx rfl (hb hby d_prog_8_method_5_code_38) rfl rfl (l' := #[vR a1, vR ec, vR r_4, vI 4, vI 2, vR ec]) rfl k) ?_
        show Go p e below _ (T_111.setTop (mkF m 39 #[vR a1, vR ec, vR r_4, vI 4, vI 2, vR ec] []))
        refine Go.step (fun _ k => XS.iinc X_111.here hx rfl (hb hby d_prog_8_method_5_code_39) rfl (l' := #[vR a1, vR ec, vR r_4, vI 4, vI ((2 : Int32) + (1 : Int32)), vR ec]) rfl k) ?_
        show Go p e below _ (T_111.setTop (mkF m 42 #[vR a1, vR ec, vR r_4, vI 4, vI ((2 : Int32) + (1 : Int32)), vR ec] []))
        rw [show ((2 : Int32) + (1 : Int32)) = (3 : Int32) from by decide]
        show Go p e below _ (T_111.setTop (mkF m 42 #[vR a1, vR ec, vR r_4, vI 4, vI 3, vR ec] []))
        refine Go.step (fun _ k => XS.goto X_111.here hx rfl (pc0 := 42) (pc' := 12) rfl (hb hby d_prog_8_method_5_code_42) (by decide) (by decide) k) ?_
        show Go p e below _ (T_111.setTop (mkF m 12 #[vR a1, vR ec, vR r_4, vI 4, vI 3, vR ec] []))
        refine Go.step (fun _ k => XS.iload X_111.here hx rfl (hb hby d_prog_8_method_5_code_12) rfl  k) ?_
        refine Go.step (fun _ k => XS.iloadN X_111.here hx rfl (hb hby d_prog_8_method_5_code_14) rfl  k) ?_
        show Go p e below _ (T_111.setTop (mkF m 15 #[vR a1, vR ec, vR r_4, vI 4, vI 3, vR ec] [(.int (4 : Int32)), (.int (3 : Int32))]))
        refine Go.step (fun _ k => XS.icmpNo X_111.here hx rfl (hb hby d_prog_8_method_5_code_15) rfl (tlt ((by decide) : (3 : Int32) < (4 : Int32))).2.1 k) ?_
        show Go p e below _ (T_111.setTop (mkF m 18 #[vR a1, vR ec, vR r_4, vI 4, vI 3, vR ec] []))
        refine Go.step (fun _ k => XS.aloadN X_111.here hx rfl (hb hby d_prog_8_method_5_code_18) rfl rfl k) ?_
        refine Go.step (fun _ k => XS.iload X_111.here hx rfl (hb hby d_prog_8_method_5_code_19) rfl  k) ?_
        show Go p e below _ (T_111.setTop (mkF m 21 #[vR a1, vR ec, vR r_4, vI 4, vI 3, vR ec] [(.int (3 : Int32)), (.ref r_4)]))
        have cp113 := u1_4
        obtain ⟨cl_112, Ar_112, -, Sz_112, -, Hs_112, -⟩ := cp113
        have hin_112 : ¬ ((3 : Int32) < 0 ∨ cl_112.slots.size ≤ ((3 : Int32)).toNatClampNeg) := (inb_of Sz_112 ⟨by decide, by decide⟩)
        have hat_112 : cl_112.slots[((3 : Int32)).toNatClampNeg]? = some (.ref ed) := (Hs_112.at (inb_of Sz_112 ⟨by decide, by decide⟩) rfl)
        refine Go.step (fun _ k => X_111.aaload hx (j := (3 : Int32)) (v := (.ref ed)) (by rw [e_111]; exact Ar_112.1) (State.isArrayOf_alike hZ.alike Ar_112.2.1) rfl Ar_112.2.2 hin_112 hat_112 (g := (mkF m 21 #[vR a1, vR ec, vR r_4, vI 4, vI 3, vR ec] [(.int (3 : Int32)), (.ref r_4)])) rfl rfl (hb hby d_prog_8_method_5_code_21) _ k) ?_
        show Go p e below _ (T_111.setTop (mkF m 22 #[vR a1, vR ec, vR r_4, vI 4, vI 3, vR ec] [(.ref ed)]))
        refine Go.step (fun _ k => XS.astore X_111.here hx rfl (hb hby d_prog_8_method_5_code_22) rfl rfl (l' := #[vR a1, vR ec, vR r_4, vI 4, vI 3, vR ed]) rfl k) ?_
        show Go p e below _ (T_111.setTop (mkF m 24 #[vR a1, vR ec, vR r_4, vI 4, vI 3, vR ed] []))
        refine Go.step (fun _ k => XS.aload X_111.here hx rfl (hb hby d_prog_8_method_5_code_24) rfl rfl k) ?_
        show Go p e below _ (T_111.setTop (mkF m 26 #[vR a1, vR ec, vR r_4, vI 4, vI 3, vR ed] [(.ref ed)]))
        obtain ⟨T_114, X_114, e_114, st_114⟩ := getF X_111 hx hZ hown (host := "") (Or.inl (wd_99 hw)) Via.refl e_111 (F_ed.ext O_4.2) (g := (mkF m 26 #[vR a1, vR ec, vR r_4, vI 4, vI 3, vR ed] [(.ref ed)])) rfl rfl (hb hby d_prog_8_method_5_code_26)
        refine Go.step st_114 ?_
        show Go p e below _ (T_114.setTop (mkF m 29 #[vR a1, vR ec, vR r_4, vI 4, vI 3, vR ed] [(.ref wd)]))
        refine Go.step (fun _ k => XS.aloadN X_114.here hx rfl (hb hby d_prog_8_method_5_code_29) rfl rfl k) ?_
        show Go p e below _ (T_114.setTop (mkF m 30 #[vR a1, vR ec, vR r_4, vI 4, vI 3, vR ed] [(.ref a1), (.ref wd)]))
        have cp115 := (S_wd.ext O_4.2)
        obtain ⟨t116, kb116, -, -, Ex116, Fv116, Fc116, Av116, hl116, hn116⟩ := cp115
        have cp117 := f12
        obtain ⟨t118, kb118, -, -, Ex118, Fv118, Fc118, Av118, hl118, hn118⟩ := cp117
        obtain ⟨v_119, T_119, L_119, X_119, hQ_119, st_119⟩ := goV X_114 hx hZ (y := Y_1) (z := Y_1) (kc := 0) (ks := 0) (QQ := fun v h' L => ((v = some (.int 1) ∧ ([(101 : Int32), (120 : Int32), (112 : Int32), (105 : Int32), (114 : Int32), (101 : Int32), (100 : Int32)] : List Int32) = cs) ∨ (v = some (.int 0) ∧ ¬ ([(101 : Int32), (120 : Int32), (112 : Int32), (105 : Int32), (114 : Int32), (101 : Int32), (100 : Int32)] : List Int32) = cs)) ∧ L = [] ∧ h' = T_4.heap) hown (wd_101 hw) (wd_102 hw) (notFace_of_selects (args := #[]) (mvT hZ (wd_104 hw))) (wd_104 hw) (wd_103 hw) (by decide) (StrChars.Road.eqW (W := 0) hZ (sw_wordsEq hw) (kI := 4) (wd_2 hw) Ex116 Fv116 Fc116 Av116 (StrChars.Road.codOf rfl (fun c hc => (hl116 c hc).2)) (up255 hl116) hn116 Ex118 Fv118 Fc118 Av118 (StrChars.Road.codOf rfl (fun c hc => (hl118 c hc).2)) (up255 hl118) hn118 (S_cs.ext O_4.2) n_cs (by decide) (by decide)) e_114 Ex116 (g := (mkF m 30 #[vR a1, vR ec, vR r_4, vI 4, vI 3, vR ed] [(.ref a1), (.ref wd)])) rfl (by rw [hml]; rfl) (argsL := [(.ref a1)]) (rest := []) rfl (lenOf pd_1 rfl) rfl (by show 2 * 0 + _ ≤ _; exact Nat.le_of_eq rfl) (hb hby d_prog_8_method_5_code_30) (by decide) (by decide)
        obtain ⟨hv_119, rfl, e_119⟩ := hQ_119
        obtain rfl := eqv_if hv_119
        have N_119 := Fr.app N_111 (Fr.nil n0)
        refine Go.step st_119 ?_
        show Go p e below _ (T_119.setTop (mkF m 33 #[vR a1, vR ec, vR r_4, vI 4, vI 3, vR ed] [(.int (if ([(101 : Int32), (120 : Int32), (112 : Int32), (105 : Int32), (114 : Int32), (101 : Int32), (100 : Int32)] : List Int32) = cs then (1 : Int32) else 0))]))
        by_cases y3 : ([(101 : Int32), (120 : Int32), (112 : Int32), (105 : Int32), (114 : Int32), (101 : Int32), (100 : Int32)] : List Int32) = cs
        · skip
          refine Go.step (fun _ k => XS.ifNo X_119.here hx rfl (hb hby d_prog_8_method_5_code_33) rfl ((if0 _ _).trans (feq (b01_ne y3)).1) k) ?_
          show Go p e below _ (T_119.setTop (mkF m 36 #[vR a1, vR ec, vR r_4, vI 4, vI 3, vR ed] []))
          refine Go.step (fun _ k => XS.aload X_119.here hx rfl (hb hby d_prog_8_method_5_code_36) rfl rfl k) ?_
          show Go p e below _ (T_119.setTop (mkF m 38 #[vR a1, vR ec, vR r_4, vI 4, vI 3, vR ed] [(.ref ed)]))
          refine Go.step (fun _ k => XS.astoreN X_119.here hx rfl (hb hby d_prog_8_method_5_code_38) rfl rfl (l' := #[vR a1, vR ed, vR r_4, vI 4, vI 3, vR ed]) rfl k) ?_
          show Go p e below _ (T_119.setTop (mkF m 39 #[vR a1, vR ed, vR r_4, vI 4, vI 3, vR ed] []))
          refine Go.step (fun _ k => XS.iinc X_119.here hx rfl (hb hby d_prog_8_method_5_code_39) rfl (l' := #[vR a1, vR ed, vR r_4, vI 4, vI ((3 : Int32) + (1 : Int32)), vR ed]) rfl k) ?_
          show Go p e below _ (T_119.setTop (mkF m 42 #[vR a1, vR ed, vR r_4, vI 4, vI ((3 : Int32) + (1 : Int32)), vR ed] []))
          rw [show ((3 : Int32) + (1 : Int32)) = (4 : Int32) from by decide]
          show Go p e below _ (T_119.setTop (mkF m 42 #[vR a1, vR ed, vR r_4, vI 4, vI 4, vR ed] []))
          refine Go.step (fun _ k => XS.goto X_119.here hx rfl (pc0 := 42) (pc' := 12) rfl (hb hby d_prog_8_method_5_code_42) (by decide) (by decide) k) ?_
          show Go p e below _ (T_119.setTop (mkF m 12 #[vR a1, vR ed, vR r_4, vI 4, vI 4, vR ed] []))
          refine Go.step (fun _ k => XS.iload X_119.here hx rfl (hb hby d_prog_8_method_5_code_12) rfl  k) ?_
          refine Go.step (fun _ k => XS.iloadN X_119.here hx rfl (hb hby d_prog_8_method_5_code_14) rfl  k) ?_
          show Go p e below _ (T_119.setTop (mkF m 15 #[vR a1, vR ed, vR r_4, vI 4, vI 4, vR ed] [(.int (4 : Int32)), (.int (4 : Int32))]))
          refine Go.step (fun _ k => XS.icmpYes X_119.here hx rfl (pc0 := 15) (pc' := 45) rfl (hb hby d_prog_8_method_5_code_15) rfl (flt ((by decide) : ¬ ((4 : Int32) < (4 : Int32)))).2.1 (by decide) (by decide) k) ?_
          show Go p e below _ (T_119.setTop (mkF m 45 #[vR a1, vR ed, vR r_4, vI 4, vI 4, vR ed] []))
          refine Go.step (fun _ k => XS.aloadN X_119.here hx rfl (hb hby d_prog_8_method_5_code_45) rfl rfl k) ?_
          show Go p e below _ (T_119.setTop (mkF m 46 #[vR a1, vR ed, vR r_4, vI 4, vI 4, vR ed] [(.ref ed)]))
          exact Go.retV X_119 hx hlk hret rfl (Or.inr (Or.inr (Or.inr (Or.inr ⟨rfl, rfl, rfl⟩)))) (hb hby d_prog_8_method_5_code_46) (by decide) (by decide) (by rw [e_119]; exact ⟨(absurd (y2.trans y3.symm) (by decide)), N_119, KP_4⟩)
        · skip
          refine Go.step (fun _ k => XS.ifYes X_119.here hx rfl (pc0 := 33) (pc' := 39) rfl (hb hby d_prog_8_method_5_code_33) rfl ((if0 _ _).trans (teq (b01_eq y3)).1) (by decide) (by decide) k) ?_
          show Go p e below _ (T_119.setTop (mkF m 39 #[vR a1, vR ec, vR r_4, vI 4, vI 3, vR ed] []))
          refine Go.step (fun _ k => XS.iinc X_119.here hx rfl (hb hby d_prog_8_method_5_code_39) rfl (l' := #[vR a1, vR ec, vR r_4, vI 4, vI ((3 : Int32) + (1 : Int32)), vR ed]) rfl k) ?_
          show Go p e below _ (T_119.setTop (mkF m 42 #[vR a1, vR ec, vR r_4, vI 4, vI ((3 : Int32) + (1 : Int32)), vR ed] []))
          rw [show ((3 : Int32) + (1 : Int32)) = (4 : Int32) from by decide]
          show Go p e below _ (T_119.setTop (mkF m 42 #[vR a1, vR ec, vR r_4, vI 4, vI 4, vR ed] []))
          refine Go.step (fun _ k => XS.goto X_119.here hx rfl (pc0 := 42) (pc' := 12) rfl (hb hby d_prog_8_method_5_code_42) (by decide) (by decide) k) ?_
          show Go p e below _ (T_119.setTop (mkF m 12 #[vR a1, vR ec, vR r_4, vI 4, vI 4, vR ed] []))
          refine Go.step (fun _ k => XS.iload X_119.here hx rfl (hb hby d_prog_8_method_5_code_12) rfl  k) ?_
          refine Go.step (fun _ k => XS.iloadN X_119.here hx rfl (hb hby d_prog_8_method_5_code_14) rfl  k) ?_
          show Go p e below _ (T_119.setTop (mkF m 15 #[vR a1, vR ec, vR r_4, vI 4, vI 4, vR ed] [(.int (4 : Int32)), (.int (4 : Int32))]))
          refine Go.step (fun _ k => XS.icmpYes X_119.here hx rfl (pc0 := 15) (pc' := 45) rfl (hb hby d_prog_8_method_5_code_15) rfl (flt ((by decide) : ¬ ((4 : Int32) < (4 : Int32)))).2.1 (by decide) (by decide) k) ?_
          show Go p e below _ (T_119.setTop (mkF m 45 #[vR a1, vR ec, vR r_4, vI 4, vI 4, vR ed] []))
          refine Go.step (fun _ k => XS.aloadN X_119.here hx rfl (hb hby d_prog_8_method_5_code_45) rfl rfl k) ?_
          show Go p e below _ (T_119.setTop (mkF m 46 #[vR a1, vR ec, vR r_4, vI 4, vI 4, vR ed] [(.ref ec)]))
          exact Go.retV X_119 hx hlk hret rfl (Or.inr (Or.inr (Or.inr (Or.inr ⟨rfl, rfl, rfl⟩)))) (hb hby d_prog_8_method_5_code_46) (by decide) (by decide) (by rw [e_119]; exact ⟨(by rw [fwv, if_neg (fun q => y0 q.symm), if_neg (fun q => y1 q.symm), if_pos y2.symm]), N_119, KP_4⟩)
      · skip
        refine Go.step (fun _ k => XS.ifYes X_111.here hx rfl (pc0 := 33) (pc' := 39) rfl (hb hby d_prog_8_method_5_code_33) rfl ((if0 _ _).trans (teq (b01_eq y2)).1) (by decide) (by decide) k) ?_
        show Go p e below _ (T_111.setTop (mkF m 39 #[vR a1, .val .null, vR r_4, vI 4, vI 2, vR ec] []))
        refine Go.step (fun _ k => XS.iinc X_111.here hx rfl (hb hby d_prog_8_method_5_code_39) rfl (l' := #[vR a1, .val .null, vR r_4, vI 4, vI ((2 : Int32) + (1 : Int32)), vR ec]) rfl k) ?_
        show Go p e below _ (T_111.setTop (mkF m 42 #[vR a1, .val .null, vR r_4, vI 4, vI ((2 : Int32) + (1 : Int32)), vR ec] []))
        rw [show ((2 : Int32) + (1 : Int32)) = (3 : Int32) from by decide]
        show Go p e below _ (T_111.setTop (mkF m 42 #[vR a1, .val .null, vR r_4, vI 4, vI 3, vR ec] []))
        refine Go.step (fun _ k => XS.goto X_111.here hx rfl (pc0 := 42) (pc' := 12) rfl (hb hby d_prog_8_method_5_code_42) (by decide) (by decide) k) ?_
        show Go p e below _ (T_111.setTop (mkF m 12 #[vR a1, .val .null, vR r_4, vI 4, vI 3, vR ec] []))
        refine Go.step (fun _ k => XS.iload X_111.here hx rfl (hb hby d_prog_8_method_5_code_12) rfl  k) ?_
        refine Go.step (fun _ k => XS.iloadN X_111.here hx rfl (hb hby d_prog_8_method_5_code_14) rfl  k) ?_
        show Go p e below _ (T_111.setTop (mkF m 15 #[vR a1, .val .null, vR r_4, vI 4, vI 3, vR ec] [(.int (4 : Int32)), (.int (3 : Int32))]))
        refine Go.step (fun _ k => XS.icmpNo X_111.here hx rfl (hb hby d_prog_8_method_5_code_15) rfl (tlt ((by decide) : (3 : Int32) < (4 : Int32))).2.1 k) ?_
        show Go p e below _ (T_111.setTop (mkF m 18 #[vR a1, .val .null, vR r_4, vI 4, vI 3, vR ec] []))
        refine Go.step (fun _ k => XS.aloadN X_111.here hx rfl (hb hby d_prog_8_method_5_code_18) rfl rfl k) ?_
        refine Go.step (fun _ k => XS.iload X_111.here hx rfl (hb hby d_prog_8_method_5_code_19) rfl  k) ?_
        show Go p e below _ (T_111.setTop (mkF m 21 #[vR a1, .val .null, vR r_4, vI 4, vI 3, vR ec] [(.int (3 : Int32)), (.ref r_4)]))
        have cp121 := u1_4
        obtain ⟨cl_120, Ar_120, -, Sz_120, -, Hs_120, -⟩ := cp121
        have hin_120 : ¬ ((3 : Int32) < 0 ∨ cl_120.slots.size ≤ ((3 : Int32)).toNatClampNeg) := (inb_of Sz_120 ⟨by decide, by decide⟩)
        have hat_120 : cl_120.slots[((3 : Int32)).toNatClampNeg]? = some (.ref ed) := (Hs_120.at (inb_of Sz_120 ⟨by decide, by decide⟩) rfl)
        refine Go.step (fun _ k => X_111.aaload hx (j := (3 : Int32)) (v := (.ref ed)) (by rw [e_111]; exact Ar_120.1) (State.isArrayOf_alike hZ.alike Ar_120.2.1) rfl Ar_120.2.2 hin_120 hat_120 (g := (mkF m 21 #[vR a1, .val .null, vR r_4, vI 4, vI 3, vR ec] [(.int (3 : Int32)), (.ref r_4)])) rfl rfl (hb hby d_prog_8_method_5_code_21) _ k) ?_
        show Go p e below _ (T_111.setTop (mkF m 22 #[vR a1, .val .null, vR r_4, vI 4, vI 3, vR ec] [(.ref ed)]))
        refine Go.step (fun _ k => XS.astore X_111.here hx rfl (hb hby d_prog_8_method_5_code_22) rfl rfl (l' := #[vR a1, .val .null, vR r_4, vI 4, vI 3, vR ed]) rfl k) ?_
        show Go p e below _ (T_111.setTop (mkF m 24 #[vR a1, .val .null, vR r_4, vI 4, vI 3, vR ed] []))
        refine Go.step (fun _ k => XS.aload X_111.here hx rfl (hb hby d_prog_8_method_5_code_24) rfl rfl k) ?_
        show Go p e below _ (T_111.setTop (mkF m 26 #[vR a1, .val .null, vR r_4, vI 4, vI 3, vR ed] [(.ref ed)]))
        obtain ⟨T_122, X_122, e_122, st_122⟩ := getF X_111 hx hZ hown (host := "") (Or.inl (wd_99 hw)) Via.refl e_111 (F_ed.ext O_4.2) (g := (mkF m 26 #[vR a1, .val .null, vR r_4, vI 4, vI 3, vR ed] [(.ref ed)])) rfl rfl (hb hby d_prog_8_method_5_code_26)
        refine Go.step st_122 ?_
        show Go p e below _ (T_122.setTop (mkF m 29 #[vR a1, .val .null, vR r_4, vI 4, vI 3, vR ed] [(.ref wd)]))
        refine Go.step (fun _ k => XS.aloadN X_122.here hx rfl (hb hby d_prog_8_method_5_code_29) rfl rfl k) ?_
        show Go p e below _ (T_122.setTop (mkF m 30 #[vR a1, .val .null, vR r_4, vI 4, vI 3, vR ed] [(.ref a1), (.ref wd)]))
        have cp123 := (S_wd.ext O_4.2)
        obtain ⟨t124, kb124, -, -, Ex124, Fv124, Fc124, Av124, hl124, hn124⟩ := cp123
        have cp125 := f12
        obtain ⟨t126, kb126, -, -, Ex126, Fv126, Fc126, Av126, hl126, hn126⟩ := cp125
        obtain ⟨v_127, T_127, L_127, X_127, hQ_127, st_127⟩ := goV X_122 hx hZ (y := Y_1) (z := Y_1) (kc := 0) (ks := 0) (QQ := fun v h' L => ((v = some (.int 1) ∧ ([(101 : Int32), (120 : Int32), (112 : Int32), (105 : Int32), (114 : Int32), (101 : Int32), (100 : Int32)] : List Int32) = cs) ∨ (v = some (.int 0) ∧ ¬ ([(101 : Int32), (120 : Int32), (112 : Int32), (105 : Int32), (114 : Int32), (101 : Int32), (100 : Int32)] : List Int32) = cs)) ∧ L = [] ∧ h' = T_4.heap) hown (wd_101 hw) (wd_102 hw) (notFace_of_selects (args := #[]) (mvT hZ (wd_104 hw))) (wd_104 hw) (wd_103 hw) (by decide) (StrChars.Road.eqW (W := 0) hZ (sw_wordsEq hw) (kI := 4) (wd_2 hw) Ex124 Fv124 Fc124 Av124 (StrChars.Road.codOf rfl (fun c hc => (hl124 c hc).2)) (up255 hl124) hn124 Ex126 Fv126 Fc126 Av126 (StrChars.Road.codOf rfl (fun c hc => (hl126 c hc).2)) (up255 hl126) hn126 (S_cs.ext O_4.2) n_cs (by decide) (by decide)) e_122 Ex124 (g := (mkF m 30 #[vR a1, .val .null, vR r_4, vI 4, vI 3, vR ed] [(.ref a1), (.ref wd)])) rfl (by rw [hml]; rfl) (argsL := [(.ref a1)]) (rest := []) rfl (lenOf pd_1 rfl) rfl (by show 2 * 0 + _ ≤ _; exact Nat.le_of_eq rfl) (hb hby d_prog_8_method_5_code_30) (by decide) (by decide)
        obtain ⟨hv_127, rfl, e_127⟩ := hQ_127
        obtain rfl := eqv_if hv_127
        have N_127 := Fr.app N_111 (Fr.nil n0)
        refine Go.step st_127 ?_
        show Go p e below _ (T_127.setTop (mkF m 33 #[vR a1, .val .null, vR r_4, vI 4, vI 3, vR ed] [(.int (if ([(101 : Int32), (120 : Int32), (112 : Int32), (105 : Int32), (114 : Int32), (101 : Int32), (100 : Int32)] : List Int32) = cs then (1 : Int32) else 0))]))
        by_cases y3 : ([(101 : Int32), (120 : Int32), (112 : Int32), (105 : Int32), (114 : Int32), (101 : Int32), (100 : Int32)] : List Int32) = cs
        · skip
          refine Go.step (fun _ k => XS.ifNo X_127.here hx rfl (hb hby d_prog_8_method_5_code_33) rfl ((if0 _ _).trans (feq (b01_ne y3)).1) k) ?_
          show Go p e below _ (T_127.setTop (mkF m 36 #[vR a1, .val .null, vR r_4, vI 4, vI 3, vR ed] []))
          refine Go.step (fun _ k => XS.aload X_127.here hx rfl (hb hby d_prog_8_method_5_code_36) rfl rfl k) ?_
          show Go p e below _ (T_127.setTop (mkF m 38 #[vR a1, .val .null, vR r_4, vI 4, vI 3, vR ed] [(.ref ed)]))
          refine Go.step (fun _ k => XS.astoreN X_127.here hx rfl (hb hby d_prog_8_method_5_code_38) rfl rfl (l' := #[vR a1, vR ed, vR r_4, vI 4, vI 3, vR ed]) rfl k) ?_
          show Go p e below _ (T_127.setTop (mkF m 39 #[vR a1, vR ed, vR r_4, vI 4, vI 3, vR ed] []))
          refine Go.step (fun _ k => XS.iinc X_127.here hx rfl (hb hby d_prog_8_method_5_code_39) rfl (l' := #[vR a1, vR ed, vR r_4, vI 4, vI ((3 : Int32) + (1 : Int32)), vR ed]) rfl k) ?_
          show Go p e below _ (T_127.setTop (mkF m 42 #[vR a1, vR ed, vR r_4, vI 4, vI ((3 : Int32) + (1 : Int32)), vR ed] []))
          rw [show ((3 : Int32) + (1 : Int32)) = (4 : Int32) from by decide]
          show Go p e below _ (T_127.setTop (mkF m 42 #[vR a1, vR ed, vR r_4, vI 4, vI 4, vR ed] []))
          refine Go.step (fun _ k => XS.goto X_127.here hx rfl (pc0 := 42) (pc' := 12) rfl (hb hby d_prog_8_method_5_code_42) (by decide) (by decide) k) ?_
          show Go p e below _ (T_127.setTop (mkF m 12 #[vR a1, vR ed, vR r_4, vI 4, vI 4, vR ed] []))
          refine Go.step (fun _ k => XS.iload X_127.here hx rfl (hb hby d_prog_8_method_5_code_12) rfl  k) ?_
          refine Go.step (fun _ k => XS.iloadN X_127.here hx rfl (hb hby d_prog_8_method_5_code_14) rfl  k) ?_
          show Go p e below _ (T_127.setTop (mkF m 15 #[vR a1, vR ed, vR r_4, vI 4, vI 4, vR ed] [(.int (4 : Int32)), (.int (4 : Int32))]))
          refine Go.step (fun _ k => XS.icmpYes X_127.here hx rfl (pc0 := 15) (pc' := 45) rfl (hb hby d_prog_8_method_5_code_15) rfl (flt ((by decide) : ¬ ((4 : Int32) < (4 : Int32)))).2.1 (by decide) (by decide) k) ?_
          show Go p e below _ (T_127.setTop (mkF m 45 #[vR a1, vR ed, vR r_4, vI 4, vI 4, vR ed] []))
          refine Go.step (fun _ k => XS.aloadN X_127.here hx rfl (hb hby d_prog_8_method_5_code_45) rfl rfl k) ?_
          show Go p e below _ (T_127.setTop (mkF m 46 #[vR a1, vR ed, vR r_4, vI 4, vI 4, vR ed] [(.ref ed)]))
          exact Go.retV X_127 hx hlk hret rfl (Or.inr (Or.inr (Or.inr (Or.inr ⟨rfl, rfl, rfl⟩)))) (hb hby d_prog_8_method_5_code_46) (by decide) (by decide) (by rw [e_127]; exact ⟨(by rw [fwv, if_neg (fun q => y0 q.symm), if_neg (fun q => y1 q.symm), if_neg (fun q => y2 q.symm), if_pos y3.symm]), N_127, KP_4⟩)
        · skip
          refine Go.step (fun _ k => XS.ifYes X_127.here hx rfl (pc0 := 33) (pc' := 39) rfl (hb hby d_prog_8_method_5_code_33) rfl ((if0 _ _).trans (teq (b01_eq y3)).1) (by decide) (by decide) k) ?_
          show Go p e below _ (T_127.setTop (mkF m 39 #[vR a1, .val .null, vR r_4, vI 4, vI 3, vR ed] []))
          refine Go.step (fun _ k => XS.iinc X_127.here hx rfl (hb hby d_prog_8_method_5_code_39) rfl (l' := #[vR a1, .val .null, vR r_4, vI 4, vI ((3 : Int32) + (1 : Int32)), vR ed]) rfl k) ?_
          show Go p e below _ (T_127.setTop (mkF m 42 #[vR a1, .val .null, vR r_4, vI 4, vI ((3 : Int32) + (1 : Int32)), vR ed] []))
          rw [show ((3 : Int32) + (1 : Int32)) = (4 : Int32) from by decide]
          show Go p e below _ (T_127.setTop (mkF m 42 #[vR a1, .val .null, vR r_4, vI 4, vI 4, vR ed] []))
          refine Go.step (fun _ k => XS.goto X_127.here hx rfl (pc0 := 42) (pc' := 12) rfl (hb hby d_prog_8_method_5_code_42) (by decide) (by decide) k) ?_
          show Go p e below _ (T_127.setTop (mkF m 12 #[vR a1, .val .null, vR r_4, vI 4, vI 4, vR ed] []))
          refine Go.step (fun _ k => XS.iload X_127.here hx rfl (hb hby d_prog_8_method_5_code_12) rfl  k) ?_
          refine Go.step (fun _ k => XS.iloadN X_127.here hx rfl (hb hby d_prog_8_method_5_code_14) rfl  k) ?_
          show Go p e below _ (T_127.setTop (mkF m 15 #[vR a1, .val .null, vR r_4, vI 4, vI 4, vR ed] [(.int (4 : Int32)), (.int (4 : Int32))]))
          refine Go.step (fun _ k => XS.icmpYes X_127.here hx rfl (pc0 := 15) (pc' := 45) rfl (hb hby d_prog_8_method_5_code_15) rfl (flt ((by decide) : ¬ ((4 : Int32) < (4 : Int32)))).2.1 (by decide) (by decide) k) ?_
          show Go p e below _ (T_127.setTop (mkF m 45 #[vR a1, .val .null, vR r_4, vI 4, vI 4, vR ed] []))
          refine Go.step (fun _ k => XS.aloadN X_127.here hx rfl (hb hby d_prog_8_method_5_code_45) rfl rfl k) ?_
          show Go p e below _ (T_127.setTop (mkF m 46 #[vR a1, .val .null, vR r_4, vI 4, vI 4, vR ed] [.null]))
          exact Go.retV X_127 hx hlk hret rfl (Or.inr (Or.inr (Or.inr (Or.inr ⟨rfl, rfl, rfl⟩)))) (hb hby d_prog_8_method_5_code_46) (by decide) (by decide) (by rw [e_127]; exact ⟨(by rw [fwv, if_neg (fun q => y0 q.symm), if_neg (fun q => y1 q.symm), if_neg (fun q => y2 q.symm), if_neg (fun q => y3 q.symm)]), N_127, KP_4⟩)
--@E
--@C eqNull
def Q_eqNull (Z : State) (zc : Int32) (vfm : Value) (va : Addr) (kv : ClassId) (ea : Addr) (eb : Addr) (ec : Addr) (ed : Addr) (wa : Addr) (wb : Addr) (wc : Addr) (wd : Addr) (a1 : Addr) (h0 : Heap) (n0 : Nat) (v : Option Value) (h : Heap) (L : List Loc) : Prop := v = some (.int (0 : Int32)) ∧ Fr n0 L ∧ h = h0
set_option maxRecDepth 65536 in
set_option maxHeartbeats 40000000 in
theorem rm_eqNull (l : Launch) (Z : State) (a0 : Array Value) (hw : ∀ d ∈ tables_1, d.before a0 Z = true) (zc : Int32) (vfm : Value) (va : Addr) (kv : ClassId) (ea : Addr) (eb : Addr) (ec : Addr) (ed : Addr) (wa : Addr) (wb : Addr) (wc : Addr) (wd : Addr) (a1 : Addr) (h0 : Heap) (n0 : Nat) (Z0 : n0 ≤ h0.size) (hSt : St Z zc vfm va kv ea eb ec ed wa wb wc wd) (hO : Old Z n0 h0) :
    CN l Z ({ cls := "java/lang/String", name := "equals", desc := "(Ljava/lang/Object;)Z" } : Jvm.MethodName) [(Jvm.Cond.code ({ cls := "java/lang/String", name := "equals", desc := "(Ljava/lang/Object;)Z" } : Jvm.MethodName) jdk_42_method_66_code (3 : Nat) (Option.some Jvm.ClassFile.FieldType.boolean))] ({ frames := 0, cells := 0, slots := 0, locals := 0 } : Room) #[(.ref a1), .null] h0 (Q_eqNull Z zc vfm va kv ea eb ec ed wa wb wc wd a1 h0 n0) := by
  refine CN.of (L0 := #[vR a1, .val .null, vU]) (plainFor_of_name pn_1) (fun m => by first | (simp [entryFrame, mkF, argsToLocals, Value.category]; done) | rfl) ?_
  intro p e s m below meth c s₁ hx hby hml hret hlk hZ hown hnm X0 e0
  have N0 := Fr.nil n0
  have KP0 := Keep.refl h0 []
  have hSt_ := hSt
  obtain ⟨S_cs, n_cs, S_fm, r_fm, S_va, E_va, A_va, S_ea, F_ea, S_wa, S_eb, F_eb, S_wb, S_ec, F_ec, S_wc, S_ed, F_ed, S_wd⟩ := hSt_
  show Go p e below _ (s₁.setTop (mkF m 0 #[vR a1, .val .null, vU] []))
  refine Go.step (fun _ k => XS.aloadN X0.here hx rfl (hb hby d_jdk_42_method_66_code_0) rfl rfl k) ?_
  refine Go.step (fun _ k => XS.aloadN X0.here hx rfl (hb hby d_jdk_42_method_66_code_1) rfl rfl k) ?_
  show Go p e below _ (s₁.setTop (mkF m 2 #[vR a1, .val .null, vU] [.null, (.ref a1)]))
  refine Go.step (fun _ k => Jvm.RoadKit.acmp (g := (mkF m 2 #[vR a1, .val .null, vU] [.null, (.ref a1)])) X0 hx rfl rfl rfl (pc0 := 2) (pc' := 7) (same := false) rfl (hb hby d_jdk_42_method_66_code_2) rfl (decide_eq_false nofun) (by decide) (by decide) k) ?_
  show Go p e below _ (s₁.setTop (mkF m 7 #[vR a1, .val .null, vU] []))
  refine Go.step (fun _ k => XS.aloadN X0.here hx rfl (hb hby d_jdk_42_method_66_code_7) rfl rfl k) ?_
  show Go p e below _ (s₁.setTop (mkF m 8 #[vR a1, .val .null, vU] [.null]))
  refine Go.step (fun _ k => X0.instanceofNull hx (g := (mkF m 8 #[vR a1, .val .null, vU] [.null])) rfl rfl (hb hby d_jdk_42_method_66_code_8) _ k) ?_
  show Go p e below _ (s₁.setTop (mkF m 11 #[vR a1, .val .null, vU] [(.int (0 : Int32))]))
  refine Go.step (fun _ k => XS.ifYes X0.here hx rfl (pc0 := 11) (pc' := 54) rfl (hb hby d_jdk_42_method_66_code_11) rfl ((if0 _ _).trans (teq ((by decide) : (0 : Int32) = (0 : Int32))).1) (by decide) (by decide) k) ?_
  show Go p e below _ (s₁.setTop (mkF m 54 #[vR a1, .val .null, vU] []))
  refine Go.step (fun _ k => XS.iconst X0.here hx rfl (hb hby d_jdk_42_method_66_code_54) k) ?_
  show Go p e below _ (s₁.setTop (mkF m 55 #[vR a1, .val .null, vU] [(.int (0 : Int32))]))
  exact Go.retV X0 hx hlk hret rfl (Or.inl ⟨rfl, Or.inr (Or.inl rfl), _, rfl⟩) (hb hby d_jdk_42_method_66_code_55) (by decide) (by decide) (by rw [e0]; exact ⟨rfl, N0, rfl⟩)
--@E
--@C fwN
def Q_fwN (Z : State) (zc : Int32) (vfm : Value) (va : Addr) (kv : ClassId) (ea : Addr) (eb : Addr) (ec : Addr) (ed : Addr) (wa : Addr) (wb : Addr) (wc : Addr) (wd : Addr) (h0 : Heap) (n0 : Nat) (v : Option Value) (h : Heap) (L : List Loc) : Prop := v = some .null ∧ Fr n0 L ∧ Keep h0 h []
set_option maxRecDepth 65536 in
set_option maxHeartbeats 40000000 in
theorem rm_fwN (l : Launch) (Z : State) (a0 : Array Value) (hw : ∀ d ∈ tables_1, d.before a0 Z = true) (zc : Int32) (vfm : Value) (va : Addr) (kv : ClassId) (ea : Addr) (eb : Addr) (ec : Addr) (ed : Addr) (wa : Addr) (wb : Addr) (wc : Addr) (wd : Addr) (h0 : Heap) (n0 : Nat) (Z0 : n0 ≤ h0.size) (hSt : St Z zc vfm va kv ea eb ec ed wa wb wc wd) (hO : Old Z n0 h0) :
    CN l Z ({ cls := "com/example/patient_ledger/patientledger/HoldStatus", name := "fromWireName", desc := "(Ljava/lang/String;)Lcom/example/patient_ledger/patientledger/HoldStatus;" } : Jvm.MethodName) [(Jvm.Cond.code ({ cls := "com/example/patient_ledger/patientledger/HoldStatus", name := "fromWireName", desc := "(Ljava/lang/String;)Lcom/example/patient_ledger/patientledger/HoldStatus;" } : Jvm.MethodName) prog_8_method_5_code (6 : Nat) (Option.some (Jvm.ClassFile.FieldType.object "com/example/patient_ledger/patientledger/HoldStatus")))] ({ frames := 2, cells := 1, slots := 4, locals := 25 } : Room) #[.null] h0 (Q_fwN Z zc vfm va kv ea eb ec ed wa wb wc wd h0 n0) := by
  refine CN.of (L0 := #[.val .null, vU, vU, vU, vU, vU]) (plainFor_of_name pn_0) (fun m => by first | (simp [entryFrame, mkF, argsToLocals, Value.category]; done) | rfl) ?_
  intro p e s m below meth c s₁ hx hby hml hret hlk hZ hown hnm X0 e0
  have N0 := Fr.nil n0
  have KP0 := Keep.refl h0 []
  have hSt_ := hSt
  obtain ⟨S_cs, n_cs, S_fm, r_fm, S_va, E_va, A_va, S_ea, F_ea, S_wa, S_eb, F_eb, S_wb, S_ec, F_ec, S_wc, S_ed, F_ed, S_wd⟩ := hSt_
  show Go p e below _ (s₁.setTop (mkF m 0 #[.val .null, vU, vU, vU, vU, vU] []))
  refine Go.step (fun _ k => XS.aconstNull X0.here hx rfl (hb hby d_prog_8_method_5_code_0) k) ?_
  show Go p e below _ (s₁.setTop (mkF m 1 #[.val .null, vU, vU, vU, vU, vU] [.null]))
  refine Go.step (fun _ k => XS.astoreN X0.here hx rfl (hb hby d_prog_8_method_5_code_1) rfl rfl (l' := #[.val .null, .val .null, vU, vU, vU, vU]) rfl k) ?_
  show Go p e below _ (s₁.setTop (mkF m 2 #[.val .null, .val .null, vU, vU, vU, vU] []))
  obtain ⟨v_128, T_128, L_128, X_128, hQ_128, st_128⟩ := goS X0 hx hZ (y := Y_0) hown (wd_80 hw) (wd_81 hw) (wd_78 hw) (wd_82 hw) (by decide) (backOf (W := 0) (rm_values l Z a0 hw zc vfm va kv ea eb ec ed wa wb wc wd h0 n0 (Nat.le_trans Z0 KP0.1) hSt hO) hZ (wd_82 hw) (wd_78 hw) (by decide) (by decide)) e0 (g := (mkF m 2 #[.val .null, .val .null, vU, vU, vU, vU] [])) rfl (by rw [hml]; rfl) (argsL := []) (rest := []) rfl (lenOf pd_0 rfl) rfl (by show 2 * 0 + _ ≤ _; exact Nat.le_of_eq rfl) (hb hby d_prog_8_method_5_code_2) (by decide) (by decide)
  obtain ⟨r_128, rfl, Nq_128, K_128, u0_128, u1_128⟩ := hQ_128
  have N_128 := Fr.app N0 Nq_128
  have le_128 : h0.size ≤ T_128.heap.size := K_128.1
  have KP_128 := KP0.trans K_128 all0
  have O_128 := hO.keep K_128 all0
  have sz_r_128 : h0.size ≤ r_128 := Nat.le_trans (Nat.le_refl _) u0_128
  have g_r_128 : n0 ≤ r_128 := Nat.le_trans Z0 sz_r_128
  refine Go.step st_128 ?_
  show Go p e below _ (T_128.setTop (mkF m 5 #[.val .null, .val .null, vU, vU, vU, vU] [(.ref r_128)]))
  refine Go.step (fun _ k => XS.astoreN X_128.here hx rfl (hb hby d_prog_8_method_5_code_5) rfl rfl (l' := #[.val .null, .val .null, vR r_128, vU, vU, vU]) rfl k) ?_
  show Go p e below _ (T_128.setTop (mkF m 6 #[.val .null, .val .null, vR r_128, vU, vU, vU] []))
  refine Go.step (fun _ k => XS.aloadN X_128.here hx rfl (hb hby d_prog_8_method_5_code_6) rfl rfl k) ?_
  show Go p e below _ (T_128.setTop (mkF m 7 #[.val .null, .val .null, vR r_128, vU, vU, vU] [(.ref r_128)]))
  have cp130 := u1_128
  obtain ⟨cl_129, Ar_129, -, Sz_129, Ng_129, -, -⟩ := cp130
  refine Go.step (fun _ k => X_128.arraylength hx (by exact Ar_129.1) (State.isArrayOf_alike hZ.alike Ar_129.2.1) (g := (mkF m 7 #[.val .null, .val .null, vR r_128, vU, vU, vU] [(.ref r_128)])) rfl rfl (hb hby d_prog_8_method_5_code_7) _ k) ?_
  rw [len_of Sz_129 Ng_129]
  show Go p e below _ (T_128.setTop (mkF m 8 #[.val .null, .val .null, vR r_128, vU, vU, vU] [(.int (4 : Int32))]))
  refine Go.step (fun _ k => XS.istoreN X_128.here hx rfl (hb hby d_prog_8_method_5_code_8) rfl (l' := #[.val .null, .val .null, vR r_128, vI 4, vU, vU]) rfl k) ?_
  show Go p e below _ (T_128.setTop (mkF m 9 #[.val .null, .val .null, vR r_128, vI 4, vU, vU] []))
  refine Go.step (fun _ k => XS.iconst X_128.here hx rfl (hb hby d_prog_8_method_5_code_9) k) ?_
  show Go p e below _ (T_128.setTop (mkF m 10 #[.val .null, .val .null, vR r_128, vI 4, vU, vU] [(.int (0 : Int32))]))
  refine Go.step (fun _ k => XS.istore X_128.here hx rfl (hb hby d_prog_8_method_5_code_10) rfl (l' := #[.val .null, .val .null, vR r_128, vI 4, vI 0, vU]) rfl k) ?_
  show Go p e below _ (T_128.setTop (mkF m 12 #[.val .null, .val .null, vR r_128, vI 4, vI 0, vU] []))
  refine Go.step (fun _ k => XS.iload X_128.here hx rfl (hb hby d_prog_8_method_5_code_12) rfl  k) ?_
  refine Go.step (fun _ k => XS.iloadN X_128.here hx rfl (hb hby d_prog_8_method_5_code_14) rfl  k) ?_
  show Go p e below _ (T_128.setTop (mkF m 15 #[.val .null, .val .null, vR r_128, vI 4, vI 0, vU] [(.int (4 : Int32)), (.int (0 : Int32))]))
  refine Go.step (fun _ k => XS.icmpNo X_128.here hx rfl (hb hby d_prog_8_method_5_code_15) rfl (tlt ((by decide) : (0 : Int32) < (4 : Int32))).2.1 k) ?_
  show Go p e below _ (T_128.setTop (mkF m 18 #[.val .null, .val .null, vR r_128, vI 4, vI 0, vU] []))
  refine Go.step (fun _ k => XS.aloadN X_128.here hx rfl (hb hby d_prog_8_method_5_code_18) rfl rfl k) ?_
  refine Go.step (fun _ k => XS.iload X_128.here hx rfl (hb hby d_prog_8_method_5_code_19) rfl  k) ?_
  show Go p e below _ (T_128.setTop (mkF m 21 #[.val .null, .val .null, vR r_128, vI 4, vI 0, vU] [(.int (0 : Int32)), (.ref r_128)]))
  have cp132 := u1_128
  obtain ⟨cl_131, Ar_131, -, Sz_131, -, Hs_131, -⟩ := cp132
  have hin_131 : ¬ ((0 : Int32) < 0 ∨ cl_131.slots.size ≤ ((0 : Int32)).toNatClampNeg) := (inb_of Sz_131 ⟨by decide, by decide⟩)
  have hat_131 : cl_131.slots[((0 : Int32)).toNatClampNeg]? = some (.ref ea) := (Hs_131.at (inb_of Sz_131 ⟨by decide, by decide⟩) rfl)
  refine Go.step (fun _ k => X_128.aaload hx (j := (0 : Int32)) (v := (.ref ea)) (by exact Ar_131.1) (State.isArrayOf_alike hZ.alike Ar_131.2.1) rfl Ar_131.2.2 hin_131 hat_131 (g := (mkF m 21 #[.val .null, .val .null, vR r_128, vI 4, vI 0, vU] [(.int (0 : Int32)), (.ref r_128)])) rfl rfl (hb hby d_prog_8_method_5_code_21) _ k) ?_
  show Go p e below _ (T_128.setTop (mkF m 22 #[.val .null, .val .null, vR r_128, vI 4, vI 0, vU] [(.ref ea)]))
  refine Go.step (fun _ k => XS.astore X_128.here hx rfl (hb hby d_prog_8_method_5_code_22) rfl rfl (l' := #[.val .null, .val .null, vR r_128, vI 4, vI 0, vR ea]) rfl k) ?_
  show Go p e below _ (T_128.setTop (mkF m 24 #[.val .null, .val .null, vR r_128, vI 4, vI 0, vR ea] []))
  refine Go.step (fun _ k => XS.aload X_128.here hx rfl (hb hby d_prog_8_method_5_code_24) rfl rfl k) ?_
  show Go p e below _ (T_128.setTop (mkF m 26 #[.val .null, .val .null, vR r_128, vI 4, vI 0, vR ea] [(.ref ea)]))
  obtain ⟨T_133, X_133, e_133, st_133⟩ := getF X_128 hx hZ hown (host := "") (Or.inl (wd_99 hw)) Via.refl rfl (F_ea.ext O_128.2) (g := (mkF m 26 #[.val .null, .val .null, vR r_128, vI 4, vI 0, vR ea] [(.ref ea)])) rfl rfl (hb hby d_prog_8_method_5_code_26)
  refine Go.step st_133 ?_
  show Go p e below _ (T_133.setTop (mkF m 29 #[.val .null, .val .null, vR r_128, vI 4, vI 0, vR ea] [(.ref wa)]))
  refine Go.step (fun _ k => XS.aloadN X_133.here hx rfl (hb hby d_prog_8_method_5_code_29) rfl rfl k) ?_
  show Go p e below _ (T_133.setTop (mkF m 30 #[.val .null, .val .null, vR r_128, vI 4, vI 0, vR ea] [.null, (.ref wa)]))
  obtain ⟨v_134, T_134, L_134, X_134, hQ_134, st_134⟩ := goV X_133 hx hZ (y := Y_1) (z := Y_1) hown (wd_101 hw) (wd_102 hw) (notFace_of_selects (args := #[]) (mvT hZ (wd_104 hw))) (wd_104 hw) (wd_103 hw) (by decide) (backOf (W := 0) (rm_eqNull l Z a0 hw zc vfm va kv ea eb ec ed wa wb wc wd (wa) T_128.heap n0 (Nat.le_trans Z0 KP_128.1) hSt O_128) hZ (wd_105 hw) (wd_1 hw) (by decide) (by decide)) e_133 (S_wa.ext O_128.2).exa (g := (mkF m 30 #[.val .null, .val .null, vR r_128, vI 4, vI 0, vR ea] [.null, (.ref wa)])) rfl (by rw [hml]; rfl) (argsL := [.null]) (rest := []) rfl (lenOf pd_1 rfl) rfl (by show 2 * 0 + _ ≤ _; exact Nat.le_of_eq rfl) (hb hby d_prog_8_method_5_code_30) (by decide) (by decide)
  obtain ⟨rfl, Nq_134, e_134⟩ := hQ_134
  have N_134 := Fr.app N_128 Nq_134
  refine Go.step st_134 ?_
  show Go p e below _ (T_134.setTop (mkF m 33 #[.val .null, .val .null, vR r_128, vI 4, vI 0, vR ea] [(.int (0 : Int32))]))
  refine Go.step (fun _ k => XS.ifYes X_134.here hx rfl (pc0 := 33) (pc' := 39) rfl (hb hby d_prog_8_method_5_code_33) rfl ((if0 _ _).trans (teq ((by decide) : (0 : Int32) = (0 : Int32))).1) (by decide) (by decide) k) ?_
  show Go p e below _ (T_134.setTop (mkF m 39 #[.val .null, .val .null, vR r_128, vI 4, vI 0, vR ea] []))
  refine Go.step (fun _ k => XS.iinc X_134.here hx rfl (hb hby d_prog_8_method_5_code_39) rfl (l' := #[.val .null, .val .null, vR r_128, vI 4, vI ((0 : Int32) + (1 : Int32)), vR ea]) rfl k) ?_
  show Go p e below _ (T_134.setTop (mkF m 42 #[.val .null, .val .null, vR r_128, vI 4, vI ((0 : Int32) + (1 : Int32)), vR ea] []))
  rw [show ((0 : Int32) + (1 : Int32)) = (1 : Int32) from by decide]
  show Go p e below _ (T_134.setTop (mkF m 42 #[.val .null, .val .null, vR r_128, vI 4, vI 1, vR ea] []))
  refine Go.step (fun _ k => XS.goto X_134.here hx rfl (pc0 := 42) (pc' := 12) rfl (hb hby d_prog_8_method_5_code_42) (by decide) (by decide) k) ?_
  show Go p e below _ (T_134.setTop (mkF m 12 #[.val .null, .val .null, vR r_128, vI 4, vI 1, vR ea] []))
  refine Go.step (fun _ k => XS.iload X_134.here hx rfl (hb hby d_prog_8_method_5_code_12) rfl  k) ?_
  refine Go.step (fun _ k => XS.iloadN X_134.here hx rfl (hb hby d_prog_8_method_5_code_14) rfl  k) ?_
  show Go p e below _ (T_134.setTop (mkF m 15 #[.val .null, .val .null, vR r_128, vI 4, vI 1, vR ea] [(.int (4 : Int32)), (.int (1 : Int32))]))
  refine Go.step (fun _ k => XS.icmpNo X_134.here hx rfl (hb hby d_prog_8_method_5_code_15) rfl (tlt ((by decide) : (1 : Int32) < (4 : Int32))).2.1 k) ?_
  show Go p e below _ (T_134.setTop (mkF m 18 #[.val .null, .val .null, vR r_128, vI 4, vI 1, vR ea] []))
  refine Go.step (fun _ k => XS.aloadN X_134.here hx rfl (hb hby d_prog_8_method_5_code_18) rfl rfl k) ?_
  refine Go.step (fun _ k => XS.iload X_134.here hx rfl (hb hby d_prog_8_method_5_code_19) rfl  k) ?_
  show Go p e below _ (T_134.setTop (mkF m 21 #[.val .null, .val .null, vR r_128, vI 4, vI 1, vR ea] [(.int (1 : Int32)), (.ref r_128)]))
  have cp136 := u1_128
  obtain ⟨cl_135, Ar_135, -, Sz_135, -, Hs_135, -⟩ := cp136
  have hin_135 : ¬ ((1 : Int32) < 0 ∨ cl_135.slots.size ≤ ((1 : Int32)).toNatClampNeg) := (inb_of Sz_135 ⟨by decide, by decide⟩)
  have hat_135 : cl_135.slots[((1 : Int32)).toNatClampNeg]? = some (.ref eb) := (Hs_135.at (inb_of Sz_135 ⟨by decide, by decide⟩) rfl)
  refine Go.step (fun _ k => X_134.aaload hx (j := (1 : Int32)) (v := (.ref eb)) (by rw [e_134]; exact Ar_135.1) (State.isArrayOf_alike hZ.alike Ar_135.2.1) rfl Ar_135.2.2 hin_135 hat_135 (g := (mkF m 21 #[.val .null, .val .null, vR r_128, vI 4, vI 1, vR ea] [(.int (1 : Int32)), (.ref r_128)])) rfl rfl (hb hby d_prog_8_method_5_code_21) _ k) ?_
  show Go p e below _ (T_134.setTop (mkF m 22 #[.val .null, .val .null, vR r_128, vI 4, vI 1, vR ea] [(.ref eb)]))
  refine Go.step (fun _ k => XS.astore X_134.here hx rfl (hb hby d_prog_8_method_5_code_22) rfl rfl (l' := #[.val .null, .val .null, vR r_128, vI 4, vI 1, vR eb]) rfl k) ?_
  show Go p e below _ (T_134.setTop (mkF m 24 #[.val .null, .val .null, vR r_128, vI 4, vI 1, vR eb] []))
  refine Go.step (fun _ k => XS.aload X_134.here hx rfl (hb hby d_prog_8_method_5_code_24) rfl rfl k) ?_
  show Go p e below _ (T_134.setTop (mkF m 26 #[.val .null, .val .null, vR r_128, vI 4, vI 1, vR eb] [(.ref eb)]))
  obtain ⟨T_137, X_137, e_137, st_137⟩ := getF X_134 hx hZ hown (host := "") (Or.inl (wd_99 hw)) Via.refl e_134 (F_eb.ext O_128.2) (g := (mkF m 26 #[.val .null, .val .null, vR r_128, vI 4, vI 1, vR eb] [(.ref eb)])) rfl rfl (hb hby d_prog_8_method_5_code_26)
  refine Go.step st_137 ?_
  show Go p e below _ (T_137.setTop (mkF m 29 #[.val .null, .val .null, vR r_128, vI 4, vI 1, vR eb] [(.ref wb)]))
  refine Go.step (fun _ k => XS.aloadN X_137.here hx rfl (hb hby d_prog_8_method_5_code_29) rfl rfl k) ?_
  show Go p e below _ (T_137.setTop (mkF m 30 #[.val .null, .val .null, vR r_128, vI 4, vI 1, vR eb] [.null, (.ref wb)]))
  obtain ⟨v_138, T_138, L_138, X_138, hQ_138, st_138⟩ := goV X_137 hx hZ (y := Y_1) (z := Y_1) hown (wd_101 hw) (wd_102 hw) (notFace_of_selects (args := #[]) (mvT hZ (wd_104 hw))) (wd_104 hw) (wd_103 hw) (by decide) (backOf (W := 0) (rm_eqNull l Z a0 hw zc vfm va kv ea eb ec ed wa wb wc wd (wb) T_128.heap n0 (Nat.le_trans Z0 KP_128.1) hSt O_128) hZ (wd_105 hw) (wd_1 hw) (by decide) (by decide)) e_137 (S_wb.ext O_128.2).exa (g := (mkF m 30 #[.val .null, .val .null, vR r_128, vI 4, vI 1, vR eb] [.null, (.ref wb)])) rfl (by rw [hml]; rfl) (argsL := [.null]) (rest := []) rfl (lenOf pd_1 rfl) rfl (by show 2 * 0 + _ ≤ _; exact Nat.le_of_eq rfl) (hb hby d_prog_8_method_5_code_30) (by decide) (by decide)
  obtain ⟨rfl, Nq_138, e_138⟩ := hQ_138
  have N_138 := Fr.app N_134 Nq_138
  refine Go.step st_138 ?_
  show Go p e below _ (T_138.setTop (mkF m 33 #[.val .null, .val .null, vR r_128, vI 4, vI 1, vR eb] [(.int (0 : Int32))]))
  refine Go.step (fun _ k => XS.ifYes X_138.here hx rfl (pc0 := 33) (pc' := 39) rfl (hb hby d_prog_8_method_5_code_33) rfl ((if0 _ _).trans (teq ((by decide) : (0 : Int32) = (0 : Int32))).1) (by decide) (by decide) k) ?_
  show Go p e below _ (T_138.setTop (mkF m 39 #[.val .null, .val .null, vR r_128, vI 4, vI 1, vR eb] []))
  refine Go.step (fun _ k => XS.iinc X_138.here hx rfl (hb hby d_prog_8_method_5_code_39) rfl (l' := #[.val .null, .val .null, vR r_128, vI 4, vI ((1 : Int32) + (1 : Int32)), vR eb]) rfl k) ?_
  show Go p e below _ (T_138.setTop (mkF m 42 #[.val .null, .val .null, vR r_128, vI 4, vI ((1 : Int32) + (1 : Int32)), vR eb] []))
  rw [show ((1 : Int32) + (1 : Int32)) = (2 : Int32) from by decide]
  show Go p e below _ (T_138.setTop (mkF m 42 #[.val .null, .val .null, vR r_128, vI 4, vI 2, vR eb] []))
  refine Go.step (fun _ k => XS.goto X_138.here hx rfl (pc0 := 42) (pc' := 12) rfl (hb hby d_prog_8_method_5_code_42) (by decide) (by decide) k) ?_
  show Go p e below _ (T_138.setTop (mkF m 12 #[.val .null, .val .null, vR r_128, vI 4, vI 2, vR eb] []))
  refine Go.step (fun _ k => XS.iload X_138.here hx rfl (hb hby d_prog_8_method_5_code_12) rfl  k) ?_
  refine Go.step (fun _ k => XS.iloadN X_138.here hx rfl (hb hby d_prog_8_method_5_code_14) rfl  k) ?_
  show Go p e below _ (T_138.setTop (mkF m 15 #[.val .null, .val .null, vR r_128, vI 4, vI 2, vR eb] [(.int (4 : Int32)), (.int (2 : Int32))]))
  refine Go.step (fun _ k => XS.icmpNo X_138.here hx rfl (hb hby d_prog_8_method_5_code_15) rfl (tlt ((by decide) : (2 : Int32) < (4 : Int32))).2.1 k) ?_
  show Go p e below _ (T_138.setTop (mkF m 18 #[.val .null, .val .null, vR r_128, vI 4, vI 2, vR eb] []))
  refine Go.step (fun _ k => XS.aloadN X_138.here hx rfl (hb hby d_prog_8_method_5_code_18) rfl rfl k) ?_
  refine Go.step (fun _ k => XS.iload X_138.here hx rfl (hb hby d_prog_8_method_5_code_19) rfl  k) ?_
  show Go p e below _ (T_138.setTop (mkF m 21 #[.val .null, .val .null, vR r_128, vI 4, vI 2, vR eb] [(.int (2 : Int32)), (.ref r_128)]))
  have cp140 := u1_128
  obtain ⟨cl_139, Ar_139, -, Sz_139, -, Hs_139, -⟩ := cp140
  have hin_139 : ¬ ((2 : Int32) < 0 ∨ cl_139.slots.size ≤ ((2 : Int32)).toNatClampNeg) := (inb_of Sz_139 ⟨by decide, by decide⟩)
  have hat_139 : cl_139.slots[((2 : Int32)).toNatClampNeg]? = some (.ref ec) := (Hs_139.at (inb_of Sz_139 ⟨by decide, by decide⟩) rfl)
  refine Go.step (fun _ k => X_138.aaload hx (j := (2 : Int32)) (v := (.ref ec)) (by rw [e_138]; exact Ar_139.1) (State.isArrayOf_alike hZ.alike Ar_139.2.1) rfl Ar_139.2.2 hin_139 hat_139 (g := (mkF m 21 #[.val .null, .val .null, vR r_128, vI 4, vI 2, vR eb] [(.int (2 : Int32)), (.ref r_128)])) rfl rfl (hb hby d_prog_8_method_5_code_21) _ k) ?_
  show Go p e below _ (T_138.setTop (mkF m 22 #[.val .null, .val .null, vR r_128, vI 4, vI 2, vR eb] [(.ref ec)]))
  refine Go.step (fun _ k => XS.astore X_138.here hx rfl (hb hby d_prog_8_method_5_code_22) rfl rfl (l' := #[.val .null, .val .null, vR r_128, vI 4, vI 2, vR ec]) rfl k) ?_
  show Go p e below _ (T_138.setTop (mkF m 24 #[.val .null, .val .null, vR r_128, vI 4, vI 2, vR ec] []))
  refine Go.step (fun _ k => XS.aload X_138.here hx rfl (hb hby d_prog_8_method_5_code_24) rfl rfl k) ?_
  show Go p e below _ (T_138.setTop (mkF m 26 #[.val .null, .val .null, vR r_128, vI 4, vI 2, vR ec] [(.ref ec)]))
  obtain ⟨T_141, X_141, e_141, st_141⟩ := getF X_138 hx hZ hown (host := "") (Or.inl (wd_99 hw)) Via.refl e_138 (F_ec.ext O_128.2) (g := (mkF m 26 #[.val .null, .val .null, vR r_128, vI 4, vI 2, vR ec] [(.ref ec)])) rfl rfl (hb hby d_prog_8_method_5_code_26)
  refine Go.step st_141 ?_
  show Go p e below _ (T_141.setTop (mkF m 29 #[.val .null, .val .null, vR r_128, vI 4, vI 2, vR ec] [(.ref wc)]))
  refine Go.step (fun _ k => XS.aloadN X_141.here hx rfl (hb hby d_prog_8_method_5_code_29) rfl rfl k) ?_
  show Go p e below _ (T_141.setTop (mkF m 30 #[.val .null, .val .null, vR r_128, vI 4, vI 2, vR ec] [.null, (.ref wc)]))
  obtain ⟨v_142, T_142, L_142, X_142, hQ_142, st_142⟩ := goV X_141 hx hZ (y := Y_1) (z := Y_1) hown (wd_101 hw) (wd_102 hw) (notFace_of_selects (args := #[]) (mvT hZ (wd_104 hw))) (wd_104 hw) (wd_103 hw) (by decide) (backOf (W := 0) (rm_eqNull l Z a0 hw zc vfm va kv ea eb ec ed wa wb wc wd (wc) T_128.heap n0 (Nat.le_trans Z0 KP_128.1) hSt O_128) hZ (wd_105 hw) (wd_1 hw) (by decide) (by decide)) e_141 (S_wc.ext O_128.2).exa (g := (mkF m 30 #[.val .null, .val .null, vR r_128, vI 4, vI 2, vR ec] [.null, (.ref wc)])) rfl (by rw [hml]; rfl) (argsL := [.null]) (rest := []) rfl (lenOf pd_1 rfl) rfl (by show 2 * 0 + _ ≤ _; exact Nat.le_of_eq rfl) (hb hby d_prog_8_method_5_code_30) (by decide) (by decide)
  obtain ⟨rfl, Nq_142, e_142⟩ := hQ_142
  have N_142 := Fr.app N_138 Nq_142
  refine Go.step st_142 ?_
  show Go p e below _ (T_142.setTop (mkF m 33 #[.val .null, .val .null, vR r_128, vI 4, vI 2, vR ec] [(.int (0 : Int32))]))
  refine Go.step (fun _ k => XS.ifYes X_142.here hx rfl (pc0 := 33) (pc' := 39) rfl (hb hby d_prog_8_method_5_code_33) rfl ((if0 _ _).trans (teq ((by decide) : (0 : Int32) = (0 : Int32))).1) (by decide) (by decide) k) ?_
  show Go p e below _ (T_142.setTop (mkF m 39 #[.val .null, .val .null, vR r_128, vI 4, vI 2, vR ec] []))
  refine Go.step (fun _ k => XS.iinc X_142.here hx rfl (hb hby d_prog_8_method_5_code_39) rfl (l' := #[.val .null, .val .null, vR r_128, vI 4, vI ((2 : Int32) + (1 : Int32)), vR ec]) rfl k) ?_
  show Go p e below _ (T_142.setTop (mkF m 42 #[.val .null, .val .null, vR r_128, vI 4, vI ((2 : Int32) + (1 : Int32)), vR ec] []))
  rw [show ((2 : Int32) + (1 : Int32)) = (3 : Int32) from by decide]
  show Go p e below _ (T_142.setTop (mkF m 42 #[.val .null, .val .null, vR r_128, vI 4, vI 3, vR ec] []))
  refine Go.step (fun _ k => XS.goto X_142.here hx rfl (pc0 := 42) (pc' := 12) rfl (hb hby d_prog_8_method_5_code_42) (by decide) (by decide) k) ?_
  show Go p e below _ (T_142.setTop (mkF m 12 #[.val .null, .val .null, vR r_128, vI 4, vI 3, vR ec] []))
  refine Go.step (fun _ k => XS.iload X_142.here hx rfl (hb hby d_prog_8_method_5_code_12) rfl  k) ?_
  refine Go.step (fun _ k => XS.iloadN X_142.here hx rfl (hb hby d_prog_8_method_5_code_14) rfl  k) ?_
  show Go p e below _ (T_142.setTop (mkF m 15 #[.val .null, .val .null, vR r_128, vI 4, vI 3, vR ec] [(.int (4 : Int32)), (.int (3 : Int32))]))
  refine Go.step (fun _ k => XS.icmpNo X_142.here hx rfl (hb hby d_prog_8_method_5_code_15) rfl (tlt ((by decide) : (3 : Int32) < (4 : Int32))).2.1 k) ?_
  show Go p e below _ (T_142.setTop (mkF m 18 #[.val .null, .val .null, vR r_128, vI 4, vI 3, vR ec] []))
  refine Go.step (fun _ k => XS.aloadN X_142.here hx rfl (hb hby d_prog_8_method_5_code_18) rfl rfl k) ?_
  refine Go.step (fun _ k => XS.iload X_142.here hx rfl (hb hby d_prog_8_method_5_code_19) rfl  k) ?_
  show Go p e below _ (T_142.setTop (mkF m 21 #[.val .null, .val .null, vR r_128, vI 4, vI 3, vR ec] [(.int (3 : Int32)), (.ref r_128)]))
  have cp144 := u1_128
  obtain ⟨cl_143, Ar_143, -, Sz_143, -, Hs_143, -⟩ := cp144
  have hin_143 : ¬ ((3 : Int32) < 0 ∨ cl_143.slots.size ≤ ((3 : Int32)).toNatClampNeg) := (inb_of Sz_143 ⟨by decide, by decide⟩)
  have hat_143 : cl_143.slots[((3 : Int32)).toNatClampNeg]? = some (.ref ed) := (Hs_143.at (inb_of Sz_143 ⟨by decide, by decide⟩) rfl)
  refine Go.step (fun _ k => X_142.aaload hx (j := (3 : Int32)) (v := (.ref ed)) (by rw [e_142]; exact Ar_143.1) (State.isArrayOf_alike hZ.alike Ar_143.2.1) rfl Ar_143.2.2 hin_143 hat_143 (g := (mkF m 21 #[.val .null, .val .null, vR r_128, vI 4, vI 3, vR ec] [(.int (3 : Int32)), (.ref r_128)])) rfl rfl (hb hby d_prog_8_method_5_code_21) _ k) ?_
  show Go p e below _ (T_142.setTop (mkF m 22 #[.val .null, .val .null, vR r_128, vI 4, vI 3, vR ec] [(.ref ed)]))
  refine Go.step (fun _ k => XS.astore X_142.here hx rfl (hb hby d_prog_8_method_5_code_22) rfl rfl (l' := #[.val .null, .val .null, vR r_128, vI 4, vI 3, vR ed]) rfl k) ?_
  show Go p e below _ (T_142.setTop (mkF m 24 #[.val .null, .val .null, vR r_128, vI 4, vI 3, vR ed] []))
  refine Go.step (fun _ k => XS.aload X_142.here hx rfl (hb hby d_prog_8_method_5_code_24) rfl rfl k) ?_
  show Go p e below _ (T_142.setTop (mkF m 26 #[.val .null, .val .null, vR r_128, vI 4, vI 3, vR ed] [(.ref ed)]))
  obtain ⟨T_145, X_145, e_145, st_145⟩ := getF X_142 hx hZ hown (host := "") (Or.inl (wd_99 hw)) Via.refl e_142 (F_ed.ext O_128.2) (g := (mkF m 26 #[.val .null, .val .null, vR r_128, vI 4, vI 3, vR ed] [(.ref ed)])) rfl rfl (hb hby d_prog_8_method_5_code_26)
  refine Go.step st_145 ?_
  show Go p e below _ (T_145.setTop (mkF m 29 #[.val .null, .val .null, vR r_128, vI 4, vI 3, vR ed] [(.ref wd)]))
  refine Go.step (fun _ k => XS.aloadN X_145.here hx rfl (hb hby d_prog_8_method_5_code_29) rfl rfl k) ?_
  show Go p e below _ (T_145.setTop (mkF m 30 #[.val .null, .val .null, vR r_128, vI 4, vI 3, vR ed] [.null, (.ref wd)]))
  obtain ⟨v_146, T_146, L_146, X_146, hQ_146, st_146⟩ := goV X_145 hx hZ (y := Y_1) (z := Y_1) hown (wd_101 hw) (wd_102 hw) (notFace_of_selects (args := #[]) (mvT hZ (wd_104 hw))) (wd_104 hw) (wd_103 hw) (by decide) (backOf (W := 0) (rm_eqNull l Z a0 hw zc vfm va kv ea eb ec ed wa wb wc wd (wd) T_128.heap n0 (Nat.le_trans Z0 KP_128.1) hSt O_128) hZ (wd_105 hw) (wd_1 hw) (by decide) (by decide)) e_145 (S_wd.ext O_128.2).exa (g := (mkF m 30 #[.val .null, .val .null, vR r_128, vI 4, vI 3, vR ed] [.null, (.ref wd)])) rfl (by rw [hml]; rfl) (argsL := [.null]) (rest := []) rfl (lenOf pd_1 rfl) rfl (by show 2 * 0 + _ ≤ _; exact Nat.le_of_eq rfl) (hb hby d_prog_8_method_5_code_30) (by decide) (by decide)
  obtain ⟨rfl, Nq_146, e_146⟩ := hQ_146
  have N_146 := Fr.app N_142 Nq_146
  refine Go.step st_146 ?_
  show Go p e below _ (T_146.setTop (mkF m 33 #[.val .null, .val .null, vR r_128, vI 4, vI 3, vR ed] [(.int (0 : Int32))]))
  refine Go.step (fun _ k => XS.ifYes X_146.here hx rfl (pc0 := 33) (pc' := 39) rfl (hb hby d_prog_8_method_5_code_33) rfl ((if0 _ _).trans (teq ((by decide) : (0 : Int32) = (0 : Int32))).1) (by decide) (by decide) k) ?_
  show Go p e below _ (T_146.setTop (mkF m 39 #[.val .null, .val .null, vR r_128, vI 4, vI 3, vR ed] []))
  refine Go.step (fun _ k => XS.iinc X_146.here hx rfl (hb hby d_prog_8_method_5_code_39) rfl (l' := #[.val .null, .val .null, vR r_128, vI 4, vI ((3 : Int32) + (1 : Int32)), vR ed]) rfl k) ?_
  show Go p e below _ (T_146.setTop (mkF m 42 #[.val .null, .val .null, vR r_128, vI 4, vI ((3 : Int32) + (1 : Int32)), vR ed] []))
  rw [show ((3 : Int32) + (1 : Int32)) = (4 : Int32) from by decide]
  show Go p e below _ (T_146.setTop (mkF m 42 #[.val .null, .val .null, vR r_128, vI 4, vI 4, vR ed] []))
  refine Go.step (fun _ k => XS.goto X_146.here hx rfl (pc0 := 42) (pc' := 12) rfl (hb hby d_prog_8_method_5_code_42) (by decide) (by decide) k) ?_
  show Go p e below _ (T_146.setTop (mkF m 12 #[.val .null, .val .null, vR r_128, vI 4, vI 4, vR ed] []))
  refine Go.step (fun _ k => XS.iload X_146.here hx rfl (hb hby d_prog_8_method_5_code_12) rfl  k) ?_
  refine Go.step (fun _ k => XS.iloadN X_146.here hx rfl (hb hby d_prog_8_method_5_code_14) rfl  k) ?_
  show Go p e below _ (T_146.setTop (mkF m 15 #[.val .null, .val .null, vR r_128, vI 4, vI 4, vR ed] [(.int (4 : Int32)), (.int (4 : Int32))]))
  refine Go.step (fun _ k => XS.icmpYes X_146.here hx rfl (pc0 := 15) (pc' := 45) rfl (hb hby d_prog_8_method_5_code_15) rfl (flt ((by decide) : ¬ ((4 : Int32) < (4 : Int32)))).2.1 (by decide) (by decide) k) ?_
  show Go p e below _ (T_146.setTop (mkF m 45 #[.val .null, .val .null, vR r_128, vI 4, vI 4, vR ed] []))
  refine Go.step (fun _ k => XS.aloadN X_146.here hx rfl (hb hby d_prog_8_method_5_code_45) rfl rfl k) ?_
  show Go p e below _ (T_146.setTop (mkF m 46 #[.val .null, .val .null, vR r_128, vI 4, vI 4, vR ed] [.null]))
  exact Go.retV X_146 hx hlk hret rfl (Or.inr (Or.inr (Or.inr (Or.inr ⟨rfl, rfl, rfl⟩)))) (hb hby d_prog_8_method_5_code_46) (by decide) (by decide) (by rw [e_146]; exact ⟨rfl, N_146, KP_128⟩)
--@E
--@C exN
def Q_exN (Z : State) (zc : Int32) (vfm : Value) (va : Addr) (kv : ClassId) (ea : Addr) (eb : Addr) (ec : Addr) (ed : Addr) (wa : Addr) (wb : Addr) (wc : Addr) (wd : Addr) (h0 : Heap) (n0 : Nat) (v : Option Value) (h : Heap) (L : List Loc) : Prop := v = some .null ∧ Fr n0 L ∧ h = h0
set_option maxRecDepth 65536 in
set_option maxHeartbeats 40000000 in
theorem rm_exN (l : Launch) (Z : State) (a0 : Array Value) (hw : ∀ d ∈ tables_1, d.before a0 Z = true) (zc : Int32) (vfm : Value) (va : Addr) (kv : ClassId) (ea : Addr) (eb : Addr) (ec : Addr) (ed : Addr) (wa : Addr) (wb : Addr) (wc : Addr) (wd : Addr) (h0 : Heap) (n0 : Nat) (Z0 : n0 ≤ h0.size) (hSt : St Z zc vfm va kv ea eb ec ed wa wb wc wd) (hO : Old Z n0 h0) :
    CN l Z ({ cls := "com/example/patient_ledger/patientledger/HoldStatusFromWireNamePinLaw", name := "expected", desc := "(Ljava/lang/String;)Lcom/example/patient_ledger/patientledger/HoldStatus;" } : Jvm.MethodName) [(Jvm.Cond.code ({ cls := "com/example/patient_ledger/patientledger/HoldStatusFromWireNamePinLaw", name := "expected", desc := "(Ljava/lang/String;)Lcom/example/patient_ledger/patientledger/HoldStatus;" } : Jvm.MethodName) method_3_code (1 : Nat) (Option.some (Jvm.ClassFile.FieldType.object "com/example/patient_ledger/patientledger/HoldStatus")))] ({ frames := 0, cells := 0, slots := 0, locals := 0 } : Room) #[.null] h0 (Q_exN Z zc vfm va kv ea eb ec ed wa wb wc wd h0 n0) := by
  refine CN.of (L0 := #[.val .null]) (plainFor_of_name pn_2) (fun m => by first | (simp [entryFrame, mkF, argsToLocals, Value.category]; done) | rfl) ?_
  intro p e s m below meth c s₁ hx hby hml hret hlk hZ hown hnm X0 e0
  have N0 := Fr.nil n0
  have KP0 := Keep.refl h0 []
  have hSt_ := hSt
  obtain ⟨S_cs, n_cs, S_fm, r_fm, S_va, E_va, A_va, S_ea, F_ea, S_wa, S_eb, F_eb, S_wb, S_ec, F_ec, S_wc, S_ed, F_ed, S_wd⟩ := hSt_
  show Go p e below _ (s₁.setTop (mkF m 0 #[.val .null] []))
  refine Go.step (fun _ k => XS.aloadN X0.here hx rfl (hb hby d_method_3_code_0) rfl rfl k) ?_
  show Go p e below _ (s₁.setTop (mkF m 1 #[.val .null] [.null]))
  refine Go.step (fun _ k => XS.ifnonnullNo X0.here hx rfl (hb hby d_method_3_code_1) rfl k) ?_
  show Go p e below _ (s₁.setTop (mkF m 4 #[.val .null] []))
  refine Go.step (fun _ k => XS.aconstNull X0.here hx rfl (hb hby d_method_3_code_4) k) ?_
  show Go p e below _ (s₁.setTop (mkF m 5 #[.val .null] [.null]))
  exact Go.retV X0 hx hlk hret rfl (Or.inr (Or.inr (Or.inr (Or.inr ⟨rfl, rfl, rfl⟩)))) (hb hby d_method_3_code_5) (by decide) (by decide) (by rw [e0]; exact ⟨rfl, N0, rfl⟩)
--@E
--@C ex
def Q_ex (Z : State) (zc : Int32) (vfm : Value) (va : Addr) (kv : ClassId) (ea : Addr) (eb : Addr) (ec : Addr) (ed : Addr) (wa : Addr) (wb : Addr) (wc : Addr) (wd : Addr) (a1 : Addr) (cs : List Int32) (h0 : Heap) (n0 : Nat) (v : Option Value) (h : Heap) (L : List Loc) : Prop := v = some (fwv ea eb ec ed cs) ∧ Fr n0 L ∧ Keep h0 h []
set_option maxRecDepth 65536 in
set_option maxHeartbeats 40000000 in
theorem rm_ex (l : Launch) (Z : State) (a0 : Array Value) (hw : ∀ d ∈ tables_1, d.before a0 Z = true) (zc : Int32) (vfm : Value) (va : Addr) (kv : ClassId) (ea : Addr) (eb : Addr) (ec : Addr) (ed : Addr) (wa : Addr) (wb : Addr) (wc : Addr) (wd : Addr) (a1 : Addr) (cs : List Int32) (h0 : Heap) (n0 : Nat) (Z0 : n0 ≤ h0.size) (S_a1 : Str Z h0.size h0 a1 cs) (hSt : St Z zc vfm va kv ea eb ec ed wa wb wc wd) (hO : Old Z n0 h0) :
    CW l Z EL ({ cls := "com/example/patient_ledger/patientledger/HoldStatusFromWireNamePinLaw", name := "expected", desc := "(Ljava/lang/String;)Lcom/example/patient_ledger/patientledger/HoldStatus;" } : Jvm.MethodName) [(Jvm.Cond.code ({ cls := "com/example/patient_ledger/patientledger/HoldStatusFromWireNamePinLaw", name := "expected", desc := "(Ljava/lang/String;)Lcom/example/patient_ledger/patientledger/HoldStatus;" } : Jvm.MethodName) method_3_code (1 : Nat) (Option.some (Jvm.ClassFile.FieldType.object "com/example/patient_ledger/patientledger/HoldStatus")))] ({ frames := 2, cells := 8, slots := 128, locals := 28 } : Room) #[(.ref a1)] h0 (Q_ex Z zc vfm va kv ea eb ec ed wa wb wc wd a1 cs h0 n0) := by
  refine CW.of (L0 := #[vR a1]) (plainFor_of_name pn_2) (fun m => by first | (simp [entryFrame, mkF, argsToLocals, Value.category]; done) | rfl) ?_
  intro p e s m below meth c s₁ hx hby hml hret hlk hZ hown hnm X0 e0 hS0 hk0 CV0 hh0
  have hEL := hEL_ (a0 := a0) hw
  have hwS := hwS_ hw
  have N0 := Fr.nil n0
  have KP0 := Keep.refl h0 []
  have hSt_ := hSt
  obtain ⟨S_cs, n_cs, S_fm, r_fm, S_va, E_va, A_va, S_ea, F_ea, S_wa, S_eb, F_eb, S_wb, S_ec, F_ec, S_wc, S_ed, F_ed, S_wd⟩ := hSt_
  show Go p e below _ (s₁.setTop (mkF m 0 #[vR a1] []))
  refine Go.step (fun _ k => XS.aloadN X0.here hx rfl (hb hby d_method_3_code_0) rfl rfl k) ?_
  show Go p e below _ (s₁.setTop (mkF m 1 #[vR a1] [(.ref a1)]))
  refine Go.step (fun _ k => XS.ifnonnullYes X0.here hx rfl (pc0 := 1) (pc' := 6) rfl (hb hby d_method_3_code_1) rfl (by decide) (by decide) k) ?_
  show Go p e below _ (s₁.setTop (mkF m 6 #[vR a1] []))
  refine Go.step (fun _ k => XS.aloadN X0.here hx rfl (hb hby d_method_3_code_6) rfl rfl k) ?_
  show Go p e below _ (s₁.setTop (mkF m 7 #[vR a1] [(.ref a1)]))
  obtain ⟨a_147, T_147, h_147, k1_147, t_147, kb_147, X_147, e_147, E_147, hS_147, hk_147, hZ_147, hown_147, Ex_147, Fc_147, Fv_147, Av_147, lta_147, ltb_147, C_147, Lt_147, -, st_147⟩ := ldcCH X0 hx hZ hown (wd_0 hw) hwS e0 hS0 hk0 hEL (by decide) CV0 (vs := [(.int (112 : Int32)), (.int (101 : Int32)), (.int (110 : Int32)), (.int (100 : Int32)), (.int (105 : Int32)), (.int (110 : Int32)), (.int (103 : Int32))]) (z := (7 : Int32)) ⟨by decide, by decide⟩ (by decide) (by decide) (g := (mkF m 7 #[vR a1] [(.ref a1)])) rfl (hb hby d_method_3_code_7) (n := 28) (by decide) (by decide) (by decide) (by decide)
  refine Go.step st_147 ?_
  have CR_147 := CHr.trans (CHr.refl CV0) C_147
  have le_147 : h0.size ≤ h_147.size := E_147.1
  have KP_147 := KP0.ext E_147
  have O_147 := hO.ext E_147
  have Sx_147 : Str Z h_147.size h_147 a_147 ([(112 : Int32), (101 : Int32), (110 : Int32), (100 : Int32), (105 : Int32), (110 : Int32), (103 : Int32)] : List Int32) := ⟨t_147, kb_147, lta_147, ltb_147, Ex_147, Fv_147, Fc_147, Av_147, by decide, by decide⟩
  show Go p e below _ (T_147.setTop (mkF m 9 #[vR a1] [(.ref a_147), (.ref a1)]))
  have f148 : Str Z h0.size h_147 a1 cs := (S_a1.ext E_147)
  have cp149 := f148
  obtain ⟨t150, kb150, -, -, Ex150, Fv150, Fc150, Av150, hl150, hn150⟩ := cp149
  have cp151 := Sx_147
  obtain ⟨t152, kb152, -, -, Ex152, Fv152, Fc152, Av152, hl152, hn152⟩ := cp151
  obtain ⟨v_153, T_153, L_153, X_153, hQ_153, st_153⟩ := goV X_147 hx hZ_147 (y := Y_1) (z := Y_1) (kc := 0) (ks := 0) (QQ := fun v h' L => ((v = some (.int 1) ∧ cs = ([(112 : Int32), (101 : Int32), (110 : Int32), (100 : Int32), (105 : Int32), (110 : Int32), (103 : Int32)] : List Int32)) ∨ (v = some (.int 0) ∧ ¬ cs = ([(112 : Int32), (101 : Int32), (110 : Int32), (100 : Int32), (105 : Int32), (110 : Int32), (103 : Int32)] : List Int32))) ∧ L = [] ∧ h' = h_147) hown_147 (wd_113 hw) (wd_102 hw) (notFace_of_selects (args := #[]) (mvT hZ_147 (wd_104 hw))) (wd_104 hw) (wd_103 hw) (by decide) (StrChars.Road.eqW (W := 0) hZ_147 (sw_wordsEq hw) (kI := 4) (wd_2 hw) Ex150 Fv150 Fc150 Av150 (StrChars.Road.codOf rfl (fun c hc => (hl150 c hc).2)) (up255 hl150) hn150 Ex152 Fv152 Fc152 Av152 (StrChars.Road.codOf rfl (fun c hc => (hl152 c hc).2)) (up255 hl152) hn152 (S_cs.ext O_147.2) n_cs (by decide) (by decide)) e_147 Ex150 (g := (mkF m 9 #[vR a1] [(.ref a_147), (.ref a1)])) rfl (by rw [hml]; rfl) (argsL := [(.ref a_147)]) (rest := []) rfl (lenOf pd_1 rfl) rfl (by show 2 * 0 + _ ≤ _; exact Nat.le_of_eq rfl) (hb hby d_method_3_code_9) (by decide) (by decide)
  obtain ⟨hv_153, rfl, e_153⟩ := hQ_153
  obtain rfl := eqv_if hv_153
  have N_153 := Fr.app N0 (Fr.nil n0)
  refine Go.step st_153 ?_
  show Go p e below _ (T_153.setTop (mkF m 12 #[vR a1] [(.int (if cs = ([(112 : Int32), (101 : Int32), (110 : Int32), (100 : Int32), (105 : Int32), (110 : Int32), (103 : Int32)] : List Int32) then (1 : Int32) else 0))]))
  by_cases u0 : cs = ([(112 : Int32), (101 : Int32), (110 : Int32), (100 : Int32), (105 : Int32), (110 : Int32), (103 : Int32)] : List Int32)
  · skip
    refine Go.step (fun _ k => XS.ifNo X_153.here hx rfl (hb hby d_method_3_code_12) rfl ((if0 _ _).trans (feq (b01_ne u0)).1) k) ?_
    show Go p e below _ (T_153.setTop (mkF m 15 #[vR a1] []))
    obtain ⟨T_154, X_154, e_154, st_154⟩ := getS2 X_153 hx hZ_147 hown_147 (host := "") (Or.inl (wd_129 hw)) Via.refl e_153 (S_ea.ext O_147.2) (g := (mkF m 15 #[vR a1] [])) rfl (hb hby d_method_3_code_15)
    refine Go.step st_154 ?_
    show Go p e below _ (T_154.setTop (mkF m 18 #[vR a1] [(.ref ea)]))
    exact Go.retVW X_154 e_154 hS_147 hk_147 hZ_147 hEL hh0 CR_147 hx hlk hret rfl (Or.inr (Or.inr (Or.inr (Or.inr ⟨rfl, rfl, rfl⟩)))) (hb hby d_method_3_code_18) (by decide) (by decide) (by rw [e_154]; exact ⟨(by rw [fwv, if_pos u0]), N_153, KP_147⟩)
  · skip
    refine Go.step (fun _ k => XS.ifYes X_153.here hx rfl (pc0 := 12) (pc' := 19) rfl (hb hby d_method_3_code_12) rfl ((if0 _ _).trans (teq (b01_eq u0)).1) (by decide) (by decide) k) ?_
    show Go p e below _ (T_153.setTop (mkF m 19 #[vR a1] []))
    refine Go.step (fun _ k => XS.aloadN X_153.here hx rfl (hb hby d_method_3_code_19) rfl rfl k) ?_
    show Go p e below _ (T_153.setTop (mkF m 20 #[vR a1] [(.ref a1)]))
    obtain ⟨a_155, T_155, h_155, k1_155, t_155, kb_155, X_155, e_155, E_155, hS_155, hk_155, hZ_155, hown_155, Ex_155, Fc_155, Fv_155, Av_155, lta_155, ltb_155, C_155, Lt_155, -, st_155⟩ := ldcCH X_153 hx hZ_147 hown_147 (wd_114 hw) hwS e_153 hS_147 hk_147 hEL (by decide) C_147.1 (vs := [(.int (99 : Int32)), (.int (97 : Int32)), (.int (112 : Int32)), (.int (116 : Int32)), (.int (117 : Int32)), (.int (114 : Int32)), (.int (101 : Int32)), (.int (100 : Int32))]) (z := (8 : Int32)) ⟨by decide, by decide⟩ (by decide) (by decide) (g := (mkF m 20 #[vR a1] [(.ref a1)])) rfl (hb hby d_method_3_code_20) (n := 32) (by decide) (by decide) (by decide) (by decide)
    refine Go.step st_155 ?_
    have CR_155 := CHr.trans CR_147 C_155
    have le_155 : h_147.size ≤ h_155.size := E_155.1
    have KP_155 := KP_147.ext E_155
    have O_155 := O_147.ext E_155
    have Sx_155 : Str Z h_155.size h_155 a_155 ([(99 : Int32), (97 : Int32), (112 : Int32), (116 : Int32), (117 : Int32), (114 : Int32), (101 : Int32), (100 : Int32)] : List Int32) := ⟨t_155, kb_155, lta_155, ltb_155, Ex_155, Fv_155, Fc_155, Av_155, by decide, by decide⟩
    show Go p e below _ (T_155.setTop (mkF m 22 #[vR a1] [(.ref a_155), (.ref a1)]))
    have f156 : Str Z h0.size h_155 a1 cs := (f148.ext E_155)
    have cp157 := f156
    obtain ⟨t158, kb158, -, -, Ex158, Fv158, Fc158, Av158, hl158, hn158⟩ := cp157
    have cp159 := Sx_155
    obtain ⟨t160, kb160, -, -, Ex160, Fv160, Fc160, Av160, hl160, hn160⟩ := cp159
    obtain ⟨v_161, T_161, L_161, X_161, hQ_161, st_161⟩ := goV X_155 hx hZ_155 (y := Y_1) (z := Y_1) (kc := 0) (ks := 0) (QQ := fun v h' L => ((v = some (.int 1) ∧ cs = ([(99 : Int32), (97 : Int32), (112 : Int32), (116 : Int32), (117 : Int32), (114 : Int32), (101 : Int32), (100 : Int32)] : List Int32)) ∨ (v = some (.int 0) ∧ ¬ cs = ([(99 : Int32), (97 : Int32), (112 : Int32), (116 : Int32), (117 : Int32), (114 : Int32), (101 : Int32), (100 : Int32)] : List Int32))) ∧ L = [] ∧ h' = h_155) hown_155 (wd_113 hw) (wd_102 hw) (notFace_of_selects (args := #[]) (mvT hZ_155 (wd_104 hw))) (wd_104 hw) (wd_103 hw) (by decide) (StrChars.Road.eqW (W := 0) hZ_155 (sw_wordsEq hw) (kI := 4) (wd_2 hw) Ex158 Fv158 Fc158 Av158 (StrChars.Road.codOf rfl (fun c hc => (hl158 c hc).2)) (up255 hl158) hn158 Ex160 Fv160 Fc160 Av160 (StrChars.Road.codOf rfl (fun c hc => (hl160 c hc).2)) (up255 hl160) hn160 (S_cs.ext O_155.2) n_cs (by decide) (by decide)) e_155 Ex158 (g := (mkF m 22 #[vR a1] [(.ref a_155), (.ref a1)])) rfl (by rw [hml]; rfl) (argsL := [(.ref a_155)]) (rest := []) rfl (lenOf pd_1 rfl) rfl (by show 2 * 0 + _ ≤ _; exact Nat.le_of_eq rfl) (hb hby d_method_3_code_22) (by decide) (by decide)
    obtain ⟨hv_161, rfl, e_161⟩ := hQ_161
    obtain rfl := eqv_if hv_161
    have N_161 := Fr.app N_153 (Fr.nil n0)
    refine Go.step st_161 ?_
    show Go p e below _ (T_161.setTop (mkF m 25 #[vR a1] [(.int (if cs = ([(99 : Int32), (97 : Int32), (112 : Int32), (116 : Int32), (117 : Int32), (114 : Int32), (101 : Int32), (100 : Int32)] : List Int32) then (1 : Int32) else 0))]))
    by_cases u1 : cs = ([(99 : Int32), (97 : Int32), (112 : Int32), (116 : Int32), (117 : Int32), (114 : Int32), (101 : Int32), (100 : Int32)] : List Int32)
    · skip
      refine Go.step (fun _ k => XS.ifNo X_161.here hx rfl (hb hby d_method_3_code_25) rfl ((if0 _ _).trans (feq (b01_ne u1)).1) k) ?_
      show Go p e below _ (T_161.setTop (mkF m 28 #[vR a1] []))
      obtain ⟨T_162, X_162, e_162, st_162⟩ := getS2 X_161 hx hZ_155 hown_155 (host := "") (Or.inl (wd_130 hw)) Via.refl e_161 (S_eb.ext O_155.2) (g := (mkF m 28 #[vR a1] [])) rfl (hb hby d_method_3_code_28)
      refine Go.step st_162 ?_
      show Go p e below _ (T_162.setTop (mkF m 31 #[vR a1] [(.ref eb)]))
      exact Go.retVW X_162 e_162 hS_155 hk_155 hZ_155 hEL hh0 CR_155 hx hlk hret rfl (Or.inr (Or.inr (Or.inr (Or.inr ⟨rfl, rfl, rfl⟩)))) (hb hby d_method_3_code_31) (by decide) (by decide) (by rw [e_162]; exact ⟨(by rw [fwv, if_neg u0, if_pos u1]), N_161, KP_155⟩)
    · skip
      refine Go.step (fun _ k => XS.ifYes X_161.here hx rfl (pc0 := 25) (pc' := 32) rfl (hb hby d_method_3_code_25) rfl ((if0 _ _).trans (teq (b01_eq u1)).1) (by decide) (by decide) k) ?_
      show Go p e below _ (T_161.setTop (mkF m 32 #[vR a1] []))
      refine Go.step (fun _ k => XS.aloadN X_161.here hx rfl (hb hby d_method_3_code_32) rfl rfl k) ?_
      show Go p e below _ (T_161.setTop (mkF m 33 #[vR a1] [(.ref a1)]))
      obtain ⟨a_163, T_163, h_163, k1_163, t_163, kb_163, X_163, e_163, E_163, hS_163, hk_163, hZ_163, hown_163, Ex_163, Fc_163, Fv_163, Av_163, lta_163, ltb_163, C_163, Lt_163, -, st_163⟩ := ldcCH X_161 hx hZ_155 hown_155 (wd_115 hw) hwS e_161 hS_155 hk_155 hEL (by decide) C_155.1 (vs := [(.int (118 : Int32)), (.int (111 : Int32)), (.int (105 : Int32)), (.int (100 : Int32)), (.int (101 : Int32)), (.int (100 : Int32))]) (z := (6 : Int32)) ⟨by decide, by decide⟩ (by decide) (by decide) (g := (mkF m 33 #[vR a1] [(.ref a1)])) rfl (hb hby d_method_3_code_33) (n := 24) (by decide) (by decide) (by decide) (by decide)
      refine Go.step st_163 ?_
      have CR_163 := CHr.trans CR_155 C_163
      have le_163 : h_155.size ≤ h_163.size := E_163.1
      have KP_163 := KP_155.ext E_163
      have O_163 := O_155.ext E_163
      have Sx_163 : Str Z h_163.size h_163 a_163 ([(118 : Int32), (111 : Int32), (105 : Int32), (100 : Int32), (101 : Int32), (100 : Int32)] : List Int32) := ⟨t_163, kb_163, lta_163, ltb_163, Ex_163, Fv_163, Fc_163, Av_163, by decide, by decide⟩
      show Go p e below _ (T_163.setTop (mkF m 35 #[vR a1] [(.ref a_163), (.ref a1)]))
      have f164 : Str Z h0.size h_163 a1 cs := (f156.ext E_163)
      have cp165 := f164
      obtain ⟨t166, kb166, -, -, Ex166, Fv166, Fc166, Av166, hl166, hn166⟩ := cp165
      have cp167 := Sx_163
      obtain ⟨t168, kb168, -, -, Ex168, Fv168, Fc168, Av168, hl168, hn168⟩ := cp167
      obtain ⟨v_169, T_169, L_169, X_169, hQ_169, st_169⟩ := goV X_163 hx hZ_163 (y := Y_1) (z := Y_1) (kc := 0) (ks := 0) (QQ := fun v h' L => ((v = some (.int 1) ∧ cs = ([(118 : Int32), (111 : Int32), (105 : Int32), (100 : Int32), (101 : Int32), (100 : Int32)] : List Int32)) ∨ (v = some (.int 0) ∧ ¬ cs = ([(118 : Int32), (111 : Int32), (105 : Int32), (100 : Int32), (101 : Int32), (100 : Int32)] : List Int32))) ∧ L = [] ∧ h' = h_163) hown_163 (wd_113 hw) (wd_102 hw) (notFace_of_selects (args := #[]) (mvT hZ_163 (wd_104 hw))) (wd_104 hw) (wd_103 hw) (by decide) (StrChars.Road.eqW (W := 0) hZ_163 (sw_wordsEq hw) (kI := 4) (wd_2 hw) Ex166 Fv166 Fc166 Av166 (StrChars.Road.codOf rfl (fun c hc => (hl166 c hc).2)) (up255 hl166) hn166 Ex168 Fv168 Fc168 Av168 (StrChars.Road.codOf rfl (fun c hc => (hl168 c hc).2)) (up255 hl168) hn168 (S_cs.ext O_163.2) n_cs (by decide) (by decide)) e_163 Ex166 (g := (mkF m 35 #[vR a1] [(.ref a_163), (.ref a1)])) rfl (by rw [hml]; rfl) (argsL := [(.ref a_163)]) (rest := []) rfl (lenOf pd_1 rfl) rfl (by show 2 * 0 + _ ≤ _; exact Nat.le_of_eq rfl) (hb hby d_method_3_code_35) (by decide) (by decide)
      obtain ⟨hv_169, rfl, e_169⟩ := hQ_169
      obtain rfl := eqv_if hv_169
      have N_169 := Fr.app N_161 (Fr.nil n0)
      refine Go.step st_169 ?_
      show Go p e below _ (T_169.setTop (mkF m 38 #[vR a1] [(.int (if cs = ([(118 : Int32), (111 : Int32), (105 : Int32), (100 : Int32), (101 : Int32), (100 : Int32)] : List Int32) then (1 : Int32) else 0))]))
      by_cases u2 : cs = ([(118 : Int32), (111 : Int32), (105 : Int32), (100 : Int32), (101 : Int32), (100 : Int32)] : List Int32)
      · skip
        refine Go.step (fun _ k => XS.ifNo X_169.here hx rfl (hb hby d_method_3_code_38) rfl ((if0 _ _).trans (feq (b01_ne u2)).1) k) ?_
        show Go p e below _ (T_169.setTop (mkF m 41 #[vR a1] []))
        obtain ⟨T_170, X_170, e_170, st_170⟩ := getS2 X_169 hx hZ_163 hown_163 (host := "") (Or.inl (wd_132 hw)) Via.refl e_169 (S_ec.ext O_163.2) (g := (mkF m 41 #[vR a1] [])) rfl (hb hby d_method_3_code_41)
        refine Go.step st_170 ?_
        show Go p e below _ (T_170.setTop (mkF m 44 #[vR a1] [(.ref ec)]))
        exact Go.retVW X_170 e_170 hS_163 hk_163 hZ_163 hEL hh0 CR_163 hx hlk hret rfl (Or.inr (Or.inr (Or.inr (Or.inr ⟨rfl, rfl, rfl⟩)))) (hb hby d_method_3_code_44) (by decide) (by decide) (by rw [e_170]; exact ⟨(by rw [fwv, if_neg u0, if_neg u1, if_pos u2]), N_169, KP_163⟩)
      · skip
        refine Go.step (fun _ k => XS.ifYes X_169.here hx rfl (pc0 := 38) (pc' := 45) rfl (hb hby d_method_3_code_38) rfl ((if0 _ _).trans (teq (b01_eq u2)).1) (by decide) (by decide) k) ?_
        show Go p e below _ (T_169.setTop (mkF m 45 #[vR a1] []))
        refine Go.step (fun _ k => XS.aloadN X_169.here hx rfl (hb hby d_method_3_code_45) rfl rfl k) ?_
        show Go p e below _ (T_169.setTop (mkF m 46 #[vR a1] [(.ref a1)]))
        obtain ⟨a_171, T_171, h_171, k1_171, t_171, kb_171, X_171, e_171, E_171, hS_171, hk_171, hZ_171, hown_171, Ex_171, Fc_171, Fv_171, Av_171, lta_171, ltb_171, C_171, Lt_171, -, st_171⟩ := ldcCH X_169 hx hZ_163 hown_163 (wd_116 hw) hwS e_169 hS_163 hk_163 hEL (by decide) C_163.1 (vs := [(.int (101 : Int32)), (.int (120 : Int32)), (.int (112 : Int32)), (.int (105 : Int32)), (.int (114 : Int32)), (.int (101 : Int32)), (.int (100 : Int32))]) (z := (7 : Int32)) ⟨by decide, by decide⟩ (by decide) (by decide) (g := (mkF m 46 #[vR a1] [(.ref a1)])) rfl (hb hby d_method_3_code_46) (n := 28) (by decide) (by decide) (by decide) (by decide)
        refine Go.step st_171 ?_
        have CR_171 := CHr.trans CR_163 C_171
        have le_171 : h_163.size ≤ h_171.size := E_171.1
        have KP_171 := KP_163.ext E_171
        have O_171 := O_163.ext E_171
        have Sx_171 : Str Z h_171.size h_171 a_171 ([(101 : Int32), (120 : Int32), (112 : Int32), (105 : Int32), (114 : Int32), (101 : Int32), (100 : Int32)] : List Int32) := ⟨t_171, kb_171, lta_171, ltb_171, Ex_171, Fv_171, Fc_171, Av_171, by decide, by decide⟩
        show Go p e below _ (T_171.setTop (mkF m 48 #[vR a1] [(.ref a_171), (.ref a1)]))
        have f172 : Str Z h0.size h_171 a1 cs := (f164.ext E_171)
        have cp173 := f172
        obtain ⟨t174, kb174, -, -, Ex174, Fv174, Fc174, Av174, hl174, hn174⟩ := cp173
        have cp175 := Sx_171
        obtain ⟨t176, kb176, -, -, Ex176, Fv176, Fc176, Av176, hl176, hn176⟩ := cp175
        obtain ⟨v_177, T_177, L_177, X_177, hQ_177, st_177⟩ := goV X_171 hx hZ_171 (y := Y_1) (z := Y_1) (kc := 0) (ks := 0) (QQ := fun v h' L => ((v = some (.int 1) ∧ cs = ([(101 : Int32), (120 : Int32), (112 : Int32), (105 : Int32), (114 : Int32), (101 : Int32), (100 : Int32)] : List Int32)) ∨ (v = some (.int 0) ∧ ¬ cs = ([(101 : Int32), (120 : Int32), (112 : Int32), (105 : Int32), (114 : Int32), (101 : Int32), (100 : Int32)] : List Int32))) ∧ L = [] ∧ h' = h_171) hown_171 (wd_113 hw) (wd_102 hw) (notFace_of_selects (args := #[]) (mvT hZ_171 (wd_104 hw))) (wd_104 hw) (wd_103 hw) (by decide) (StrChars.Road.eqW (W := 0) hZ_171 (sw_wordsEq hw) (kI := 4) (wd_2 hw) Ex174 Fv174 Fc174 Av174 (StrChars.Road.codOf rfl (fun c hc => (hl174 c hc).2)) (up255 hl174) hn174 Ex176 Fv176 Fc176 Av176 (StrChars.Road.codOf rfl (fun c hc => (hl176 c hc).2)) (up255 hl176) hn176 (S_cs.ext O_171.2) n_cs (by decide) (by decide)) e_171 Ex174 (g := (mkF m 48 #[vR a1] [(.ref a_171), (.ref a1)])) rfl (by rw [hml]; rfl) (argsL := [(.ref a_171)]) (rest := []) rfl (lenOf pd_1 rfl) rfl (by show 2 * 0 + _ ≤ _; exact Nat.le_of_eq rfl) (hb hby d_method_3_code_48) (by decide) (by decide)
        obtain ⟨hv_177, rfl, e_177⟩ := hQ_177
        obtain rfl := eqv_if hv_177
        have N_177 := Fr.app N_169 (Fr.nil n0)
        refine Go.step st_177 ?_
        show Go p e below _ (T_177.setTop (mkF m 51 #[vR a1] [(.int (if cs = ([(101 : Int32), (120 : Int32), (112 : Int32), (105 : Int32), (114 : Int32), (101 : Int32), (100 : Int32)] : List Int32) then (1 : Int32) else 0))]))
        by_cases u3 : cs = ([(101 : Int32), (120 : Int32), (112 : Int32), (105 : Int32), (114 : Int32), (101 : Int32), (100 : Int32)] : List Int32)
        · skip
          refine Go.step (fun _ k => XS.ifNo X_177.here hx rfl (hb hby d_method_3_code_51) rfl ((if0 _ _).trans (feq (b01_ne u3)).1) k) ?_
          show Go p e below _ (T_177.setTop (mkF m 54 #[vR a1] []))
          obtain ⟨T_178, X_178, e_178, st_178⟩ := getS2 X_177 hx hZ_171 hown_171 (host := "") (Or.inl (wd_131 hw)) Via.refl e_177 (S_ed.ext O_171.2) (g := (mkF m 54 #[vR a1] [])) rfl (hb hby d_method_3_code_54)
          refine Go.step st_178 ?_
          show Go p e below _ (T_178.setTop (mkF m 57 #[vR a1] [(.ref ed)]))
          exact Go.retVW X_178 e_178 hS_171 hk_171 hZ_171 hEL hh0 CR_171 hx hlk hret rfl (Or.inr (Or.inr (Or.inr (Or.inr ⟨rfl, rfl, rfl⟩)))) (hb hby d_method_3_code_57) (by decide) (by decide) (by rw [e_178]; exact ⟨(by rw [fwv, if_neg u0, if_neg u1, if_neg u2, if_pos u3]), N_177, KP_171⟩)
        · skip
          refine Go.step (fun _ k => XS.ifYes X_177.here hx rfl (pc0 := 51) (pc' := 58) rfl (hb hby d_method_3_code_51) rfl ((if0 _ _).trans (teq (b01_eq u3)).1) (by decide) (by decide) k) ?_
          show Go p e below _ (T_177.setTop (mkF m 58 #[vR a1] []))
          refine Go.step (fun _ k => XS.aconstNull X_177.here hx rfl (hb hby d_method_3_code_58) k) ?_
          show Go p e below _ (T_177.setTop (mkF m 59 #[vR a1] [.null]))
          exact Go.retVW X_177 e_177 hS_171 hk_171 hZ_171 hEL hh0 CR_171 hx hlk hret rfl (Or.inr (Or.inr (Or.inr (Or.inr ⟨rfl, rfl, rfl⟩)))) (hb hby d_method_3_code_59) (by decide) (by decide) (by rw [e_177]; exact ⟨(by rw [fwv, if_neg u0, if_neg u1, if_neg u2, if_neg u3]), N_177, KP_171⟩)
--@E
theorem chI {j : Int32} {n : Nat} (hn : n ≤ 100000) (h : 0 ≤ j.toInt ∧ j.toInt < n) : j.toNatClampNeg < n ∧ j = Int32.ofNat j.toNatClampNeg := by
  have e : (j.toNatClampNeg : Int) = j.toInt := by simp only [Int32.toNatClampNeg]; omega
  refine ⟨by omega, Int32.toInt_inj.mp ?_⟩
  rw [ofNat_toInt (by omega)]; omega
theorem getD_lat {cs : List Int32} {i : Nat} (hl : ∀ c ∈ cs, ¬ c < 0 ∧ ¬ (255 : Int32) < c) (hi : i < cs.length) : ¬ cs.getD i 0 < 0 ∧ ¬ (255 : Int32) < cs.getD i 0 := by
  rw [List.getD_eq_getElem?_getD, List.getElem?_eq_getElem hi]; exact hl _ (List.getElem_mem hi)
theorem i_add1 {i : Int32} (h : 0 ≤ i.toInt ∧ i.toInt < 5000) : (i + (1 : Int32)).toInt = i.toInt + 1 := by
  have a := c_iadd i 1
  have b := rng32 (i + 1)
  have e1 : (1 : Int32).toInt = 1 := by decide
  rw [e1] at a
  omega
theorem i_sub1 {i : Int32} (h : 0 ≤ i.toInt) : (i - (1 : Int32)).toInt = i.toInt - 1 := by
  have a := c_isub i 1
  have b := rng32 (i - 1)
  have c := rng32 i
  have e1 : (1 : Int32).toInt = 1 := by decide
  rw [e1] at a
  omega
/-- what 'at' asks of its place -/
def AtOk (n : Nat) (m p i : Int32) : Prop := n ≤ 4000 ∧ 0 ≤ i.toInt ∧ 0 ≤ p.toInt ∧ p.toInt ≤ n ∧ ((m = 0 ∨ m = 1) → i.toInt < n) ∧ (m = 2 → i.toInt + 1 < n) ∧ (¬ m = 0 → ¬ m = 1 → ¬ m = 2 → i.toInt ≤ n)
theorem AtOk.a {n : Nat} {m p i : Int32} (h : AtOk n m p i) (q : m = 0 ∨ m = 1) : 0 ≤ i.toInt ∧ i.toInt < n := ⟨h.2.1, h.2.2.2.2.1 q⟩
theorem AtOk.b {n : Nat} {m p i : Int32} (h : AtOk n m p i) (q : m = 2) : 0 ≤ i.toInt ∧ i.toInt < n := ⟨h.2.1, by have := h.2.2.2.2.2.1 q; omega⟩
theorem AtOk.c {n : Nat} {m p i : Int32} (h : AtOk n m p i) (q : m = 2) : 0 ≤ (i + (1 : Int32)).toInt ∧ (i + (1 : Int32)).toInt < n := by
  obtain ⟨h1, h2, -, -, -, h6, -⟩ := h
  have := h6 q
  rw [i_add1 (by omega)]; omega
theorem AtOk.d {n : Nat} {m p i : Int32} (h : AtOk n m p i) (q : i < p) : 0 ≤ i.toInt ∧ i.toInt < n := by
  obtain ⟨h1, h2, h3, h4, -, -, -⟩ := h
  rw [Int32.lt_iff_toInt_lt] at q; omega
theorem AtOk.e {n : Nat} {m p i : Int32} (h : AtOk n m p i) (a : ¬ m = 0) (b : ¬ m = 1) (c : ¬ m = 2) (q : ¬ i < p) (r : ¬ i = p) : 0 ≤ (i - (1 : Int32)).toInt ∧ (i - (1 : Int32)).toInt < n := by
  obtain ⟨h1, h2, h3, h4, -, -, h7⟩ := h
  have := h7 a b c
  have r' : ¬ i.toInt = p.toInt := fun z => r (Int32.toInt_inj.mp z)
  rw [Int32.lt_iff_toInt_lt] at q
  rw [i_sub1 h2]; omega
--@C at
def Q_at (Z : State) (zc : Int32) (vfm : Value) (va : Addr) (kv : ClassId) (ea : Addr) (eb : Addr) (ec : Addr) (ed : Addr) (wa : Addr) (wb : Addr) (wc : Addr) (wd : Addr) (a1 : Addr) (ws : List Int32) (m1 : Int32) (p1 : Int32) (c1 : Int32) (i1 : Int32) (h0 : Heap) (n0 : Nat) (v : Option Value) (h : Heap) (L : List Loc) : Prop := ∃ (v1 : Int32), v = some (.int v1) ∧ Fr n0 L ∧ h = h0 ∧ (¬ v1 < 0 ∧ ¬ (255 : Int32) < v1)
set_option maxRecDepth 65536 in
set_option maxHeartbeats 40000000 in
theorem rm_at (l : Launch) (Z : State) (a0 : Array Value) (hw : ∀ d ∈ tables_1, d.before a0 Z = true) (zc : Int32) (vfm : Value) (va : Addr) (kv : ClassId) (ea : Addr) (eb : Addr) (ec : Addr) (ed : Addr) (wa : Addr) (wb : Addr) (wc : Addr) (wd : Addr) (a1 : Addr) (ws : List Int32) (m1 : Int32) (p1 : Int32) (c1 : Int32) (i1 : Int32) (h0 : Heap) (n0 : Nat) (Z0 : n0 ≤ h0.size) (S_a1 : Str Z h0.size h0 a1 ws) (ho : (AtOk ws.length m1 p1 i1)) (l_c1 : (¬ c1 < 0 ∧ ¬ (255 : Int32) < c1)) (hSt : St Z zc vfm va kv ea eb ec ed wa wb wc wd) (hO : Old Z n0 h0) :
    CN l Z ({ cls := "com/example/patient_ledger/patientledger/HoldStatusFromWireNamePinLaw", name := "at", desc := "(Ljava/lang/String;IICI)C" } : Jvm.MethodName) [(Jvm.Cond.code ({ cls := "com/example/patient_ledger/patientledger/HoldStatusFromWireNamePinLaw", name := "at", desc := "(Ljava/lang/String;IICI)C" } : Jvm.MethodName) method_6_code (5 : Nat) (Option.some Jvm.ClassFile.FieldType.char))] ({ frames := 4, cells := 0, slots := 0, locals := 53 } : Room) #[(.ref a1), (.int m1), (.int p1), (.int c1), (.int i1)] h0 (Q_at Z zc vfm va kv ea eb ec ed wa wb wc wd a1 ws m1 p1 c1 i1 h0 n0) := by
  refine CN.of (L0 := #[vR a1, vI m1, vI p1, vI c1, vI i1]) (plainFor_of_name pn_2) (fun m => by first | (simp [entryFrame, mkF, argsToLocals, Value.category]; done) | rfl) ?_
  intro p e s m below meth c s₁ hx hby hml hret hlk hZ hown hnm X0 e0
  have N0 := Fr.nil n0
  have KP0 := Keep.refl h0 []
  have hSt_ := hSt
  obtain ⟨S_cs, n_cs, S_fm, r_fm, S_va, E_va, A_va, S_ea, F_ea, S_wa, S_eb, F_eb, S_wb, S_ec, F_ec, S_wc, S_ed, F_ed, S_wd⟩ := hSt_
  have hl0 := S_a1.lat
  have hle : ws.length ≤ 100000 := Nat.le_trans S_a1.le4 (by decide)
  show Go p e below _ (s₁.setTop (mkF m 0 #[vR a1, vI m1, vI p1, vI c1, vI i1] []))
  refine Go.step (fun _ k => XS.iloadN X0.here hx rfl (hb hby d_method_6_code_0) rfl  k) ?_
  show Go p e below _ (s₁.setTop (mkF m 1 #[vR a1, vI m1, vI p1, vI c1, vI i1] [(.int m1)]))
  by_cases u0 : m1 = (0 : Int32)
  · skip
    refine Go.step (fun _ k => XS.ifNo X0.here hx rfl (hb hby d_method_6_code_1) rfl ((if0 _ _).trans (teq u0).2) k) ?_
    show Go p e below _ (s₁.setTop (mkF m 4 #[vR a1, vI m1, vI p1, vI c1, vI i1] []))
    refine Go.step (fun _ k => XS.aloadN X0.here hx rfl (hb hby d_method_6_code_4) rfl rfl k) ?_
    refine Go.step (fun _ k => XS.iload X0.here hx rfl (hb hby d_method_6_code_5) rfl  k) ?_
    show Go p e below _ (s₁.setTop (mkF m 7 #[vR a1, vI m1, vI p1, vI c1, vI i1] [(.int i1), (.ref a1)]))
    have cp179 := S_a1
    obtain ⟨t180, kb180, -, -, Ex180, Fv180, Fc180, Av180, hl180, hn180⟩ := cp179
    obtain ⟨v_181, T_181, L_181, X_181, hQ_181, st_181⟩ := goV X0 hx hZ (y := Y_2) (z := Y_2) (kc := 0) (ks := 0) (QQ := fun v h' L => v = some (.int (ws.getD (i1).toNatClampNeg 0)) ∧ L = [] ∧ h' = h0) hown (wd_33 hw) (wd_34 hw) (notFace_of_selects (args := #[]) (mvT hZ (wd_36 hw))) (wd_36 hw) (wd_35 hw) (by decide) (StrChars.Road.chN (W := 0) hZ (sw_wordsChN hw) (kI := 4) (wd_2 hw) (i := (i1).toNatClampNeg) (j := i1) Ex180 Fv180 Fc180 Av180 (StrChars.Road.codOf rfl (fun c hc => (hl180 c hc).2)) (up255 hl180) (S_cs.ext hO.2) n_cs (S_fm.ext hO.2) r_fm hn180 (chI hle (ho.a (Or.inl u0))).1 (chI hle (ho.a (Or.inl u0))).2 (by decide) (by decide)) e0 Ex180 (g := (mkF m 7 #[vR a1, vI m1, vI p1, vI c1, vI i1] [(.int i1), (.ref a1)])) rfl (by rw [hml]; rfl) (argsL := [(.int i1)]) (rest := []) rfl (lenOf pd_2 rfl) rfl (by show 2 * 0 + _ ≤ _; exact Nat.le_of_eq rfl) (hb hby d_method_6_code_7) (by decide) (by decide)
    obtain ⟨rfl, rfl, e_181⟩ := hQ_181
    have N_181 := Fr.app N0 (Fr.nil n0)
    refine Go.step st_181 ?_
    show Go p e below _ (T_181.setTop (mkF m 10 #[vR a1, vI m1, vI p1, vI c1, vI i1] [(.int (ws.getD (i1).toNatClampNeg 0))]))
    exact Go.retV X_181 hx hlk hret (congrArg Value.int (nar_lat (getD_lat hl0 (chI hle (ho.a (Or.inl u0))).1))) (Or.inl ⟨rfl, Or.inr (Or.inr (Or.inr (Or.inl rfl))), _, rfl⟩) (hb hby d_method_6_code_10) (by decide) (by decide) (by rw [e_181]; exact ⟨(ws.getD (i1).toNatClampNeg 0), rfl, N_181, rfl, (getD_lat hl0 (chI hle (ho.a (Or.inl u0))).1)⟩)
  · skip
    refine Go.step (fun _ k => XS.ifYes X0.here hx rfl (pc0 := 1) (pc' := 11) rfl (hb hby d_method_6_code_1) rfl ((if0 _ _).trans (feq u0).2) (by decide) (by decide) k) ?_
    show Go p e below _ (s₁.setTop (mkF m 11 #[vR a1, vI m1, vI p1, vI c1, vI i1] []))
    refine Go.step (fun _ k => XS.iloadN X0.here hx rfl (hb hby d_method_6_code_11) rfl  k) ?_
    refine Go.step (fun _ k => XS.iconst X0.here hx rfl (hb hby d_method_6_code_12) k) ?_
    show Go p e below _ (s₁.setTop (mkF m 13 #[vR a1, vI m1, vI p1, vI c1, vI i1] [(.int (1 : Int32)), (.int m1)]))
    by_cases u1 : m1 = (1 : Int32)
    · skip
      refine Go.step (fun _ k => XS.icmpNo X0.here hx rfl (hb hby d_method_6_code_13) rfl (teq u1).2 k) ?_
      show Go p e below _ (s₁.setTop (mkF m 16 #[vR a1, vI m1, vI p1, vI c1, vI i1] []))
      refine Go.step (fun _ k => XS.iload X0.here hx rfl (hb hby d_method_6_code_16) rfl  k) ?_
      refine Go.step (fun _ k => XS.iloadN X0.here hx rfl (hb hby d_method_6_code_18) rfl  k) ?_
      show Go p e below _ (s₁.setTop (mkF m 19 #[vR a1, vI m1, vI p1, vI c1, vI i1] [(.int p1), (.int i1)]))
      by_cases u2 : i1 = p1
      · skip
        refine Go.step (fun _ k => XS.icmpNo X0.here hx rfl (hb hby d_method_6_code_19) rfl (teq u2).2 k) ?_
        show Go p e below _ (s₁.setTop (mkF m 22 #[vR a1, vI m1, vI p1, vI c1, vI i1] []))
        refine Go.step (fun _ k => XS.iloadN X0.here hx rfl (hb hby d_method_6_code_22) rfl  k) ?_
        show Go p e below _ (s₁.setTop (mkF m 23 #[vR a1, vI m1, vI p1, vI c1, vI i1] [(.int c1)]))
        refine Go.step (fun _ k => XS.goto X0.here hx rfl (pc0 := 23) (pc' := 32) rfl (hb hby d_method_6_code_23) (by decide) (by decide) k) ?_
        show Go p e below _ (s₁.setTop (mkF m 32 #[vR a1, vI m1, vI p1, vI c1, vI i1] [(.int c1)]))
        exact Go.retV X0 hx hlk hret (congrArg Value.int (nar_lat l_c1)) (Or.inl ⟨rfl, Or.inr (Or.inr (Or.inr (Or.inl rfl))), _, rfl⟩) (hb hby d_method_6_code_32) (by decide) (by decide) (by rw [e0]; exact ⟨c1, rfl, N0, rfl, l_c1⟩)
      · skip
        refine Go.step (fun _ k => XS.icmpYes X0.here hx rfl (pc0 := 19) (pc' := 26) rfl (hb hby d_method_6_code_19) rfl (feq u2).2 (by decide) (by decide) k) ?_
        show Go p e below _ (s₁.setTop (mkF m 26 #[vR a1, vI m1, vI p1, vI c1, vI i1] []))
        refine Go.step (fun _ k => XS.aloadN X0.here hx rfl (hb hby d_method_6_code_26) rfl rfl k) ?_
        refine Go.step (fun _ k => XS.iload X0.here hx rfl (hb hby d_method_6_code_27) rfl  k) ?_
        show Go p e below _ (s₁.setTop (mkF m 29 #[vR a1, vI m1, vI p1, vI c1, vI i1] [(.int i1), (.ref a1)]))
        have cp182 := S_a1
        obtain ⟨t183, kb183, -, -, Ex183, Fv183, Fc183, Av183, hl183, hn183⟩ := cp182
        obtain ⟨v_184, T_184, L_184, X_184, hQ_184, st_184⟩ := goV X0 hx hZ (y := Y_2) (z := Y_2) (kc := 0) (ks := 0) (QQ := fun v h' L => v = some (.int (ws.getD (i1).toNatClampNeg 0)) ∧ L = [] ∧ h' = h0) hown (wd_33 hw) (wd_34 hw) (notFace_of_selects (args := #[]) (mvT hZ (wd_36 hw))) (wd_36 hw) (wd_35 hw) (by decide) (StrChars.Road.chN (W := 0) hZ (sw_wordsChN hw) (kI := 4) (wd_2 hw) (i := (i1).toNatClampNeg) (j := i1) Ex183 Fv183 Fc183 Av183 (StrChars.Road.codOf rfl (fun c hc => (hl183 c hc).2)) (up255 hl183) (S_cs.ext hO.2) n_cs (S_fm.ext hO.2) r_fm hn183 (chI hle (ho.a (Or.inr u1))).1 (chI hle (ho.a (Or.inr u1))).2 (by decide) (by decide)) e0 Ex183 (g := (mkF m 29 #[vR a1, vI m1, vI p1, vI c1, vI i1] [(.int i1), (.ref a1)])) rfl (by rw [hml]; rfl) (argsL := [(.int i1)]) (rest := []) rfl (lenOf pd_2 rfl) rfl (by show 2 * 0 + _ ≤ _; exact Nat.le_of_eq rfl) (hb hby d_method_6_code_29) (by decide) (by decide)
        obtain ⟨rfl, rfl, e_184⟩ := hQ_184
        have N_184 := Fr.app N0 (Fr.nil n0)
        refine Go.step st_184 ?_
        show Go p e below _ (T_184.setTop (mkF m 32 #[vR a1, vI m1, vI p1, vI c1, vI i1] [(.int (ws.getD (i1).toNatClampNeg 0))]))
        exact Go.retV X_184 hx hlk hret (congrArg Value.int (nar_lat (getD_lat hl0 (chI hle (ho.a (Or.inr u1))).1))) (Or.inl ⟨rfl, Or.inr (Or.inr (Or.inr (Or.inl rfl))), _, rfl⟩) (hb hby d_method_6_code_32) (by decide) (by decide) (by rw [e_184]; exact ⟨(ws.getD (i1).toNatClampNeg 0), rfl, N_184, rfl, (getD_lat hl0 (chI hle (ho.a (Or.inr u1))).1)⟩)
    · skip
      refine Go.step (fun _ k => XS.icmpYes X0.here hx rfl (pc0 := 13) (pc' := 33) rfl (hb hby d_method_6_code_13) rfl (feq u1).2 (by decide) (by decide) k) ?_
      show Go p e below _ (s₁.setTop (mkF m 33 #[vR a1, vI m1, vI p1, vI c1, vI i1] []))
      refine Go.step (fun _ k => XS.iloadN X0.here hx rfl (hb hby d_method_6_code_33) rfl  k) ?_
      refine Go.step (fun _ k => XS.iconst X0.here hx rfl (hb hby d_method_6_code_34) k) ?_
      show Go p e below _ (s₁.setTop (mkF m 35 #[vR a1, vI m1, vI p1, vI c1, vI i1] [(.int (2 : Int32)), (.int m1)]))
      by_cases u3 : m1 = (2 : Int32)
      · skip
        refine Go.step (fun _ k => XS.icmpNo X0.here hx rfl (hb hby d_method_6_code_35) rfl (teq u3).2 k) ?_
        show Go p e below _ (s₁.setTop (mkF m 38 #[vR a1, vI m1, vI p1, vI c1, vI i1] []))
        refine Go.step (fun _ k => XS.iload X0.here hx rfl (hb hby d_method_6_code_38) rfl  k) ?_
        refine Go.step (fun _ k => XS.iloadN X0.here hx rfl (hb hby d_method_6_code_40) rfl  k) ?_
        show Go p e below _ (s₁.setTop (mkF m 41 #[vR a1, vI m1, vI p1, vI c1, vI i1] [(.int p1), (.int i1)]))
        by_cases u4 : i1 < p1
        · skip
          refine Go.step (fun _ k => XS.icmpNo X0.here hx rfl (hb hby d_method_6_code_41) rfl (tlt u4).2.1 k) ?_
          show Go p e below _ (s₁.setTop (mkF m 44 #[vR a1, vI m1, vI p1, vI c1, vI i1] []))
          refine Go.step (fun _ k => XS.aloadN X0.here hx rfl (hb hby d_method_6_code_44) rfl rfl k) ?_
          refine Go.step (fun _ k => XS.iload X0.here hx rfl (hb hby d_method_6_code_45) rfl  k) ?_
          show Go p e below _ (s₁.setTop (mkF m 47 #[vR a1, vI m1, vI p1, vI c1, vI i1] [(.int i1), (.ref a1)]))
          have cp185 := S_a1
          obtain ⟨t186, kb186, -, -, Ex186, Fv186, Fc186, Av186, hl186, hn186⟩ := cp185
          obtain ⟨v_187, T_187, L_187, X_187, hQ_187, st_187⟩ := goV X0 hx hZ (y := Y_2) (z := Y_2) (kc := 0) (ks := 0) (QQ := fun v h' L => v = some (.int (ws.getD (i1).toNatClampNeg 0)) ∧ L = [] ∧ h' = h0) hown (wd_33 hw) (wd_34 hw) (notFace_of_selects (args := #[]) (mvT hZ (wd_36 hw))) (wd_36 hw) (wd_35 hw) (by decide) (StrChars.Road.chN (W := 0) hZ (sw_wordsChN hw) (kI := 4) (wd_2 hw) (i := (i1).toNatClampNeg) (j := i1) Ex186 Fv186 Fc186 Av186 (StrChars.Road.codOf rfl (fun c hc => (hl186 c hc).2)) (up255 hl186) (S_cs.ext hO.2) n_cs (S_fm.ext hO.2) r_fm hn186 (chI hle (ho.b u3)).1 (chI hle (ho.b u3)).2 (by decide) (by decide)) e0 Ex186 (g := (mkF m 47 #[vR a1, vI m1, vI p1, vI c1, vI i1] [(.int i1), (.ref a1)])) rfl (by rw [hml]; rfl) (argsL := [(.int i1)]) (rest := []) rfl (lenOf pd_2 rfl) rfl (by show 2 * 0 + _ ≤ _; exact Nat.le_of_eq rfl) (hb hby d_method_6_code_47) (by decide) (by decide)
          obtain ⟨rfl, rfl, e_187⟩ := hQ_187
          have N_187 := Fr.app N0 (Fr.nil n0)
          refine Go.step st_187 ?_
          show Go p e below _ (T_187.setTop (mkF m 50 #[vR a1, vI m1, vI p1, vI c1, vI i1] [(.int (ws.getD (i1).toNatClampNeg 0))]))
          refine Go.step (fun _ k => XS.goto X_187.here hx rfl (pc0 := 50) (pc' := 61) rfl (hb hby d_method_6_code_50) (by decide) (by decide) k) ?_
          show Go p e below _ (T_187.setTop (mkF m 61 #[vR a1, vI m1, vI p1, vI c1, vI i1] [(.int (ws.getD (i1).toNatClampNeg 0))]))
          exact Go.retV X_187 hx hlk hret (congrArg Value.int (nar_lat (getD_lat hl0 (chI hle (ho.b u3)).1))) (Or.inl ⟨rfl, Or.inr (Or.inr (Or.inr (Or.inl rfl))), _, rfl⟩) (hb hby d_method_6_code_61) (by decide) (by decide) (by rw [e_187]; exact ⟨(ws.getD (i1).toNatClampNeg 0), rfl, N_187, rfl, (getD_lat hl0 (chI hle (ho.b u3)).1)⟩)
        · skip
          refine Go.step (fun _ k => XS.icmpYes X0.here hx rfl (pc0 := 41) (pc' := 53) rfl (hb hby d_method_6_code_41) rfl (flt u4).2.1 (by decide) (by decide) k) ?_
          show Go p e below _ (s₁.setTop (mkF m 53 #[vR a1, vI m1, vI p1, vI c1, vI i1] []))
          refine Go.step (fun _ k => XS.aloadN X0.here hx rfl (hb hby d_method_6_code_53) rfl rfl k) ?_
          refine Go.step (fun _ k => XS.iload X0.here hx rfl (hb hby d_method_6_code_54) rfl  k) ?_
          refine Go.step (fun _ k => XS.iconst X0.here hx rfl (hb hby d_method_6_code_56) k) ?_
          show Go p e below _ (s₁.setTop (mkF m 57 #[vR a1, vI m1, vI p1, vI c1, vI i1] [(.int (1 : Int32)), (.int i1), (.ref a1)]))
          refine Go.step (fun _ k => XS.iadd X0.here hx rfl (hb hby d_method_6_code_57) rfl k) ?_
          show Go p e below _ (s₁.setTop (mkF m 58 #[vR a1, vI m1, vI p1, vI c1, vI i1] [(.int (i1 + (1 : Int32))), (.ref a1)]))
          have cp188 := S_a1
          obtain ⟨t189, kb189, -, -, Ex189, Fv189, Fc189, Av189, hl189, hn189⟩ := cp188
          obtain ⟨v_190, T_190, L_190, X_190, hQ_190, st_190⟩ := goV X0 hx hZ (y := Y_2) (z := Y_2) (kc := 0) (ks := 0) (QQ := fun v h' L => v = some (.int (ws.getD ((i1 + (1 : Int32))).toNatClampNeg 0)) ∧ L = [] ∧ h' = h0) hown (wd_33 hw) (wd_34 hw) (notFace_of_selects (args := #[]) (mvT hZ (wd_36 hw))) (wd_36 hw) (wd_35 hw) (by decide) (StrChars.Road.chN (W := 0) hZ (sw_wordsChN hw) (kI := 4) (wd_2 hw) (i := ((i1 + (1 : Int32))).toNatClampNeg) (j := (i1 + (1 : Int32))) Ex189 Fv189 Fc189 Av189 (StrChars.Road.codOf rfl (fun c hc => (hl189 c hc).2)) (up255 hl189) (S_cs.ext hO.2) n_cs (S_fm.ext hO.2) r_fm hn189 (chI hle (ho.c u3)).1 (chI hle (ho.c u3)).2 (by decide) (by decide)) e0 Ex189 (g := (mkF m 58 #[vR a1, vI m1, vI p1, vI c1, vI i1] [(.int (i1 + (1 : Int32))), (.ref a1)])) rfl (by rw [hml]; rfl) (argsL := [(.int (i1 + (1 : Int32)))]) (rest := []) rfl (lenOf pd_2 rfl) rfl (by show 2 * 0 + _ ≤ _; exact Nat.le_of_eq rfl) (hb hby d_method_6_code_58) (by decide) (by decide)
          obtain ⟨rfl, rfl, e_190⟩ := hQ_190
          have N_190 := Fr.app N0 (Fr.nil n0)
          refine Go.step st_190 ?_
          show Go p e below _ (T_190.setTop (mkF m 61 #[vR a1, vI m1, vI p1, vI c1, vI i1] [(.int (ws.getD ((i1 + (1 : Int32))).toNatClampNeg 0))]))
          exact Go.retV X_190 hx hlk hret (congrArg Value.int (nar_lat (getD_lat hl0 (chI hle (ho.c u3)).1))) (Or.inl ⟨rfl, Or.inr (Or.inr (Or.inr (Or.inl rfl))), _, rfl⟩) (hb hby d_method_6_code_61) (by decide) (by decide) (by rw [e_190]; exact ⟨(ws.getD ((i1 + (1 : Int32))).toNatClampNeg 0), rfl, N_190, rfl, (getD_lat hl0 (chI hle (ho.c u3)).1)⟩)
      · skip
        refine Go.step (fun _ k => XS.icmpYes X0.here hx rfl (pc0 := 35) (pc' := 62) rfl (hb hby d_method_6_code_35) rfl (feq u3).2 (by decide) (by decide) k) ?_
        show Go p e below _ (s₁.setTop (mkF m 62 #[vR a1, vI m1, vI p1, vI c1, vI i1] []))
        refine Go.step (fun _ k => XS.iload X0.here hx rfl (hb hby d_method_6_code_62) rfl  k) ?_
        refine Go.step (fun _ k => XS.iloadN X0.here hx rfl (hb hby d_method_6_code_64) rfl  k) ?_
        show Go p e below _ (s₁.setTop (mkF m 65 #[vR a1, vI m1, vI p1, vI c1, vI i1] [(.int p1), (.int i1)]))
        by_cases u5 : i1 < p1
        · skip
          refine Go.step (fun _ k => XS.icmpNo X0.here hx rfl (hb hby d_method_6_code_65) rfl (tlt u5).2.1 k) ?_
          show Go p e below _ (s₁.setTop (mkF m 68 #[vR a1, vI m1, vI p1, vI c1, vI i1] []))
          refine Go.step (fun _ k => XS.aloadN X0.here hx rfl (hb hby d_method_6_code_68) rfl rfl k) ?_
          refine Go.step (fun _ k => XS.iload X0.here hx rfl (hb hby d_method_6_code_69) rfl  k) ?_
          show Go p e below _ (s₁.setTop (mkF m 71 #[vR a1, vI m1, vI p1, vI c1, vI i1] [(.int i1), (.ref a1)]))
          have cp191 := S_a1
          obtain ⟨t192, kb192, -, -, Ex192, Fv192, Fc192, Av192, hl192, hn192⟩ := cp191
          obtain ⟨v_193, T_193, L_193, X_193, hQ_193, st_193⟩ := goV X0 hx hZ (y := Y_2) (z := Y_2) (kc := 0) (ks := 0) (QQ := fun v h' L => v = some (.int (ws.getD (i1).toNatClampNeg 0)) ∧ L = [] ∧ h' = h0) hown (wd_33 hw) (wd_34 hw) (notFace_of_selects (args := #[]) (mvT hZ (wd_36 hw))) (wd_36 hw) (wd_35 hw) (by decide) (StrChars.Road.chN (W := 0) hZ (sw_wordsChN hw) (kI := 4) (wd_2 hw) (i := (i1).toNatClampNeg) (j := i1) Ex192 Fv192 Fc192 Av192 (StrChars.Road.codOf rfl (fun c hc => (hl192 c hc).2)) (up255 hl192) (S_cs.ext hO.2) n_cs (S_fm.ext hO.2) r_fm hn192 (chI hle (ho.d u5)).1 (chI hle (ho.d u5)).2 (by decide) (by decide)) e0 Ex192 (g := (mkF m 71 #[vR a1, vI m1, vI p1, vI c1, vI i1] [(.int i1), (.ref a1)])) rfl (by rw [hml]; rfl) (argsL := [(.int i1)]) (rest := []) rfl (lenOf pd_2 rfl) rfl (by show 2 * 0 + _ ≤ _; exact Nat.le_of_eq rfl) (hb hby d_method_6_code_71) (by decide) (by decide)
          obtain ⟨rfl, rfl, e_193⟩ := hQ_193
          have N_193 := Fr.app N0 (Fr.nil n0)
          refine Go.step st_193 ?_
          show Go p e below _ (T_193.setTop (mkF m 74 #[vR a1, vI m1, vI p1, vI c1, vI i1] [(.int (ws.getD (i1).toNatClampNeg 0))]))
          exact Go.retV X_193 hx hlk hret (congrArg Value.int (nar_lat (getD_lat hl0 (chI hle (ho.d u5)).1))) (Or.inl ⟨rfl, Or.inr (Or.inr (Or.inr (Or.inl rfl))), _, rfl⟩) (hb hby d_method_6_code_74) (by decide) (by decide) (by rw [e_193]; exact ⟨(ws.getD (i1).toNatClampNeg 0), rfl, N_193, rfl, (getD_lat hl0 (chI hle (ho.d u5)).1)⟩)
        · skip
          refine Go.step (fun _ k => XS.icmpYes X0.here hx rfl (pc0 := 65) (pc' := 75) rfl (hb hby d_method_6_code_65) rfl (flt u5).2.1 (by decide) (by decide) k) ?_
          show Go p e below _ (s₁.setTop (mkF m 75 #[vR a1, vI m1, vI p1, vI c1, vI i1] []))
          refine Go.step (fun _ k => XS.iload X0.here hx rfl (hb hby d_method_6_code_75) rfl  k) ?_
          refine Go.step (fun _ k => XS.iloadN X0.here hx rfl (hb hby d_method_6_code_77) rfl  k) ?_
          show Go p e below _ (s₁.setTop (mkF m 78 #[vR a1, vI m1, vI p1, vI c1, vI i1] [(.int p1), (.int i1)]))
          by_cases u6 : i1 = p1
          · skip
            refine Go.step (fun _ k => XS.icmpNo X0.here hx rfl (hb hby d_method_6_code_78) rfl (teq u6).2 k) ?_
            show Go p e below _ (s₁.setTop (mkF m 81 #[vR a1, vI m1, vI p1, vI c1, vI i1] []))
            refine Go.step (fun _ k => XS.iloadN X0.here hx rfl (hb hby d_method_6_code_81) rfl  k) ?_
            show Go p e below _ (s₁.setTop (mkF m 82 #[vR a1, vI m1, vI p1, vI c1, vI i1] [(.int c1)]))
            exact Go.retV X0 hx hlk hret (congrArg Value.int (nar_lat l_c1)) (Or.inl ⟨rfl, Or.inr (Or.inr (Or.inr (Or.inl rfl))), _, rfl⟩) (hb hby d_method_6_code_82) (by decide) (by decide) (by rw [e0]; exact ⟨c1, rfl, N0, rfl, l_c1⟩)
          · skip
            refine Go.step (fun _ k => XS.icmpYes X0.here hx rfl (pc0 := 78) (pc' := 83) rfl (hb hby d_method_6_code_78) rfl (feq u6).2 (by decide) (by decide) k) ?_
            show Go p e below _ (s₁.setTop (mkF m 83 #[vR a1, vI m1, vI p1, vI c1, vI i1] []))
            refine Go.step (fun _ k => XS.aloadN X0.here hx rfl (hb hby d_method_6_code_83) rfl rfl k) ?_
            refine Go.step (fun _ k => XS.iload X0.here hx rfl (hb hby d_method_6_code_84) rfl  k) ?_
            refine Go.step (fun _ k => XS.iconst X0.here hx rfl (hb hby d_method_6_code_86) k) ?_
            show Go p e below _ (s₁.setTop (mkF m 87 #[vR a1, vI m1, vI p1, vI c1, vI i1] [(.int (1 : Int32)), (.int i1), (.ref a1)]))
            refine Go.step (fun _ k => XS.isub X0.here hx rfl (hb hby d_method_6_code_87) rfl k) ?_
            show Go p e below _ (s₁.setTop (mkF m 88 #[vR a1, vI m1, vI p1, vI c1, vI i1] [(.int (i1 - (1 : Int32))), (.ref a1)]))
            have cp194 := S_a1
            obtain ⟨t195, kb195, -, -, Ex195, Fv195, Fc195, Av195, hl195, hn195⟩ := cp194
            obtain ⟨v_196, T_196, L_196, X_196, hQ_196, st_196⟩ := goV X0 hx hZ (y := Y_2) (z := Y_2) (kc := 0) (ks := 0) (QQ := fun v h' L => v = some (.int (ws.getD ((i1 - (1 : Int32))).toNatClampNeg 0)) ∧ L = [] ∧ h' = h0) hown (wd_33 hw) (wd_34 hw) (notFace_of_selects (args := #[]) (mvT hZ (wd_36 hw))) (wd_36 hw) (wd_35 hw) (by decide) (StrChars.Road.chN (W := 0) hZ (sw_wordsChN hw) (kI := 4) (wd_2 hw) (i := ((i1 - (1 : Int32))).toNatClampNeg) (j := (i1 - (1 : Int32))) Ex195 Fv195 Fc195 Av195 (StrChars.Road.codOf rfl (fun c hc => (hl195 c hc).2)) (up255 hl195) (S_cs.ext hO.2) n_cs (S_fm.ext hO.2) r_fm hn195 (chI hle (ho.e u0 u1 u3 u5 u6)).1 (chI hle (ho.e u0 u1 u3 u5 u6)).2 (by decide) (by decide)) e0 Ex195 (g := (mkF m 88 #[vR a1, vI m1, vI p1, vI c1, vI i1] [(.int (i1 - (1 : Int32))), (.ref a1)])) rfl (by rw [hml]; rfl) (argsL := [(.int (i1 - (1 : Int32)))]) (rest := []) rfl (lenOf pd_2 rfl) rfl (by show 2 * 0 + _ ≤ _; exact Nat.le_of_eq rfl) (hb hby d_method_6_code_88) (by decide) (by decide)
            obtain ⟨rfl, rfl, e_196⟩ := hQ_196
            have N_196 := Fr.app N0 (Fr.nil n0)
            refine Go.step st_196 ?_
            show Go p e below _ (T_196.setTop (mkF m 91 #[vR a1, vI m1, vI p1, vI c1, vI i1] [(.int (ws.getD ((i1 - (1 : Int32))).toNatClampNeg 0))]))
            exact Go.retV X_196 hx hlk hret (congrArg Value.int (nar_lat (getD_lat hl0 (chI hle (ho.e u0 u1 u3 u5 u6)).1))) (Or.inl ⟨rfl, Or.inr (Or.inr (Or.inr (Or.inl rfl))), _, rfl⟩) (hb hby d_method_6_code_91) (by decide) (by decide) (by rw [e_196]; exact ⟨(ws.getD ((i1 - (1 : Int32))).toNatClampNeg 0), rfl, N_196, rfl, (getD_lat hl0 (chI hle (ho.e u0 u1 u3 u5 u6)).1)⟩)
--@E
theorem idx_lt {i z : Int32} {n : Nat} (hn : n ≤ 100) (hz : z = Int32.ofNat n) (h0 : ¬ i < 0) (q : i < z) : i.toNatClampNeg < n := by
  subst hz
  rw [Int32.lt_iff_toInt_lt] at h0 q
  rw [ofNat_toInt (by omega)] at q
  have e2 : (0 : Int32).toInt = 0 := by decide
  exact (chI (by omega) ⟨by omega, by omega⟩).1
theorem set_lat {vs : List Int32} {i : Nat} {v : Int32} (h : ∀ c ∈ vs, ¬ c < 0 ∧ ¬ (255 : Int32) < c) (hv : ¬ v < 0 ∧ ¬ (255 : Int32) < v) : ∀ c ∈ vs.set i v, ¬ c < 0 ∧ ¬ (255 : Int32) < c := fun c hc => by
  rcases List.mem_or_eq_of_mem_set hc with q | rfl
  · exact h c q
  · exact hv
--@C put
def Q_put (Z : State) (zc : Int32) (vfm : Value) (va : Addr) (kv : ClassId) (ea : Addr) (eb : Addr) (ec : Addr) (ed : Addr) (wa : Addr) (wb : Addr) (wc : Addr) (wd : Addr) (a1 : Addr) (k1 : ClassId) (z1 : Int32) (vs : List Int32) (i1 : Int32) (w1 : Addr) (ws : List Int32) (m1 : Int32) (p1 : Int32) (c1 : Int32) (h0 : Heap) (n0 : Nat) (v : Option Value) (h : Heap) (L : List Loc) : Prop := ∃ (vs2 : List Int32), v = none ∧ Fr n0 L ∧ Keep h0 h [a1] ∧ Arv Z h a1 k1 .char z1 (vs2.map Value.int) (.int (0 : Int32)) ∧ (vs2.length = vs.length ∧ ∀ c ∈ vs2, ¬ c < 0 ∧ ¬ (255 : Int32) < c)
set_option maxRecDepth 65536 in
set_option maxHeartbeats 40000000 in
theorem rm_put (l : Launch) (Z : State) (a0 : Array Value) (hw : ∀ d ∈ tables_1, d.before a0 Z = true) (zc : Int32) (vfm : Value) (va : Addr) (kv : ClassId) (ea : Addr) (eb : Addr) (ec : Addr) (ed : Addr) (wa : Addr) (wb : Addr) (wc : Addr) (wd : Addr) (a1 : Addr) (k1 : ClassId) (z1 : Int32) (vs : List Int32) (i1 : Int32) (w1 : Addr) (ws : List Int32) (m1 : Int32) (p1 : Int32) (c1 : Int32) (h0 : Heap) (n0 : Nat) (Z0 : n0 ≤ h0.size) (A_a1 : Arv Z h0 a1 k1 .char z1 (vs.map Value.int) (.int (0 : Int32))) (g_a1 : n0 ≤ a1) (S_w1 : Str Z h0.size h0 w1 ws) (hz : (z1 = Int32.ofNat vs.length)) (hvl : (vs.length ≤ 100)) (hlv : (∀ c ∈ vs, ¬ c < 0 ∧ ¬ (255 : Int32) < c)) (hi0 : (¬ i1 < 0)) (hok : (i1 < z1 → AtOk ws.length m1 p1 i1)) (l_c1 : (¬ c1 < 0 ∧ ¬ (255 : Int32) < c1)) (hSt : St Z zc vfm va kv ea eb ec ed wa wb wc wd) (hO : Old Z n0 h0) :
    CN l Z ({ cls := "com/example/patient_ledger/patientledger/HoldStatusFromWireNamePinLaw", name := "put", desc := "([CILjava/lang/String;IIC)V" } : Jvm.MethodName) [(Jvm.Cond.code ({ cls := "com/example/patient_ledger/patientledger/HoldStatusFromWireNamePinLaw", name := "put", desc := "([CILjava/lang/String;IIC)V" } : Jvm.MethodName) method_5_code (6 : Nat) (Option.none : Option Jvm.ClassFile.FieldType))] ({ frames := 5, cells := 0, slots := 0, locals := 71 } : Room) #[(.ref a1), (.int i1), (.ref w1), (.int m1), (.int p1), (.int c1)] h0 (Q_put Z zc vfm va kv ea eb ec ed wa wb wc wd a1 k1 z1 vs i1 w1 ws m1 p1 c1 h0 n0) := by
  refine CN.of (L0 := #[vR a1, vI i1, vR w1, vI m1, vI p1, vI c1]) (plainFor_of_name pn_2) (fun m => by first | (simp [entryFrame, mkF, argsToLocals, Value.category]; done) | rfl) ?_
  intro p e s m below meth c s₁ hx hby hml hret hlk hZ hown hnm X0 e0
  have N0 := Fr.nil n0
  have KP0 := Keep.refl h0 [a1]
  have hSt_ := hSt
  obtain ⟨S_cs, n_cs, S_fm, r_fm, S_va, E_va, A_va, S_ea, F_ea, S_wa, S_eb, F_eb, S_wb, S_ec, F_ec, S_wc, S_ed, F_ed, S_wd⟩ := hSt_
  have hidx : i1 < z1 → i1.toNatClampNeg < vs.length := fun q => idx_lt hvl hz hi0 q
  show Go p e below _ (s₁.setTop (mkF m 0 #[vR a1, vI i1, vR w1, vI m1, vI p1, vI c1] []))
  refine Go.step (fun _ k => XS.iloadN X0.here hx rfl (hb hby d_method_5_code_0) rfl  k) ?_
  refine Go.step (fun _ k => XS.aloadN X0.here hx rfl (hb hby d_method_5_code_1) rfl rfl k) ?_
  show Go p e below _ (s₁.setTop (mkF m 2 #[vR a1, vI i1, vR w1, vI m1, vI p1, vI c1] [(.ref a1), (.int i1)]))
  have cp198 := A_a1
  obtain ⟨cl_197, Ar_197, -, Sz_197, Ng_197, -, -⟩ := cp198
  refine Go.step (fun _ k => X0.arraylength hx (by rw [e0]; exact Ar_197.1) (State.isArrayOf_alike hZ.alike Ar_197.2.1) (g := (mkF m 2 #[vR a1, vI i1, vR w1, vI m1, vI p1, vI c1] [(.ref a1), (.int i1)])) rfl rfl (hb hby d_method_5_code_2) _ k) ?_
  rw [len_of Sz_197 Ng_197]
  show Go p e below _ (s₁.setTop (mkF m 3 #[vR a1, vI i1, vR w1, vI m1, vI p1, vI c1] [(.int z1), (.int i1)]))
  by_cases u0 : i1 < z1
  · skip
    refine Go.step (fun _ k => XS.icmpNo X0.here hx rfl (hb hby d_method_5_code_3) rfl (tlt u0).2.1 k) ?_
    show Go p e below _ (s₁.setTop (mkF m 6 #[vR a1, vI i1, vR w1, vI m1, vI p1, vI c1] []))
    refine Go.step (fun _ k => XS.aloadN X0.here hx rfl (hb hby d_method_5_code_6) rfl rfl k) ?_
    refine Go.step (fun _ k => XS.iloadN X0.here hx rfl (hb hby d_method_5_code_7) rfl  k) ?_
    refine Go.step (fun _ k => XS.aloadN X0.here hx rfl (hb hby d_method_5_code_8) rfl rfl k) ?_
    refine Go.step (fun _ k => XS.iloadN X0.here hx rfl (hb hby d_method_5_code_9) rfl  k) ?_
    refine Go.step (fun _ k => XS.iload X0.here hx rfl (hb hby d_method_5_code_10) rfl  k) ?_
    show Go p e below _ (s₁.setTop (mkF m 12 #[vR a1, vI i1, vR w1, vI m1, vI p1, vI c1] [(.int p1), (.int m1), (.ref w1), (.int i1), (.ref a1)]))
    refine Go.step (fun _ k => XS.iload X0.here hx rfl (hb hby d_method_5_code_12) rfl  k) ?_
    refine Go.step (fun _ k => XS.iloadN X0.here hx rfl (hb hby d_method_5_code_14) rfl  k) ?_
    show Go p e below _ (s₁.setTop (mkF m 15 #[vR a1, vI i1, vR w1, vI m1, vI p1, vI c1] [(.int i1), (.int c1), (.int p1), (.int m1), (.ref w1), (.int i1), (.ref a1)]))
    obtain ⟨v_199, T_199, L_199, X_199, hQ_199, st_199⟩ := goS X0 hx hZ (y := Y_3) hown (wd_30 hw) (wd_31 hw) (wd_24 hw) (wd_32 hw) (by decide) (backOf (W := 2) (rm_at l Z a0 hw zc vfm va kv ea eb ec ed wa wb wc wd (w1) (ws) (m1) (p1) (c1) (i1) h0 n0 (Nat.le_trans Z0 KP0.1) S_w1 (hok u0) l_c1 hSt hO) hZ (wd_32 hw) (wd_24 hw) (by decide) (by decide)) e0 (g := (mkF m 15 #[vR a1, vI i1, vR w1, vI m1, vI p1, vI c1] [(.int i1), (.int c1), (.int p1), (.int m1), (.ref w1), (.int i1), (.ref a1)])) rfl (by rw [hml]; rfl) (argsL := [(.ref w1), (.int m1), (.int p1), (.int c1), (.int i1)]) (rest := [(.int i1), (.ref a1)]) rfl (lenOf pd_3 rfl) rfl (by show 2 * 0 + _ ≤ _; exact Nat.le_of_eq rfl) (hb hby d_method_5_code_15) (by decide) (by decide)
    obtain ⟨v1_199, rfl, Nq_199, e_199, u0_199⟩ := hQ_199
    have N_199 := Fr.app N0 Nq_199
    have hlat_199 := u0_199
    refine Go.step st_199 ?_
    show Go p e below _ (T_199.setTop (mkF m 18 #[vR a1, vI i1, vR w1, vI m1, vI p1, vI c1] [(.int v1_199), (.int i1), (.ref a1)]))
    have cp201 := A_a1
    obtain ⟨cl_200, Ar_200, ck_200, Sz_200, Ng_200, Hs_200, Gs_200⟩ := cp201
    have hin_200 : ¬ (i1 < 0 ∨ cl_200.slots.size ≤ (i1).toNatClampNeg) := inb_of Sz_200 ⟨hi0, u0⟩
    obtain ⟨T_200, h_200, X_200, e_200, W_200, st_200⟩ := stC X_199 hx hZ e_199 Ar_200 (j := i1) hin_200 (g := (mkF m 18 #[vR a1, vI i1, vR w1, vI m1, vI p1, vI c1] [(.int v1_199), (.int i1), (.ref a1)])) rfl rfl (hb hby d_method_5_code_18)
    refine Go.step st_200 ?_
    have N_200 := Fr.snoc X_200 N_199 g_a1
    have le_200 : h0.size ≤ h_200.size := Nat.le_of_eq W_200.size.symm
    have KP_200 := KP0.wr W_200 (Or.inl (List.mem_of_getElem? (i := 0) rfl))
    have O_200 := hO.wr W_200 g_a1
    have V_200 : Arv Z h_200 a1 k1 .char z1 ((vs.set i1.toNatClampNeg v1_199).map Value.int) (.int (0 : Int32)) := by
      have q := Arv.set Ar_200 ck_200 Sz_200 Ng_200 Hs_200 Gs_200 (fits_nar_char _) W_200 i1.toNatClampNeg rfl (by rw [List.length_map]; exact hidx u0)
      rw [nar_lat hlat_199, ← List.map_set] at q; exact q
    show Go p e below _ (T_200.setTop (mkF m 19 #[vR a1, vI i1, vR w1, vI m1, vI p1, vI c1] []))
    exact Go.ret0 X_200 hx hlk hret (hb hby d_method_5_code_19) (by decide) (by decide) (by rw [e_200]; exact ⟨(vs.set i1.toNatClampNeg v1_199), rfl, N_200, KP_200, V_200, ⟨List.length_set, set_lat hlv hlat_199⟩⟩)
  · skip
    refine Go.step (fun _ k => XS.icmpYes X0.here hx rfl (pc0 := 3) (pc' := 19) rfl (hb hby d_method_5_code_3) rfl (flt u0).2.1 (by decide) (by decide) k) ?_
    show Go p e below _ (s₁.setTop (mkF m 19 #[vR a1, vI i1, vR w1, vI m1, vI p1, vI c1] []))
    exact Go.ret0 X0 hx hlk hret (hb hby d_method_5_code_19) (by decide) (by decide) (by rw [e0]; exact ⟨vs, rfl, N0, KP0, A_a1, ⟨rfl, hlv⟩⟩)
--@E
--@C make5
def Q_make5 (Z : State) (zc : Int32) (vfm : Value) (va : Addr) (kv : ClassId) (ea : Addr) (eb : Addr) (ec : Addr) (ed : Addr) (wa : Addr) (wb : Addr) (wc : Addr) (wd : Addr) (h0 : Heap) (n0 : Nat) (v : Option Value) (h : Heap) (L : List Loc) : Prop := ∃ (r : Addr) (kr : ClassId), v = some (.ref r) ∧ Fr n0 L ∧ Keep h0 h [] ∧ h0.size ≤ r ∧ Arv Z h r kr .char (5 : Int32) [(.int (0 : Int32)), (.int (0 : Int32)), (.int (0 : Int32)), (.int (0 : Int32)), (.int (0 : Int32))] (.int (0 : Int32))
set_option maxRecDepth 65536 in
set_option maxHeartbeats 40000000 in
theorem rm_make5 (l : Launch) (Z : State) (a0 : Array Value) (hw : ∀ d ∈ tables_1, d.before a0 Z = true) (zc : Int32) (vfm : Value) (va : Addr) (kv : ClassId) (ea : Addr) (eb : Addr) (ec : Addr) (ed : Addr) (wa : Addr) (wb : Addr) (wc : Addr) (wd : Addr) (h0 : Heap) (n0 : Nat) (Z0 : n0 ≤ h0.size) (hSt : St Z zc vfm va kv ea eb ec ed wa wb wc wd) (hO : Old Z n0 h0) :
    CN l Z ({ cls := "com/example/patient_ledger/patientledger/HoldStatusFromWireNamePinLaw", name := "make", desc := "(I)[C" } : Jvm.MethodName) [(Jvm.Cond.code ({ cls := "com/example/patient_ledger/patientledger/HoldStatusFromWireNamePinLaw", name := "make", desc := "(I)[C" } : Jvm.MethodName) method_4_code (1 : Nat) (Option.some (Jvm.ClassFile.FieldType.array Jvm.ClassFile.FieldType.char)))] ({ frames := 0, cells := 1, slots := 5, locals := 0 } : Room) #[(.int (5 : Int32))] h0 (Q_make5 Z zc vfm va kv ea eb ec ed wa wb wc wd h0 n0) := by
  refine CN.of (L0 := #[vI 5]) (plainFor_of_name pn_2) (fun m => by first | (simp [entryFrame, mkF, argsToLocals, Value.category]; done) | rfl) ?_
  intro p e s m below meth c s₁ hx hby hml hret hlk hZ hown hnm X0 e0
  have N0 := Fr.nil n0
  have KP0 := Keep.refl h0 []
  have hSt_ := hSt
  obtain ⟨S_cs, n_cs, S_fm, r_fm, S_va, E_va, A_va, S_ea, F_ea, S_wa, S_eb, F_eb, S_wb, S_ec, F_ec, S_wc, S_ed, F_ed, S_wd⟩ := hSt_
  show Go p e below _ (s₁.setTop (mkF m 0 #[vI 5] []))
  refine Go.step (fun _ k => XS.iloadN X0.here hx rfl (hb hby d_method_4_code_0) rfl  k) ?_
  refine Go.step (fun _ k => XS.iconst X0.here hx rfl (hb hby d_method_4_code_1) k) ?_
  show Go p e below _ (s₁.setTop (mkF m 2 #[vI 5] [(.int (5 : Int32)), (.int (5 : Int32))]))
  refine Go.step (fun _ k => XS.icmpNo X0.here hx rfl (hb hby d_method_4_code_2) rfl (teq ((by decide) : (5 : Int32) = (5 : Int32))).2 k) ?_
  show Go p e below _ (s₁.setTop (mkF m 5 #[vI 5] []))
  refine Go.step (fun _ k => XS.iconst X0.here hx rfl (hb hby d_method_4_code_5) k) ?_
  show Go p e below _ (s₁.setTop (mkF m 6 #[vI 5] [(.int (5 : Int32))]))
  obtain ⟨T_202, h_202, k_202, X_202, e_202, E_202, A_202, st_202⟩ := newP X0 hx hZ (aty := .char) (wd_26 hw) e0 (g := (mkF m 6 #[vI 5] [(.int (5 : Int32))])) rfl (hb hby d_method_4_code_6) rfl (by decide) (cap := 5) (by decide) (by decide) (by decide) (by decide)
  obtain ⟨b202, q_202⟩ : ∃ z, z = h0.size := ⟨_, rfl⟩
  rw [← q_202] at A_202 st_202
  refine Go.step st_202 ?_
  have le_202 : h0.size ≤ h_202.size := E_202.1
  have KP_202 := KP0.ext E_202
  have O_202 := hO.ext E_202
  have ge_202 : h0.size ≤ b202 := Nat.le_of_eq q_202.symm
  have sz_b202 : h0.size ≤ b202 := Nat.le_trans (Nat.le_refl _) ge_202
  have g_b202 : n0 ≤ b202 := Nat.le_trans Z0 sz_b202
  have V_202 : Arv Z h_202 b202 k_202 .char (5 : Int32) [(.int (0 : Int32)), (.int (0 : Int32)), (.int (0 : Int32)), (.int (0 : Int32)), (.int (0 : Int32))] (.int (0 : Int32)) := (Arv.new A_202 (by decide)).pad (pad_rep [] (.int (0 : Int32)) 5)
  show Go p e below _ (T_202.setTop (mkF m 8 #[vI 5] [(.ref b202)]))
  exact Go.retV X_202 hx hlk hret rfl (Or.inr (Or.inr (Or.inr (Or.inr ⟨rfl, rfl, rfl⟩)))) (hb hby d_method_4_code_8) (by decide) (by decide) (by rw [e_202]; exact ⟨b202, k_202, rfl, N0, KP_202, sz_b202, V_202⟩)
--@E
--@C make6
def Q_make6 (Z : State) (zc : Int32) (vfm : Value) (va : Addr) (kv : ClassId) (ea : Addr) (eb : Addr) (ec : Addr) (ed : Addr) (wa : Addr) (wb : Addr) (wc : Addr) (wd : Addr) (h0 : Heap) (n0 : Nat) (v : Option Value) (h : Heap) (L : List Loc) : Prop := ∃ (r : Addr) (kr : ClassId), v = some (.ref r) ∧ Fr n0 L ∧ Keep h0 h [] ∧ h0.size ≤ r ∧ Arv Z h r kr .char (6 : Int32) [(.int (0 : Int32)), (.int (0 : Int32)), (.int (0 : Int32)), (.int (0 : Int32)), (.int (0 : Int32)), (.int (0 : Int32))] (.int (0 : Int32))
set_option maxRecDepth 65536 in
set_option maxHeartbeats 40000000 in
theorem rm_make6 (l : Launch) (Z : State) (a0 : Array Value) (hw : ∀ d ∈ tables_1, d.before a0 Z = true) (zc : Int32) (vfm : Value) (va : Addr) (kv : ClassId) (ea : Addr) (eb : Addr) (ec : Addr) (ed : Addr) (wa : Addr) (wb : Addr) (wc : Addr) (wd : Addr) (h0 : Heap) (n0 : Nat) (Z0 : n0 ≤ h0.size) (hSt : St Z zc vfm va kv ea eb ec ed wa wb wc wd) (hO : Old Z n0 h0) :
    CN l Z ({ cls := "com/example/patient_ledger/patientledger/HoldStatusFromWireNamePinLaw", name := "make", desc := "(I)[C" } : Jvm.MethodName) [(Jvm.Cond.code ({ cls := "com/example/patient_ledger/patientledger/HoldStatusFromWireNamePinLaw", name := "make", desc := "(I)[C" } : Jvm.MethodName) method_4_code (1 : Nat) (Option.some (Jvm.ClassFile.FieldType.array Jvm.ClassFile.FieldType.char)))] ({ frames := 0, cells := 1, slots := 6, locals := 0 } : Room) #[(.int (6 : Int32))] h0 (Q_make6 Z zc vfm va kv ea eb ec ed wa wb wc wd h0 n0) := by
  refine CN.of (L0 := #[vI 6]) (plainFor_of_name pn_2) (fun m => by first | (simp [entryFrame, mkF, argsToLocals, Value.category]; done) | rfl) ?_
  intro p e s m below meth c s₁ hx hby hml hret hlk hZ hown hnm X0 e0
  have N0 := Fr.nil n0
  have KP0 := Keep.refl h0 []
  have hSt_ := hSt
  obtain ⟨S_cs, n_cs, S_fm, r_fm, S_va, E_va, A_va, S_ea, F_ea, S_wa, S_eb, F_eb, S_wb, S_ec, F_ec, S_wc, S_ed, F_ed, S_wd⟩ := hSt_
  show Go p e below _ (s₁.setTop (mkF m 0 #[vI 6] []))
  refine Go.step (fun _ k => XS.iloadN X0.here hx rfl (hb hby d_method_4_code_0) rfl  k) ?_
  refine Go.step (fun _ k => XS.iconst X0.here hx rfl (hb hby d_method_4_code_1) k) ?_
  show Go p e below _ (s₁.setTop (mkF m 2 #[vI 6] [(.int (5 : Int32)), (.int (6 : Int32))]))
  refine Go.step (fun _ k => XS.icmpYes X0.here hx rfl (pc0 := 2) (pc' := 9) rfl (hb hby d_method_4_code_2) rfl (feq ((by decide) : ¬ ((6 : Int32) = (5 : Int32)))).2 (by decide) (by decide) k) ?_
  show Go p e below _ (s₁.setTop (mkF m 9 #[vI 6] []))
  refine Go.step (fun _ k => XS.iloadN X0.here hx rfl (hb hby d_method_4_code_9) rfl  k) ?_
  refine Go.step (fun _ k => XS.bipush X0.here hx rfl (hb hby d_method_4_code_10) k) ?_
  show Go p e below _ (s₁.setTop (mkF m 12 #[vI 6] [(.int (6 : Int32)), (.int (6 : Int32))]))
  refine Go.step (fun _ k => XS.icmpNo X0.here hx rfl (hb hby d_method_4_code_12) rfl (teq ((by decide) : (6 : Int32) = (6 : Int32))).2 k) ?_
  show Go p e below _ (s₁.setTop (mkF m 15 #[vI 6] []))
  refine Go.step (fun _ k => XS.bipush X0.here hx rfl (hb hby d_method_4_code_15) k) ?_
  show Go p e below _ (s₁.setTop (mkF m 17 #[vI 6] [(.int (6 : Int32))]))
  obtain ⟨T_203, h_203, k_203, X_203, e_203, E_203, A_203, st_203⟩ := newP X0 hx hZ (aty := .char) (wd_26 hw) e0 (g := (mkF m 17 #[vI 6] [(.int (6 : Int32))])) rfl (hb hby d_method_4_code_17) rfl (by decide) (cap := 6) (by decide) (by decide) (by decide) (by decide)
  obtain ⟨b203, q_203⟩ : ∃ z, z = h0.size := ⟨_, rfl⟩
  rw [← q_203] at A_203 st_203
  refine Go.step st_203 ?_
  have le_203 : h0.size ≤ h_203.size := E_203.1
  have KP_203 := KP0.ext E_203
  have O_203 := hO.ext E_203
  have ge_203 : h0.size ≤ b203 := Nat.le_of_eq q_203.symm
  have sz_b203 : h0.size ≤ b203 := Nat.le_trans (Nat.le_refl _) ge_203
  have g_b203 : n0 ≤ b203 := Nat.le_trans Z0 sz_b203
  have V_203 : Arv Z h_203 b203 k_203 .char (6 : Int32) [(.int (0 : Int32)), (.int (0 : Int32)), (.int (0 : Int32)), (.int (0 : Int32)), (.int (0 : Int32)), (.int (0 : Int32))] (.int (0 : Int32)) := (Arv.new A_203 (by decide)).pad (pad_rep [] (.int (0 : Int32)) 6)
  show Go p e below _ (T_203.setTop (mkF m 19 #[vI 6] [(.ref b203)]))
  exact Go.retV X_203 hx hlk hret rfl (Or.inr (Or.inr (Or.inr (Or.inr ⟨rfl, rfl, rfl⟩)))) (hb hby d_method_4_code_19) (by decide) (by decide) (by rw [e_203]; exact ⟨b203, k_203, rfl, N0, KP_203, sz_b203, V_203⟩)
--@E
--@C make7
def Q_make7 (Z : State) (zc : Int32) (vfm : Value) (va : Addr) (kv : ClassId) (ea : Addr) (eb : Addr) (ec : Addr) (ed : Addr) (wa : Addr) (wb : Addr) (wc : Addr) (wd : Addr) (h0 : Heap) (n0 : Nat) (v : Option Value) (h : Heap) (L : List Loc) : Prop := ∃ (r : Addr) (kr : ClassId), v = some (.ref r) ∧ Fr n0 L ∧ Keep h0 h [] ∧ h0.size ≤ r ∧ Arv Z h r kr .char (7 : Int32) [(.int (0 : Int32)), (.int (0 : Int32)), (.int (0 : Int32)), (.int (0 : Int32)), (.int (0 : Int32)), (.int (0 : Int32)), (.int (0 : Int32))] (.int (0 : Int32))
set_option maxRecDepth 65536 in
set_option maxHeartbeats 40000000 in
theorem rm_make7 (l : Launch) (Z : State) (a0 : Array Value) (hw : ∀ d ∈ tables_1, d.before a0 Z = true) (zc : Int32) (vfm : Value) (va : Addr) (kv : ClassId) (ea : Addr) (eb : Addr) (ec : Addr) (ed : Addr) (wa : Addr) (wb : Addr) (wc : Addr) (wd : Addr) (h0 : Heap) (n0 : Nat) (Z0 : n0 ≤ h0.size) (hSt : St Z zc vfm va kv ea eb ec ed wa wb wc wd) (hO : Old Z n0 h0) :
    CN l Z ({ cls := "com/example/patient_ledger/patientledger/HoldStatusFromWireNamePinLaw", name := "make", desc := "(I)[C" } : Jvm.MethodName) [(Jvm.Cond.code ({ cls := "com/example/patient_ledger/patientledger/HoldStatusFromWireNamePinLaw", name := "make", desc := "(I)[C" } : Jvm.MethodName) method_4_code (1 : Nat) (Option.some (Jvm.ClassFile.FieldType.array Jvm.ClassFile.FieldType.char)))] ({ frames := 0, cells := 1, slots := 7, locals := 0 } : Room) #[(.int (7 : Int32))] h0 (Q_make7 Z zc vfm va kv ea eb ec ed wa wb wc wd h0 n0) := by
  refine CN.of (L0 := #[vI 7]) (plainFor_of_name pn_2) (fun m => by first | (simp [entryFrame, mkF, argsToLocals, Value.category]; done) | rfl) ?_
  intro p e s m below meth c s₁ hx hby hml hret hlk hZ hown hnm X0 e0
  have N0 := Fr.nil n0
  have KP0 := Keep.refl h0 []
  have hSt_ := hSt
  obtain ⟨S_cs, n_cs, S_fm, r_fm, S_va, E_va, A_va, S_ea, F_ea, S_wa, S_eb, F_eb, S_wb, S_ec, F_ec, S_wc, S_ed, F_ed, S_wd⟩ := hSt_
  show Go p e below _ (s₁.setTop (mkF m 0 #[vI 7] []))
  refine Go.step (fun _ k => XS.iloadN X0.here hx rfl (hb hby d_method_4_code_0) rfl  k) ?_
  refine Go.step (fun _ k => XS.iconst X0.here hx rfl (hb hby d_method_4_code_1) k) ?_
  show Go p e below _ (s₁.setTop (mkF m 2 #[vI 7] [(.int (5 : Int32)), (.int (7 : Int32))]))
  refine Go.step (fun _ k => XS.icmpYes X0.here hx rfl (pc0 := 2) (pc' := 9) rfl (hb hby d_method_4_code_2) rfl (feq ((by decide) : ¬ ((7 : Int32) = (5 : Int32)))).2 (by decide) (by decide) k) ?_
  show Go p e below _ (s₁.setTop (mkF m 9 #[vI 7] []))
  refine Go.step (fun _ k => XS.iloadN X0.here hx rfl (hb hby d_method_4_code_9) rfl  k) ?_
  refine Go.step (fun _ k => XS.bipush X0.here hx rfl (hb hby d_method_4_code_10) k) ?_
  show Go p e below _ (s₁.setTop (mkF m 12 #[vI 7] [(.int (6 : Int32)), (.int (7 : Int32))]))
  refine Go.step (fun _ k => XS.icmpYes X0.here hx rfl (pc0 := 12) (pc' := 20) rfl (hb hby d_method_4_code_12) rfl (feq ((by decide) : ¬ ((7 : Int32) = (6 : Int32)))).2 (by decide) (by decide) k) ?_
  show Go p e below _ (s₁.setTop (mkF m 20 #[vI 7] []))
  refine Go.step (fun _ k => XS.iloadN X0.here hx rfl (hb hby d_method_4_code_20) rfl  k) ?_
  refine Go.step (fun _ k => XS.bipush X0.here hx rfl (hb hby d_method_4_code_21) k) ?_
  show Go p e below _ (s₁.setTop (mkF m 23 #[vI 7] [(.int (7 : Int32)), (.int (7 : Int32))]))
  refine Go.step (fun _ k => XS.icmpNo X0.here hx rfl (hb hby d_method_4_code_23) rfl (teq ((by decide) : (7 : Int32) = (7 : Int32))).2 k) ?_
  show Go p e below _ (s₁.setTop (mkF m 26 #[vI 7] []))
  refine Go.step (fun _ k => XS.bipush X0.here hx rfl (hb hby d_method_4_code_26) k) ?_
  show Go p e below _ (s₁.setTop (mkF m 28 #[vI 7] [(.int (7 : Int32))]))
  obtain ⟨T_204, h_204, k_204, X_204, e_204, E_204, A_204, st_204⟩ := newP X0 hx hZ (aty := .char) (wd_26 hw) e0 (g := (mkF m 28 #[vI 7] [(.int (7 : Int32))])) rfl (hb hby d_method_4_code_28) rfl (by decide) (cap := 7) (by decide) (by decide) (by decide) (by decide)
  obtain ⟨b204, q_204⟩ : ∃ z, z = h0.size := ⟨_, rfl⟩
  rw [← q_204] at A_204 st_204
  refine Go.step st_204 ?_
  have le_204 : h0.size ≤ h_204.size := E_204.1
  have KP_204 := KP0.ext E_204
  have O_204 := hO.ext E_204
  have ge_204 : h0.size ≤ b204 := Nat.le_of_eq q_204.symm
  have sz_b204 : h0.size ≤ b204 := Nat.le_trans (Nat.le_refl _) ge_204
  have g_b204 : n0 ≤ b204 := Nat.le_trans Z0 sz_b204
  have V_204 : Arv Z h_204 b204 k_204 .char (7 : Int32) [(.int (0 : Int32)), (.int (0 : Int32)), (.int (0 : Int32)), (.int (0 : Int32)), (.int (0 : Int32)), (.int (0 : Int32)), (.int (0 : Int32))] (.int (0 : Int32)) := (Arv.new A_204 (by decide)).pad (pad_rep [] (.int (0 : Int32)) 7)
  show Go p e below _ (T_204.setTop (mkF m 30 #[vI 7] [(.ref b204)]))
  exact Go.retV X_204 hx hlk hret rfl (Or.inr (Or.inr (Or.inr (Or.inr ⟨rfl, rfl, rfl⟩)))) (hb hby d_method_4_code_30) (by decide) (by decide) (by rw [e_204]; exact ⟨b204, k_204, rfl, N0, KP_204, sz_b204, V_204⟩)
--@E
--@C make8
def Q_make8 (Z : State) (zc : Int32) (vfm : Value) (va : Addr) (kv : ClassId) (ea : Addr) (eb : Addr) (ec : Addr) (ed : Addr) (wa : Addr) (wb : Addr) (wc : Addr) (wd : Addr) (h0 : Heap) (n0 : Nat) (v : Option Value) (h : Heap) (L : List Loc) : Prop := ∃ (r : Addr) (kr : ClassId), v = some (.ref r) ∧ Fr n0 L ∧ Keep h0 h [] ∧ h0.size ≤ r ∧ Arv Z h r kr .char (8 : Int32) [(.int (0 : Int32)), (.int (0 : Int32)), (.int (0 : Int32)), (.int (0 : Int32)), (.int (0 : Int32)), (.int (0 : Int32)), (.int (0 : Int32)), (.int (0 : Int32))] (.int (0 : Int32))
set_option maxRecDepth 65536 in
set_option maxHeartbeats 40000000 in
theorem rm_make8 (l : Launch) (Z : State) (a0 : Array Value) (hw : ∀ d ∈ tables_1, d.before a0 Z = true) (zc : Int32) (vfm : Value) (va : Addr) (kv : ClassId) (ea : Addr) (eb : Addr) (ec : Addr) (ed : Addr) (wa : Addr) (wb : Addr) (wc : Addr) (wd : Addr) (h0 : Heap) (n0 : Nat) (Z0 : n0 ≤ h0.size) (hSt : St Z zc vfm va kv ea eb ec ed wa wb wc wd) (hO : Old Z n0 h0) :
    CN l Z ({ cls := "com/example/patient_ledger/patientledger/HoldStatusFromWireNamePinLaw", name := "make", desc := "(I)[C" } : Jvm.MethodName) [(Jvm.Cond.code ({ cls := "com/example/patient_ledger/patientledger/HoldStatusFromWireNamePinLaw", name := "make", desc := "(I)[C" } : Jvm.MethodName) method_4_code (1 : Nat) (Option.some (Jvm.ClassFile.FieldType.array Jvm.ClassFile.FieldType.char)))] ({ frames := 0, cells := 1, slots := 8, locals := 0 } : Room) #[(.int (8 : Int32))] h0 (Q_make8 Z zc vfm va kv ea eb ec ed wa wb wc wd h0 n0) := by
  refine CN.of (L0 := #[vI 8]) (plainFor_of_name pn_2) (fun m => by first | (simp [entryFrame, mkF, argsToLocals, Value.category]; done) | rfl) ?_
  intro p e s m below meth c s₁ hx hby hml hret hlk hZ hown hnm X0 e0
  have N0 := Fr.nil n0
  have KP0 := Keep.refl h0 []
  have hSt_ := hSt
  obtain ⟨S_cs, n_cs, S_fm, r_fm, S_va, E_va, A_va, S_ea, F_ea, S_wa, S_eb, F_eb, S_wb, S_ec, F_ec, S_wc, S_ed, F_ed, S_wd⟩ := hSt_
  show Go p e below _ (s₁.setTop (mkF m 0 #[vI 8] []))
  refine Go.step (fun _ k => XS.iloadN X0.here hx rfl (hb hby d_method_4_code_0) rfl  k) ?_
  refine Go.step (fun _ k => XS.iconst X0.here hx rfl (hb hby d_method_4_code_1) k) ?_
  show Go p e below _ (s₁.setTop (mkF m 2 #[vI 8] [(.int (5 : Int32)), (.int (8 : Int32))]))
  refine Go.step (fun _ k => XS.icmpYes X0.here hx rfl (pc0 := 2) (pc' := 9) rfl (hb hby d_method_4_code_2) rfl (feq ((by decide) : ¬ ((8 : Int32) = (5 : Int32)))).2 (by decide) (by decide) k) ?_
  show Go p e below _ (s₁.setTop (mkF m 9 #[vI 8] []))
  refine Go.step (fun _ k => XS.iloadN X0.here hx rfl (hb hby d_method_4_code_9) rfl  k) ?_
  refine Go.step (fun _ k => XS.bipush X0.here hx rfl (hb hby d_method_4_code_10) k) ?_
  show Go p e below _ (s₁.setTop (mkF m 12 #[vI 8] [(.int (6 : Int32)), (.int (8 : Int32))]))
  refine Go.step (fun _ k => XS.icmpYes X0.here hx rfl (pc0 := 12) (pc' := 20) rfl (hb hby d_method_4_code_12) rfl (feq ((by decide) : ¬ ((8 : Int32) = (6 : Int32)))).2 (by decide) (by decide) k) ?_
  show Go p e below _ (s₁.setTop (mkF m 20 #[vI 8] []))
  refine Go.step (fun _ k => XS.iloadN X0.here hx rfl (hb hby d_method_4_code_20) rfl  k) ?_
  refine Go.step (fun _ k => XS.bipush X0.here hx rfl (hb hby d_method_4_code_21) k) ?_
  show Go p e below _ (s₁.setTop (mkF m 23 #[vI 8] [(.int (7 : Int32)), (.int (8 : Int32))]))
  refine Go.step (fun _ k => XS.icmpYes X0.here hx rfl (pc0 := 23) (pc' := 31) rfl (hb hby d_method_4_code_23) rfl (feq ((by decide) : ¬ ((8 : Int32) = (7 : Int32)))).2 (by decide) (by decide) k) ?_
  show Go p e below _ (s₁.setTop (mkF m 31 #[vI 8] []))
  refine Go.step (fun _ k => XS.iloadN X0.here hx rfl (hb hby d_method_4_code_31) rfl  k) ?_
  refine Go.step (fun _ k => XS.bipush X0.here hx rfl (hb hby d_method_4_code_32) k) ?_
  show Go p e below _ (s₁.setTop (mkF m 34 #[vI 8] [(.int (8 : Int32)), (.int (8 : Int32))]))
  refine Go.step (fun _ k => XS.icmpNo X0.here hx rfl (hb hby d_method_4_code_34) rfl (teq ((by decide) : (8 : Int32) = (8 : Int32))).2 k) ?_
  show Go p e below _ (s₁.setTop (mkF m 37 #[vI 8] []))
  refine Go.step (fun _ k => XS.bipush X0.here hx rfl (hb hby d_method_4_code_37) k) ?_
  show Go p e below _ (s₁.setTop (mkF m 39 #[vI 8] [(.int (8 : Int32))]))
  obtain ⟨T_205, h_205, k_205, X_205, e_205, E_205, A_205, st_205⟩ := newP X0 hx hZ (aty := .char) (wd_26 hw) e0 (g := (mkF m 39 #[vI 8] [(.int (8 : Int32))])) rfl (hb hby d_method_4_code_39) rfl (by decide) (cap := 8) (by decide) (by decide) (by decide) (by decide)
  obtain ⟨b205, q_205⟩ : ∃ z, z = h0.size := ⟨_, rfl⟩
  rw [← q_205] at A_205 st_205
  refine Go.step st_205 ?_
  have le_205 : h0.size ≤ h_205.size := E_205.1
  have KP_205 := KP0.ext E_205
  have O_205 := hO.ext E_205
  have ge_205 : h0.size ≤ b205 := Nat.le_of_eq q_205.symm
  have sz_b205 : h0.size ≤ b205 := Nat.le_trans (Nat.le_refl _) ge_205
  have g_b205 : n0 ≤ b205 := Nat.le_trans Z0 sz_b205
  have V_205 : Arv Z h_205 b205 k_205 .char (8 : Int32) [(.int (0 : Int32)), (.int (0 : Int32)), (.int (0 : Int32)), (.int (0 : Int32)), (.int (0 : Int32)), (.int (0 : Int32)), (.int (0 : Int32)), (.int (0 : Int32))] (.int (0 : Int32)) := (Arv.new A_205 (by decide)).pad (pad_rep [] (.int (0 : Int32)) 8)
  show Go p e below _ (T_205.setTop (mkF m 41 #[vI 8] [(.ref b205)]))
  exact Go.retV X_205 hx hlk hret rfl (Or.inr (Or.inr (Or.inr (Or.inr ⟨rfl, rfl, rfl⟩)))) (hb hby d_method_4_code_41) (by decide) (by decide) (by rw [e_205]; exact ⟨b205, k_205, rfl, N0, KP_205, sz_b205, V_205⟩)
--@E
--@C make9
def Q_make9 (Z : State) (zc : Int32) (vfm : Value) (va : Addr) (kv : ClassId) (ea : Addr) (eb : Addr) (ec : Addr) (ed : Addr) (wa : Addr) (wb : Addr) (wc : Addr) (wd : Addr) (h0 : Heap) (n0 : Nat) (v : Option Value) (h : Heap) (L : List Loc) : Prop := ∃ (r : Addr) (kr : ClassId), v = some (.ref r) ∧ Fr n0 L ∧ Keep h0 h [] ∧ h0.size ≤ r ∧ Arv Z h r kr .char (9 : Int32) [(.int (0 : Int32)), (.int (0 : Int32)), (.int (0 : Int32)), (.int (0 : Int32)), (.int (0 : Int32)), (.int (0 : Int32)), (.int (0 : Int32)), (.int (0 : Int32)), (.int (0 : Int32))] (.int (0 : Int32))
set_option maxRecDepth 65536 in
set_option maxHeartbeats 40000000 in
theorem rm_make9 (l : Launch) (Z : State) (a0 : Array Value) (hw : ∀ d ∈ tables_1, d.before a0 Z = true) (zc : Int32) (vfm : Value) (va : Addr) (kv : ClassId) (ea : Addr) (eb : Addr) (ec : Addr) (ed : Addr) (wa : Addr) (wb : Addr) (wc : Addr) (wd : Addr) (h0 : Heap) (n0 : Nat) (Z0 : n0 ≤ h0.size) (hSt : St Z zc vfm va kv ea eb ec ed wa wb wc wd) (hO : Old Z n0 h0) :
    CN l Z ({ cls := "com/example/patient_ledger/patientledger/HoldStatusFromWireNamePinLaw", name := "make", desc := "(I)[C" } : Jvm.MethodName) [(Jvm.Cond.code ({ cls := "com/example/patient_ledger/patientledger/HoldStatusFromWireNamePinLaw", name := "make", desc := "(I)[C" } : Jvm.MethodName) method_4_code (1 : Nat) (Option.some (Jvm.ClassFile.FieldType.array Jvm.ClassFile.FieldType.char)))] ({ frames := 0, cells := 1, slots := 9, locals := 0 } : Room) #[(.int (9 : Int32))] h0 (Q_make9 Z zc vfm va kv ea eb ec ed wa wb wc wd h0 n0) := by
  refine CN.of (L0 := #[vI 9]) (plainFor_of_name pn_2) (fun m => by first | (simp [entryFrame, mkF, argsToLocals, Value.category]; done) | rfl) ?_
  intro p e s m below meth c s₁ hx hby hml hret hlk hZ hown hnm X0 e0
  have N0 := Fr.nil n0
  have KP0 := Keep.refl h0 []
  have hSt_ := hSt
  obtain ⟨S_cs, n_cs, S_fm, r_fm, S_va, E_va, A_va, S_ea, F_ea, S_wa, S_eb, F_eb, S_wb, S_ec, F_ec, S_wc, S_ed, F_ed, S_wd⟩ := hSt_
  show Go p e below _ (s₁.setTop (mkF m 0 #[vI 9] []))
  refine Go.step (fun _ k => XS.iloadN X0.here hx rfl (hb hby d_method_4_code_0) rfl  k) ?_
  refine Go.step (fun _ k => XS.iconst X0.here hx rfl (hb hby d_method_4_code_1) k) ?_
  show Go p e below _ (s₁.setTop (mkF m 2 #[vI 9] [(.int (5 : Int32)), (.int (9 : Int32))]))
  refine Go.step (fun _ k => XS.icmpYes X0.here hx rfl (pc0 := 2) (pc' := 9) rfl (hb hby d_method_4_code_2) rfl (feq ((by decide) : ¬ ((9 : Int32) = (5 : Int32)))).2 (by decide) (by decide) k) ?_
  show Go p e below _ (s₁.setTop (mkF m 9 #[vI 9] []))
  refine Go.step (fun _ k => XS.iloadN X0.here hx rfl (hb hby d_method_4_code_9) rfl  k) ?_
  refine Go.step (fun _ k => XS.bipush X0.here hx rfl (hb hby d_method_4_code_10) k) ?_
  show Go p e below _ (s₁.setTop (mkF m 12 #[vI 9] [(.int (6 : Int32)), (.int (9 : Int32))]))
  refine Go.step (fun _ k => XS.icmpYes X0.here hx rfl (pc0 := 12) (pc' := 20) rfl (hb hby d_method_4_code_12) rfl (feq ((by decide) : ¬ ((9 : Int32) = (6 : Int32)))).2 (by decide) (by decide) k) ?_
  show Go p e below _ (s₁.setTop (mkF m 20 #[vI 9] []))
  refine Go.step (fun _ k => XS.iloadN X0.here hx rfl (hb hby d_method_4_code_20) rfl  k) ?_
  refine Go.step (fun _ k => XS.bipush X0.here hx rfl (hb hby d_method_4_code_21) k) ?_
  show Go p e below _ (s₁.setTop (mkF m 23 #[vI 9] [(.int (7 : Int32)), (.int (9 : Int32))]))
  refine Go.step (fun _ k => XS.icmpYes X0.here hx rfl (pc0 := 23) (pc' := 31) rfl (hb hby d_method_4_code_23) rfl (feq ((by decide) : ¬ ((9 : Int32) = (7 : Int32)))).2 (by decide) (by decide) k) ?_
  show Go p e below _ (s₁.setTop (mkF m 31 #[vI 9] []))
  refine Go.step (fun _ k => XS.iloadN X0.here hx rfl (hb hby d_method_4_code_31) rfl  k) ?_
  refine Go.step (fun _ k => XS.bipush X0.here hx rfl (hb hby d_method_4_code_32) k) ?_
  show Go p e below _ (s₁.setTop (mkF m 34 #[vI 9] [(.int (8 : Int32)), (.int (9 : Int32))]))
  refine Go.step (fun _ k => XS.icmpYes X0.here hx rfl (pc0 := 34) (pc' := 42) rfl (hb hby d_method_4_code_34) rfl (feq ((by decide) : ¬ ((9 : Int32) = (8 : Int32)))).2 (by decide) (by decide) k) ?_
  show Go p e below _ (s₁.setTop (mkF m 42 #[vI 9] []))
  refine Go.step (fun _ k => XS.bipush X0.here hx rfl (hb hby d_method_4_code_42) k) ?_
  show Go p e below _ (s₁.setTop (mkF m 44 #[vI 9] [(.int (9 : Int32))]))
  obtain ⟨T_206, h_206, k_206, X_206, e_206, E_206, A_206, st_206⟩ := newP X0 hx hZ (aty := .char) (wd_26 hw) e0 (g := (mkF m 44 #[vI 9] [(.int (9 : Int32))])) rfl (hb hby d_method_4_code_44) rfl (by decide) (cap := 9) (by decide) (by decide) (by decide) (by decide)
  obtain ⟨b206, q_206⟩ : ∃ z, z = h0.size := ⟨_, rfl⟩
  rw [← q_206] at A_206 st_206
  refine Go.step st_206 ?_
  have le_206 : h0.size ≤ h_206.size := E_206.1
  have KP_206 := KP0.ext E_206
  have O_206 := hO.ext E_206
  have ge_206 : h0.size ≤ b206 := Nat.le_of_eq q_206.symm
  have sz_b206 : h0.size ≤ b206 := Nat.le_trans (Nat.le_refl _) ge_206
  have g_b206 : n0 ≤ b206 := Nat.le_trans Z0 sz_b206
  have V_206 : Arv Z h_206 b206 k_206 .char (9 : Int32) [(.int (0 : Int32)), (.int (0 : Int32)), (.int (0 : Int32)), (.int (0 : Int32)), (.int (0 : Int32)), (.int (0 : Int32)), (.int (0 : Int32)), (.int (0 : Int32)), (.int (0 : Int32))] (.int (0 : Int32)) := (Arv.new A_206 (by decide)).pad (pad_rep [] (.int (0 : Int32)) 9)
  show Go p e below _ (T_206.setTop (mkF m 46 #[vI 9] [(.ref b206)]))
  exact Go.retV X_206 hx hlk hret rfl (Or.inr (Or.inr (Or.inr (Or.inr ⟨rfl, rfl, rfl⟩)))) (hb hby d_method_4_code_46) (by decide) (by decide) (by rw [e_206]; exact ⟨b206, k_206, rfl, N0, KP_206, sz_b206, V_206⟩)
--@E
theorem i8_i8 (x : Int32) : x.toInt8.toInt32.toInt8.toInt32 = x.toInt8.toInt32 := by simp

--@C canEncode
def Q_canEncode (Z : State) (zc : Int32) (vfm : Value) (va : Addr) (kv : ClassId) (ea : Addr) (eb : Addr) (ec : Addr) (ed : Addr) (wa : Addr) (wb : Addr) (wc : Addr) (wd : Addr) (p1 : Int32) (h0 : Heap) (n0 : Nat) (v : Option Value) (h : Heap) (L : List Loc) : Prop := v = some (.int (1 : Int32)) ∧ Fr n0 L ∧ h = h0
set_option maxRecDepth 65536 in
set_option maxHeartbeats 40000000 in
theorem rm_canEncode (l : Launch) (Z : State) (a0 : Array Value) (hw : ∀ d ∈ tables_1, d.before a0 Z = true) (zc : Int32) (vfm : Value) (va : Addr) (kv : ClassId) (ea : Addr) (eb : Addr) (ec : Addr) (ed : Addr) (wa : Addr) (wb : Addr) (wc : Addr) (wd : Addr) (p1 : Int32) (h0 : Heap) (n0 : Nat) (Z0 : n0 ≤ h0.size) (l_p1 : (¬ p1 < 0 ∧ ¬ (255 : Int32) < p1)) (hSt : St Z zc vfm va kv ea eb ec ed wa wb wc wd) (hO : Old Z n0 h0) :
    CN l Z ({ cls := "java/lang/StringLatin1", name := "canEncode", desc := "(C)Z" } : Jvm.MethodName) [(Jvm.Cond.code ({ cls := "java/lang/StringLatin1", name := "canEncode", desc := "(C)Z" } : Jvm.MethodName) jdk_43_method_3_code (1 : Nat) (Option.some Jvm.ClassFile.FieldType.boolean))] ({ frames := 0, cells := 0, slots := 0, locals := 0 } : Room) #[(.int p1)] h0 (Q_canEncode Z zc vfm va kv ea eb ec ed wa wb wc wd p1 h0 n0) := by
  refine CN.of (L0 := #[vI p1]) (plainFor_of_name pn_3) (fun m => by first | (simp [entryFrame, mkF, argsToLocals, Value.category]; done) | rfl) ?_
  intro p e s m below meth c s₁ hx hby hml hret hlk hZ hown hnm X0 e0
  have N0 := Fr.nil n0
  have KP0 := Keep.refl h0 []
  have hSt_ := hSt
  obtain ⟨S_cs, n_cs, S_fm, r_fm, S_va, E_va, A_va, S_ea, F_ea, S_wa, S_eb, F_eb, S_wb, S_ec, F_ec, S_wc, S_ed, F_ed, S_wd⟩ := hSt_
  show Go p e below _ (s₁.setTop (mkF m 0 #[vI p1] []))
  refine Go.step (fun _ k => XS.iloadN X0.here hx rfl (hb hby d_jdk_43_method_3_code_0) rfl  k) ?_
  refine Go.step (fun _ k => XS.sipush X0.here hx rfl (hb hby d_jdk_43_method_3_code_1) k) ?_
  show Go p e below _ (s₁.setTop (mkF m 4 #[vI p1] [(.int (255 : Int32)), (.int p1)]))
  refine Go.step (fun _ k => XS.icmpNo X0.here hx rfl (hb hby d_jdk_43_method_3_code_4) rfl (flt (l_p1.2 : ¬ ((255 : Int32) < p1))).2.2.1 k) ?_
  show Go p e below _ (s₁.setTop (mkF m 7 #[vI p1] []))
  refine Go.step (fun _ k => XS.iconst X0.here hx rfl (hb hby d_jdk_43_method_3_code_7) k) ?_
  show Go p e below _ (s₁.setTop (mkF m 8 #[vI p1] [(.int (1 : Int32))]))
  refine Go.step (fun _ k => XS.goto X0.here hx rfl (pc0 := 8) (pc' := 12) rfl (hb hby d_jdk_43_method_3_code_8) (by decide) (by decide) k) ?_
  show Go p e below _ (s₁.setTop (mkF m 12 #[vI p1] [(.int (1 : Int32))]))
  exact Go.retV X0 hx hlk hret rfl (Or.inl ⟨rfl, Or.inr (Or.inl rfl), _, rfl⟩) (hb hby d_jdk_43_method_3_code_12) (by decide) (by decide) (by rw [e0]; exact ⟨rfl, N0, rfl⟩)
--@E
--@C toBytes
def Q_toBytes (Z : State) (zc : Int32) (vfm : Value) (va : Addr) (kv : ClassId) (ea : Addr) (eb : Addr) (ec : Addr) (ed : Addr) (wa : Addr) (wb : Addr) (wc : Addr) (wd : Addr) (p1 : Int32) (h0 : Heap) (n0 : Nat) (v : Option Value) (h : Heap) (L : List Loc) : Prop := ∃ (r : Addr) (kr : ClassId), v = some (.ref r) ∧ Fr n0 L ∧ Keep h0 h [] ∧ h0.size ≤ r ∧ Arv Z h r kr .byte (1 : Int32) [(.int p1.toInt8.toInt32)] (.int (0 : Int32))
set_option maxRecDepth 65536 in
set_option maxHeartbeats 40000000 in
theorem rm_toBytes (l : Launch) (Z : State) (a0 : Array Value) (hw : ∀ d ∈ tables_1, d.before a0 Z = true) (zc : Int32) (vfm : Value) (va : Addr) (kv : ClassId) (ea : Addr) (eb : Addr) (ec : Addr) (ed : Addr) (wa : Addr) (wb : Addr) (wc : Addr) (wd : Addr) (p1 : Int32) (h0 : Heap) (n0 : Nat) (Z0 : n0 ≤ h0.size) (hSt : St Z zc vfm va kv ea eb ec ed wa wb wc wd) (hO : Old Z n0 h0) :
    CN l Z ({ cls := "java/lang/StringLatin1", name := "toBytes", desc := "(C)[B" } : Jvm.MethodName) [(Jvm.Cond.code ({ cls := "java/lang/StringLatin1", name := "toBytes", desc := "(C)[B" } : Jvm.MethodName) jdk_43_method_46_code (1 : Nat) (Option.some (Jvm.ClassFile.FieldType.array Jvm.ClassFile.FieldType.byte)))] ({ frames := 0, cells := 1, slots := 1, locals := 0 } : Room) #[(.int p1)] h0 (Q_toBytes Z zc vfm va kv ea eb ec ed wa wb wc wd p1 h0 n0) := by
  refine CN.of (L0 := #[vI p1]) (plainFor_of_name pn_3) (fun m => by first | (simp [entryFrame, mkF, argsToLocals, Value.category]; done) | rfl) ?_
  intro p e s m below meth c s₁ hx hby hml hret hlk hZ hown hnm X0 e0
  have N0 := Fr.nil n0
  have KP0 := Keep.refl h0 []
  have hSt_ := hSt
  obtain ⟨S_cs, n_cs, S_fm, r_fm, S_va, E_va, A_va, S_ea, F_ea, S_wa, S_eb, F_eb, S_wb, S_ec, F_ec, S_wc, S_ed, F_ed, S_wd⟩ := hSt_
  show Go p e below _ (s₁.setTop (mkF m 0 #[vI p1] []))
  refine Go.step (fun _ k => XS.iconst X0.here hx rfl (hb hby d_jdk_43_method_46_code_0) k) ?_
  show Go p e below _ (s₁.setTop (mkF m 1 #[vI p1] [(.int (1 : Int32))]))
  obtain ⟨T_207, h_207, k_207, X_207, e_207, E_207, A_207, st_207⟩ := newP X0 hx hZ (aty := .byte) (wd_3 hw) e0 (g := (mkF m 1 #[vI p1] [(.int (1 : Int32))])) rfl (hb hby d_jdk_43_method_46_code_1) rfl (by decide) (cap := 1) (by decide) (by decide) (by decide) (by decide)
  obtain ⟨b207, q_207⟩ : ∃ z, z = h0.size := ⟨_, rfl⟩
  rw [← q_207] at A_207 st_207
  refine Go.step st_207 ?_
  have le_207 : h0.size ≤ h_207.size := E_207.1
  have KP_207 := KP0.ext E_207
  have O_207 := hO.ext E_207
  have ge_207 : h0.size ≤ b207 := Nat.le_of_eq q_207.symm
  have sz_b207 : h0.size ≤ b207 := Nat.le_trans (Nat.le_refl _) ge_207
  have g_b207 : n0 ≤ b207 := Nat.le_trans Z0 sz_b207
  have V_207 : Arv Z h_207 b207 k_207 .byte (1 : Int32) [(.int (0 : Int32))] (.int (0 : Int32)) := (Arv.new A_207 (by decide)).pad (pad_rep [] (.int (0 : Int32)) 1)
  show Go p e below _ (T_207.setTop (mkF m 3 #[vI p1] [(.ref b207)]))
  refine Go.step (fun _ k => XS.dup X_207.here hx rfl (hb hby d_jdk_43_method_46_code_3) rfl rfl k) ?_
  refine Go.step (fun _ k => XS.iconst X_207.here hx rfl (hb hby d_jdk_43_method_46_code_4) k) ?_
  refine Go.step (fun _ k => XS.iloadN X_207.here hx rfl (hb hby d_jdk_43_method_46_code_5) rfl  k) ?_
  show Go p e below _ (T_207.setTop (mkF m 6 #[vI p1] [(.int p1), (.int (0 : Int32)), (.ref b207), (.ref b207)]))
  refine Go.step (fun _ k => XS.i2b X_207.here hx rfl (hb hby d_jdk_43_method_46_code_6) rfl k) ?_
  show Go p e below _ (T_207.setTop (mkF m 7 #[vI p1] [(.int p1.toInt8.toInt32), (.int (0 : Int32)), (.ref b207), (.ref b207)]))
  have cp209 := V_207
  obtain ⟨cl_208, Ar_208, ck_208, Sz_208, Ng_208, Hs_208, Gs_208⟩ := cp209
  have hin_208 : ¬ ((0 : Int32) < 0 ∨ cl_208.slots.size ≤ ((0 : Int32)).toNatClampNeg) := inb_of Sz_208 ⟨by decide, by decide⟩
  obtain ⟨T_208, h_208, X_208, e_208, W_208, st_208⟩ := stB X_207 hx hZ e_207 Ar_208 (j := (0 : Int32)) hin_208 (g := (mkF m 7 #[vI p1] [(.int p1.toInt8.toInt32), (.int (0 : Int32)), (.ref b207), (.ref b207)])) rfl rfl (hb hby d_jdk_43_method_46_code_7)
  refine Go.step st_208 ?_
  have N_208 := Fr.snoc X_208 N0 g_b207
  have le_208 : h_207.size ≤ h_208.size := Nat.le_of_eq W_208.size.symm
  have KP_208 := KP_207.wr W_208 (Or.inr sz_b207)
  have O_208 := O_207.wr W_208 g_b207
  have V_208 : Arv Z h_208 b207 k_207 .byte (1 : Int32) [(.int p1.toInt8.toInt32)] (.int (0 : Int32)) := by
    have q := Arv.set Ar_208 ck_208 Sz_208 Ng_208 Hs_208 Gs_208 (fits_nar_byte _) W_208 0 rfl (Nat.le_of_ble_eq_true rfl)
    rw [i8_i8] at q; exact q
  show Go p e below _ (T_208.setTop (mkF m 8 #[vI p1] [(.ref b207)]))
  exact Go.retV X_208 hx hlk hret rfl (Or.inr (Or.inr (Or.inr (Or.inr ⟨rfl, rfl, rfl⟩)))) (hb hby d_jdk_43_method_46_code_8) (by decide) (by decide) (by rw [e_208]; exact ⟨b207, k_207, rfl, N_208, KP_208, sz_b207, V_208⟩)
--@E
--@C initBB
def Q_initBB (Z : State) (zc : Int32) (vfm : Value) (va : Addr) (kv : ClassId) (ea : Addr) (eb : Addr) (ec : Addr) (ed : Addr) (wa : Addr) (wb : Addr) (wc : Addr) (wd : Addr) (a1 : Addr) (a2 : Addr) (h0 : Heap) (n0 : Nat) (v : Option Value) (h : Heap) (L : List Loc) : Prop := v = none ∧ Fr n0 L ∧ Keep h0 h [a1] ∧ Exa Z h a1 "java/lang/String" ∧ Fld Z h a1 "java/lang/String" "value" "[B" (.ref a2) ∧ Fld Z h a1 "java/lang/String" "coder" "B" (.int (0 : Int32))
set_option maxRecDepth 65536 in
set_option maxHeartbeats 40000000 in
theorem rm_initBB (l : Launch) (Z : State) (a0 : Array Value) (hw : ∀ d ∈ tables_1, d.before a0 Z = true) (zc : Int32) (vfm : Value) (va : Addr) (kv : ClassId) (ea : Addr) (eb : Addr) (ec : Addr) (ed : Addr) (wa : Addr) (wb : Addr) (wc : Addr) (wd : Addr) (a1 : Addr) (a2 : Addr) (h0 : Heap) (n0 : Nat) (Z0 : n0 ≤ h0.size) (E_a1 : Exa Z h0 a1 "java/lang/String") (F_a1v : Fld Z h0 a1 "java/lang/String" "value" "[B" .null) (F_a1c : Fld Z h0 a1 "java/lang/String" "coder" "B" (.int (0 : Int32))) (g_a1 : n0 ≤ a1) (hSt : St Z zc vfm va kv ea eb ec ed wa wb wc wd) (hO : Old Z n0 h0) :
    CN l Z ({ cls := "java/lang/String", name := "<init>", desc := "([BB)V" } : Jvm.MethodName) [(Jvm.Cond.code ({ cls := "java/lang/String", name := "<init>", desc := "([BB)V" } : Jvm.MethodName) jdk_42_method_151_code (3 : Nat) (Option.none : Option Jvm.ClassFile.FieldType))] ({ frames := 1, cells := 0, slots := 0, locals := 12 } : Room) #[(.ref a1), (.ref a2), (.int (0 : Int32))] h0 (Q_initBB Z zc vfm va kv ea eb ec ed wa wb wc wd a1 a2 h0 n0) := by
  refine CN.of (L0 := #[vR a1, vR a2, vI 0]) (plainFor_of_name pn_1) (fun m => by first | (simp [entryFrame, mkF, argsToLocals, Value.category]; done) | rfl) ?_
  intro p e s m below meth c s₁ hx hby hml hret hlk hZ hown hnm X0 e0
  have N0 := Fr.nil n0
  have KP0 := Keep.refl h0 [a1]
  have hSt_ := hSt
  obtain ⟨S_cs, n_cs, S_fm, r_fm, S_va, E_va, A_va, S_ea, F_ea, S_wa, S_eb, F_eb, S_wb, S_ec, F_ec, S_wc, S_ed, F_ed, S_wd⟩ := hSt_
  show Go p e below _ (s₁.setTop (mkF m 0 #[vR a1, vR a2, vI 0] []))
  refine Go.step (fun _ k => XS.aloadN X0.here hx rfl (hb hby d_jdk_42_method_151_code_0) rfl rfl k) ?_
  show Go p e below _ (s₁.setTop (mkF m 1 #[vR a1, vR a2, vI 0] [(.ref a1)]))
  obtain ⟨T_210, X_210, e_210, st_210⟩ := initO X0 hx hZ hown (wd_63 hw) (wd_64 hw) (wd_65 hw) e0 (g := (mkF m 1 #[vR a1, vR a2, vI 0] [(.ref a1)])) rfl (by rw [hml]; rfl) rfl (hb hby d_jdk_42_method_151_code_1) (by decide) (W := 0) (by show 2 * 0 + _ ≤ _; exact Nat.le_of_eq rfl) (by decide)
  refine Go.step st_210 ?_
  show Go p e below _ (T_210.setTop (mkF m 4 #[vR a1, vR a2, vI 0] []))
  refine Go.step (fun _ k => XS.aloadN X_210.here hx rfl (hb hby d_jdk_42_method_151_code_4) rfl rfl k) ?_
  refine Go.step (fun _ k => XS.aloadN X_210.here hx rfl (hb hby d_jdk_42_method_151_code_5) rfl rfl k) ?_
  show Go p e below _ (T_210.setTop (mkF m 6 #[vR a1, vR a2, vI 0] [(.ref a2), (.ref a1)]))
  obtain ⟨T_211, h_211, X_211, e_211, W_211, st_211⟩ := putF X_210 hx hZ hown (host := "") (Or.inl (wd_14 hw)) Via.refl e_210 F_a1v E_a1 (Or.inr ⟨(wd_4 hw), rfl, hnm⟩) (wd_2 hw) (ty := (.array .byte)) pf_0 rfl rfl (g := (mkF m 6 #[vR a1, vR a2, vI 0] [(.ref a2), (.ref a1)])) rfl rfl (hb hby d_jdk_42_method_151_code_6)
  refine Go.step st_211 ?_
  have N_211 := Fr.snoc X_211 N0 g_a1
  have le_211 : h0.size ≤ h_211.size := Nat.le_of_eq W_211.size.symm
  have KP_211 := KP0.wr W_211 (Or.inl (List.mem_of_getElem? (i := 0) rfl))
  have O_211 := hO.wr W_211 g_a1
  have F_211 : Fld Z h_211 a1 "java/lang/String" "value" "[B" (.ref a2) := F_a1v.same W_211
  show Go p e below _ (T_211.setTop (mkF m 9 #[vR a1, vR a2, vI 0] []))
  refine Go.step (fun _ k => XS.aloadN X_211.here hx rfl (hb hby d_jdk_42_method_151_code_9) rfl rfl k) ?_
  refine Go.step (fun _ k => XS.iloadN X_211.here hx rfl (hb hby d_jdk_42_method_151_code_10) rfl  k) ?_
  show Go p e below _ (T_211.setTop (mkF m 11 #[vR a1, vR a2, vI 0] [(.int (0 : Int32)), (.ref a1)]))
  have f212 : Exa Z h_211 a1 "java/lang/String" := (E_a1.wr W_211)
  have f213 : Fld Z h_211 a1 "java/lang/String" "coder" "B" (.int (0 : Int32)) := (F_a1c.other W_211 (Or.inr (sn_0 hw)))
  obtain ⟨T_214, h_214, X_214, e_214, W_214, st_214⟩ := putFN X_211 hx hZ hown (wd_21 hw) Via.refl e_211 f213 f212 (Or.inr ⟨(wd_5 hw), rfl, hnm⟩) (wd_2 hw) (ty := .byte) (v' := (.int (0 : Int32))) pf_1 rfl (by decide) (g := (mkF m 11 #[vR a1, vR a2, vI 0] [(.int (0 : Int32)), (.ref a1)])) rfl rfl (hb hby d_jdk_42_method_151_code_11)
  refine Go.step st_214 ?_
  have N_214 := Fr.snoc X_214 N_211 g_a1
  have le_214 : h_211.size ≤ h_214.size := Nat.le_of_eq W_214.size.symm
  have KP_214 := KP_211.wr W_214 (Or.inl (List.mem_of_getElem? (i := 0) rfl))
  have O_214 := O_211.wr W_214 g_a1
  have F_214 : Fld Z h_214 a1 "java/lang/String" "coder" "B" (.int (0 : Int32)) := f213.same W_214
  show Go p e below _ (T_214.setTop (mkF m 14 #[vR a1, vR a2, vI 0] []))
  have f215 : Exa Z h_214 a1 "java/lang/String" := (f212.wr W_214)
  have f216 : Fld Z h_214 a1 "java/lang/String" "value" "[B" (.ref a2) := (F_211.other W_214 (Or.inr (sn_1 hw)))
  exact Go.ret0 X_214 hx hlk hret (hb hby d_jdk_42_method_151_code_14) (by decide) (by decide) (by rw [e_214]; exact ⟨rfl, N_214, KP_214, f215, f216, F_214⟩)
--@E
--@C valueOf
def Q_valueOf (Z : State) (zc : Int32) (vfm : Value) (va : Addr) (kv : ClassId) (ea : Addr) (eb : Addr) (ec : Addr) (ed : Addr) (wa : Addr) (wb : Addr) (wc : Addr) (wd : Addr) (p1 : Int32) (h0 : Heap) (n0 : Nat) (v : Option Value) (h : Heap) (L : List Loc) : Prop := ∃ (r : Addr), v = some (.ref r) ∧ Fr n0 L ∧ Keep h0 h [] ∧ h0.size ≤ r ∧ Str Z h.size h r ([p1] : List Int32)
set_option maxRecDepth 65536 in
set_option maxHeartbeats 40000000 in
theorem rm_valueOf (l : Launch) (Z : State) (a0 : Array Value) (hw : ∀ d ∈ tables_1, d.before a0 Z = true) (zc : Int32) (vfm : Value) (va : Addr) (kv : ClassId) (ea : Addr) (eb : Addr) (ec : Addr) (ed : Addr) (wa : Addr) (wb : Addr) (wc : Addr) (wd : Addr) (p1 : Int32) (h0 : Heap) (n0 : Nat) (Z0 : n0 ≤ h0.size) (l_p1 : (¬ p1 < 0 ∧ ¬ (255 : Int32) < p1)) (hSt : St Z zc vfm va kv ea eb ec ed wa wb wc wd) (hO : Old Z n0 h0) :
    CN l Z ({ cls := "java/lang/String", name := "valueOf", desc := "(C)Ljava/lang/String;" } : Jvm.MethodName) [(Jvm.Cond.code ({ cls := "java/lang/String", name := "valueOf", desc := "(C)Ljava/lang/String;" } : Jvm.MethodName) jdk_42_method_139_code (1 : Nat) (Option.some (Jvm.ClassFile.FieldType.object "java/lang/String")))] ({ frames := 2, cells := 2, slots := 5, locals := 27 } : Room) #[(.int p1)] h0 (Q_valueOf Z zc vfm va kv ea eb ec ed wa wb wc wd p1 h0 n0) := by
  refine CN.of (L0 := #[vI p1]) (plainFor_of_name pn_1) (fun m => by first | (simp [entryFrame, mkF, argsToLocals, Value.category]; done) | rfl) ?_
  intro p e s m below meth c s₁ hx hby hml hret hlk hZ hown hnm X0 e0
  have N0 := Fr.nil n0
  have KP0 := Keep.refl h0 []
  have hSt_ := hSt
  obtain ⟨S_cs, n_cs, S_fm, r_fm, S_va, E_va, A_va, S_ea, F_ea, S_wa, S_eb, F_eb, S_wb, S_ec, F_ec, S_wc, S_ed, F_ed, S_wd⟩ := hSt_
  show Go p e below _ (s₁.setTop (mkF m 0 #[vI p1] []))
  obtain ⟨T_217, X_217, e_217, st_217⟩ := getS2 X0 hx hZ hown (host := "") (Or.inl (wd_20 hw)) Via.refl e0 (S_cs.ext hO.2) (g := (mkF m 0 #[vI p1] [])) rfl (hb hby d_jdk_42_method_139_code_0)
  refine Go.step st_217 ?_
  show Go p e below _ (T_217.setTop (mkF m 3 #[vI p1] [(.int zc)]))
  refine Go.step (fun _ k => XS.ifNo X_217.here hx rfl (hb hby d_jdk_42_method_139_code_3) rfl ((if0 _ _).trans (feq (n_cs : ¬ (zc = (0 : Int32)))).1) k) ?_
  show Go p e below _ (T_217.setTop (mkF m 6 #[vI p1] []))
  refine Go.step (fun _ k => XS.iloadN X_217.here hx rfl (hb hby d_jdk_42_method_139_code_6) rfl  k) ?_
  show Go p e below _ (T_217.setTop (mkF m 7 #[vI p1] [(.int p1)]))
  obtain ⟨v_218, T_218, L_218, X_218, hQ_218, st_218⟩ := goS X_217 hx hZ (y := Y_4) hown (wd_120 hw) (wd_121 hw) (wd_45 hw) (wd_122 hw) (by decide) (backOf (W := 0) (rm_canEncode l Z a0 hw zc vfm va kv ea eb ec ed wa wb wc wd (p1) h0 n0 (Nat.le_trans Z0 KP0.1) l_p1 hSt hO) hZ (wd_122 hw) (wd_45 hw) (by decide) (by decide)) e_217 (g := (mkF m 7 #[vI p1] [(.int p1)])) rfl (by rw [hml]; rfl) (argsL := [(.int p1)]) (rest := []) rfl (lenOf pd_4 rfl) rfl (by show 2 * 0 + _ ≤ _; exact Nat.le_of_eq rfl) (hb hby d_jdk_42_method_139_code_7) (by decide) (by decide)
  obtain ⟨rfl, Nq_218, e_218⟩ := hQ_218
  have N_218 := Fr.app N0 Nq_218
  refine Go.step st_218 ?_
  show Go p e below _ (T_218.setTop (mkF m 10 #[vI p1] [(.int (1 : Int32))]))
  refine Go.step (fun _ k => XS.ifNo X_218.here hx rfl (hb hby d_jdk_42_method_139_code_10) rfl ((if0 _ _).trans (feq ((by decide) : ¬ ((1 : Int32) = (0 : Int32)))).1) k) ?_
  show Go p e below _ (T_218.setTop (mkF m 13 #[vI p1] []))
  obtain ⟨T_219, h_219, X_219, e_219, E_219, A_219, D_219, Un_219, st_219⟩ := newO X_218 hx hZ hown (wd_106 hw) (wd_2 hw) (wd_1 hw) e_218 (g := (mkF m 13 #[vI p1] [])) rfl (hb hby d_jdk_42_method_139_code_13) (by decide) (by decide)
  obtain ⟨b219, q_219⟩ : ∃ z, z = h0.size := ⟨_, rfl⟩
  rw [← q_219] at A_219 D_219 Un_219 st_219
  refine Go.step st_219 ?_
  have le_219 : h0.size ≤ h_219.size := E_219.1
  have KP_219 := KP0.ext E_219
  have O_219 := hO.ext E_219
  have ge_219 : h0.size ≤ b219 := Nat.le_of_eq q_219.symm
  have sz_b219 : h0.size ≤ b219 := Nat.le_trans (Nat.le_refl _) ge_219
  have g_b219 : n0 ≤ b219 := Nat.le_trans Z0 sz_b219
  have F_219_4 : Fld Z h_219 b219 "java/lang/String" "value" "[B" .null := D_219 (Or.inr (wd_4 hw)) (ty := (.array .byte)) pf_0
  have F_219_5 : Fld Z h_219 b219 "java/lang/String" "coder" "B" (.int (0 : Int32)) := D_219 (Or.inr (wd_5 hw)) (ty := .byte) pf_1
  show Go p e below _ (T_219.setTop (mkF m 16 #[vI p1] [(.ref b219)]))
  refine Go.step (fun _ k => XS.dup X_219.here hx rfl (hb hby d_jdk_42_method_139_code_16) rfl rfl k) ?_
  refine Go.step (fun _ k => XS.iloadN X_219.here hx rfl (hb hby d_jdk_42_method_139_code_17) rfl  k) ?_
  show Go p e below _ (T_219.setTop (mkF m 18 #[vI p1] [(.int p1), (.ref b219), (.ref b219)]))
  obtain ⟨v_220, T_220, L_220, X_220, hQ_220, st_220⟩ := goS X_219 hx hZ (y := Y_5) hown (wd_123 hw) (wd_124 hw) (wd_45 hw) (wd_125 hw) (by decide) (backOf (W := 2) (rm_toBytes l Z a0 hw zc vfm va kv ea eb ec ed wa wb wc wd (p1) h_219 n0 (Nat.le_trans Z0 KP_219.1) hSt O_219) hZ (wd_125 hw) (wd_45 hw) (by decide) (by decide)) e_219 (g := (mkF m 18 #[vI p1] [(.int p1), (.ref b219), (.ref b219)])) rfl (by rw [hml]; rfl) (argsL := [(.int p1)]) (rest := [(.ref b219), (.ref b219)]) rfl (lenOf pd_5 rfl) rfl (by show 2 * 0 + _ ≤ _; exact Nat.le_of_eq rfl) (hb hby d_jdk_42_method_139_code_18) (by decide) (by decide)
  obtain ⟨r_220, kr_220, rfl, Nq_220, K_220, u0_220, u1_220⟩ := hQ_220
  have N_220 := Fr.app N_218 Nq_220
  have le_220 : h_219.size ≤ T_220.heap.size := K_220.1
  have KP_220 := KP_219.trans K_220 all0
  have O_220 := O_219.keep K_220 all0
  have sz_r_220 : h0.size ≤ r_220 := Nat.le_trans le_219 u0_220
  have g_r_220 : n0 ≤ r_220 := Nat.le_trans Z0 sz_r_220
  refine Go.step st_220 ?_
  show Go p e below _ (T_220.setTop (mkF m 21 #[vI p1] [(.ref r_220), (.ref b219), (.ref b219)]))
  refine Go.step (fun _ k => XS.iconst X_220.here hx rfl (hb hby d_jdk_42_method_139_code_21) k) ?_
  show Go p e below _ (T_220.setTop (mkF m 22 #[vI p1] [(.int (0 : Int32)), (.ref r_220), (.ref b219), (.ref b219)]))
  have f221 : Exa Z T_220.heap b219 "java/lang/String" := (A_219.keep K_220)
  have f222 : Fld Z T_220.heap b219 "java/lang/String" "value" "[B" .null := (F_219_4.keep K_220 nin0)
  have f223 : Fld Z T_220.heap b219 "java/lang/String" "coder" "B" (.int (0 : Int32)) := (F_219_5.keep K_220 nin0)
  obtain ⟨v_224, T_224, L_224, X_224, hQ_224, st_224⟩ := goC X_220 hx hZ (y := Y_6) hown rfl (wd_126 hw) (wd_127 hw) (wd_128 hw) (by decide) (backOf (W := 1) (rm_initBB l Z a0 hw zc vfm va kv ea eb ec ed wa wb wc wd (b219) (r_220) T_220.heap n0 (Nat.le_trans Z0 KP_220.1) f221 f222 f223 g_b219 hSt O_220) hZ (wd_128 hw) (wd_1 hw) (by decide) (by decide)) rfl (g := (mkF m 22 #[vI p1] [(.int (0 : Int32)), (.ref r_220), (.ref b219), (.ref b219)])) rfl (by rw [hml]; rfl) (a := b219) (argsL := [(.ref r_220), (.int (0 : Int32))]) (rest := [(.ref b219)]) rfl (lenOf pd_6 rfl) rfl (by show 2 * 0 + _ ≤ _; exact Nat.le_of_eq rfl) (hb hby d_jdk_42_method_139_code_22) (by decide) (by decide)
  obtain ⟨rfl, Nq_224, K_224, u0_224, u1_224, u2_224⟩ := hQ_224
  have N_224 := Fr.app N_220 Nq_224
  have le_224 : T_220.heap.size ≤ T_224.heap.size := K_224.1
  have KP_224 := KP_220.trans K_224 (allS (Or.inr sz_b219) all0)
  have O_224 := O_220.keep K_224 (allS g_b219 all0)
  refine Go.step st_224 ?_
  show Go p e below _ (T_224.setTop (mkF m 25 #[vI p1] [(.ref b219)]))
  have f225 : Arv Z T_224.heap r_220 kr_220 .byte (1 : Int32) [(.int p1.toInt8.toInt32)] (.int (0 : Int32)) := (u1_220.keep K_224 (ninS (Ne.symm (Nat.ne_of_lt (Nat.lt_of_lt_of_le A_219.lt (Nat.le_trans (Nat.le_refl _) u0_220)))) nin0))
  have Sx226 : Str Z (T_224.heap).size (T_224.heap) b219 ([p1] : List Int32) := ⟨r_220, kr_220, u0_224.lt, f225.lt, u0_224, u1_224, u2_224, f225, latc l_p1 lat0, Nat.le_of_ble_eq_true rfl⟩
  exact Go.retV X_224 hx hlk hret rfl (Or.inr (Or.inr (Or.inr (Or.inr ⟨rfl, rfl, rfl⟩)))) (hb hby d_jdk_42_method_139_code_25) (by decide) (by decide) (by exact ⟨b219, rfl, N_224, KP_224, sz_b219, Sx226⟩)
--@E
--@C init4e
def Q_init4e (Z : State) (zc : Int32) (vfm : Value) (va : Addr) (kv : ClassId) (ea : Addr) (eb : Addr) (ec : Addr) (ed : Addr) (wa : Addr) (wb : Addr) (wc : Addr) (wd : Addr) (a1 : Addr) (a2 : Addr) (h0 : Heap) (n0 : Nat) (v : Option Value) (h : Heap) (L : List Loc) : Prop := v = none ∧ Fr n0 L ∧ Keep h0 h [a1] ∧ Str Z h.size h a1 ([] : List Int32)
set_option maxRecDepth 65536 in
set_option maxHeartbeats 40000000 in
theorem rm_init4e (l : Launch) (Z : State) (a0 : Array Value) (hw : ∀ d ∈ tables_1, d.before a0 Z = true) (zc : Int32) (vfm : Value) (va : Addr) (kv : ClassId) (ea : Addr) (eb : Addr) (ec : Addr) (ed : Addr) (wa : Addr) (wb : Addr) (wc : Addr) (wd : Addr) (a1 : Addr) (a2 : Addr) (h0 : Heap) (n0 : Nat) (Z0 : n0 ≤ h0.size) (E_a1 : Exa Z h0 a1 "java/lang/String") (F_a1v : Fld Z h0 a1 "java/lang/String" "value" "[B" .null) (F_a1c : Fld Z h0 a1 "java/lang/String" "coder" "B" (.int (0 : Int32))) (g_a1 : n0 ≤ a1) (hSt : St Z zc vfm va kv ea eb ec ed wa wb wc wd) (hO : Old Z n0 h0) :
    CW l Z EL ({ cls := "java/lang/String", name := "<init>", desc := "([CIILjava/lang/Void;)V" } : Jvm.MethodName) [(Jvm.Cond.code ({ cls := "java/lang/String", name := "<init>", desc := "([CIILjava/lang/Void;)V" } : Jvm.MethodName) jdk_42_method_149_code (6 : Nat) (Option.none : Option Jvm.ClassFile.FieldType))] ({ frames := 1, cells := 4, slots := 8, locals := 12 } : Room) #[(.ref a1), (.ref a2), (.int (0 : Int32)), (.int (0 : Int32)), .null] h0 (Q_init4e Z zc vfm va kv ea eb ec ed wa wb wc wd a1 a2 h0 n0) := by
  refine CW.of (L0 := #[vR a1, vR a2, vI 0, vI 0, .val .null, vU]) (plainFor_of_name pn_1) (fun m => by first | (simp [entryFrame, mkF, argsToLocals, Value.category]; done) | rfl) ?_
  intro p e s m below meth c s₁ hx hby hml hret hlk hZ hown hnm X0 e0 hS0 hk0 CV0 hh0
  have hEL := hEL_ (a0 := a0) hw
  have hwS := hwS_ hw
  have N0 := Fr.nil n0
  have KP0 := Keep.refl h0 [a1]
  have hSt_ := hSt
  obtain ⟨S_cs, n_cs, S_fm, r_fm, S_va, E_va, A_va, S_ea, F_ea, S_wa, S_eb, F_eb, S_wb, S_ec, F_ec, S_wc, S_ed, F_ed, S_wd⟩ := hSt_
  have Sf_a1 : Safe Z EL s.vm h0 a1 := own_safe_null hZ.alike E_a1 F_a1v (wd_2 hw)
  show Go p e below _ (s₁.setTop (mkF m 0 #[vR a1, vR a2, vI 0, vI 0, .val .null, vU] []))
  refine Go.step (fun _ k => XS.aloadN X0.here hx rfl (hb hby d_jdk_42_method_149_code_0) rfl rfl k) ?_
  show Go p e below _ (s₁.setTop (mkF m 1 #[vR a1, vR a2, vI 0, vI 0, .val .null, vU] [(.ref a1)]))
  obtain ⟨T_227, X_227, e_227, st_227⟩ := initO X0 hx hZ hown (wd_63 hw) (wd_64 hw) (wd_65 hw) e0 (g := (mkF m 1 #[vR a1, vR a2, vI 0, vI 0, .val .null, vU] [(.ref a1)])) rfl (by rw [hml]; rfl) rfl (hb hby d_jdk_42_method_149_code_1) (by decide) (W := 0) (by show 2 * 0 + _ ≤ _; exact Nat.le_of_eq rfl) (by decide)
  refine Go.step st_227 ?_
  show Go p e below _ (T_227.setTop (mkF m 4 #[vR a1, vR a2, vI 0, vI 0, .val .null, vU] []))
  refine Go.step (fun _ k => XS.iloadN X_227.here hx rfl (hb hby d_jdk_42_method_149_code_4) rfl  k) ?_
  show Go p e below _ (T_227.setTop (mkF m 5 #[vR a1, vR a2, vI 0, vI 0, .val .null, vU] [(.int (0 : Int32))]))
  refine Go.step (fun _ k => XS.ifNo X_227.here hx rfl (hb hby d_jdk_42_method_149_code_5) rfl ((if0 _ _).trans (teq ((by decide) : (0 : Int32) = (0 : Int32))).2) k) ?_
  show Go p e below _ (T_227.setTop (mkF m 8 #[vR a1, vR a2, vI 0, vI 0, .val .null, vU] []))
  refine Go.step (fun _ k => XS.aloadN X_227.here hx rfl (hb hby d_jdk_42_method_149_code_8) rfl rfl k) ?_
  show Go p e below _ (T_227.setTop (mkF m 9 #[vR a1, vR a2, vI 0, vI 0, .val .null, vU] [(.ref a1)]))
  obtain ⟨a_228, T_228, h_228, k1_228, t_228, kb_228, X_228, e_228, E_228, hS_228, hk_228, hZ_228, hown_228, Ex_228, Fc_228, Fv_228, Av_228, lta_228, ltb_228, C_228, Lt_228, -, st_228⟩ := ldcCH X_227 hx hZ hown (wd_133 hw) hwS e_227 hS0 hk0 hEL (by decide) CV0 (vs := []) (z := (0 : Int32)) ⟨by decide, by decide⟩ (by decide) (by decide) (g := (mkF m 9 #[vR a1, vR a2, vI 0, vI 0, .val .null, vU] [(.ref a1)])) rfl (hb hby d_jdk_42_method_149_code_9) (n := 0) (by decide) (by decide) (by decide) (by decide)
  refine Go.step st_228 ?_
  have CR_228 := CHr.trans (CHr.refl CV0) C_228
  have le_228 : h0.size ≤ h_228.size := E_228.1
  have KP_228 := KP0.ext E_228
  have O_228 := hO.ext E_228
  have Sx_228 : Str Z h_228.size h_228 a_228 ([] : List Int32) := ⟨t_228, kb_228, lta_228, ltb_228, Ex_228, Fv_228, Fc_228, Av_228, by decide, by decide⟩
  show Go p e below _ (T_228.setTop (mkF m 11 #[vR a1, vR a2, vI 0, vI 0, .val .null, vU] [(.ref a_228), (.ref a1)]))
  have cp229 := Sx_228
  obtain ⟨t230, kb230, -, hb230, Ex230, Fv230, Fc230, Av230, hl230, hn230⟩ := cp229
  obtain ⟨T_231, X_231, e_231, st_231⟩ := getF X_228 hx hZ_228 hown_228 (host := "") (Or.inl (wd_14 hw)) Via.refl e_228 Fv230 (g := (mkF m 11 #[vR a1, vR a2, vI 0, vI 0, .val .null, vU] [(.ref a_228), (.ref a1)])) rfl rfl (hb hby d_jdk_42_method_149_code_11)
  refine Go.step st_231 ?_
  show Go p e below _ (T_231.setTop (mkF m 14 #[vR a1, vR a2, vI 0, vI 0, .val .null, vU] [(.ref t230), (.ref a1)]))
  have f232 : Exa Z h_228 a1 "java/lang/String" := (E_a1.ext E_228)
  have f233 : Fld Z h_228 a1 "java/lang/String" "value" "[B" .null := (F_a1v.ext E_228)
  obtain ⟨T_234, h_234, X_234, e_234, W_234, st_234⟩ := putF X_231 hx hZ_228 hown_228 (host := "") (Or.inl (wd_14 hw)) Via.refl e_231 f233 f232 (Or.inr ⟨(wd_4 hw), rfl, hnm⟩) (wd_2 hw) (ty := (.array .byte)) pf_0 rfl rfl (g := (mkF m 14 #[vR a1, vR a2, vI 0, vI 0, .val .null, vU] [(.ref t230), (.ref a1)])) rfl rfl (hb hby d_jdk_42_method_149_code_14)
  refine Go.step st_234 ?_
  have N_234 := Fr.snoc X_234 N0 g_a1
  have C_234 := CHr.wr W_234 (CHr.safe C_228 E_a1.lt Sf_a1) C_228.1
  have CR_234 := CHr.trans CR_228 C_234
  have le_234 : h_228.size ≤ h_234.size := Nat.le_of_eq W_234.size.symm
  have KP_234 := KP_228.wr W_234 (Or.inl (List.mem_of_getElem? (i := 0) rfl))
  have O_234 := O_228.wr W_234 g_a1
  have F_234 : Fld Z h_234 a1 "java/lang/String" "value" "[B" (.ref t230) := f233.same W_234
  show Go p e below _ (T_234.setTop (mkF m 17 #[vR a1, vR a2, vI 0, vI 0, .val .null, vU] []))
  refine Go.step (fun _ k => XS.aloadN X_234.here hx rfl (hb hby d_jdk_42_method_149_code_17) rfl rfl k) ?_
  show Go p e below _ (T_234.setTop (mkF m 18 #[vR a1, vR a2, vI 0, vI 0, .val .null, vU] [(.ref a1)]))
  obtain ⟨a_235, T_235, h_235, k1_235, t_235, kb_235, X_235, e_235, E_235, hS_235, hk_235, hZ_235, hown_235, Ex_235, Fc_235, Fv_235, Av_235, lta_235, ltb_235, C_235, Lt_235, -, st_235⟩ := ldcCH X_234 hx hZ_228 hown_228 (wd_133 hw) hwS e_234 hS_228 (Nat.le_trans hk_228 le_234) hEL (by decide) C_234.1 (vs := []) (z := (0 : Int32)) ⟨by decide, by decide⟩ (by decide) (by decide) (g := (mkF m 18 #[vR a1, vR a2, vI 0, vI 0, .val .null, vU] [(.ref a1)])) rfl (hb hby d_jdk_42_method_149_code_18) (n := 0) (by decide) (by decide) (by decide) (by decide)
  refine Go.step st_235 ?_
  have CR_235 := CHr.trans CR_234 C_235
  have le_235 : h_234.size ≤ h_235.size := E_235.1
  have KP_235 := KP_234.ext E_235
  have O_235 := O_234.ext E_235
  have Sx_235 : Str Z h_235.size h_235 a_235 ([] : List Int32) := ⟨t_235, kb_235, lta_235, ltb_235, Ex_235, Fv_235, Fc_235, Av_235, by decide, by decide⟩
  show Go p e below _ (T_235.setTop (mkF m 20 #[vR a1, vR a2, vI 0, vI 0, .val .null, vU] [(.ref a_235), (.ref a1)]))
  have cp236 := Sx_235
  obtain ⟨t237, kb237, -, hb237, Ex237, Fv237, Fc237, Av237, hl237, hn237⟩ := cp236
  obtain ⟨T_238, X_238, e_238, st_238⟩ := getF X_235 hx hZ_235 hown_235 (host := "") (Or.inl (wd_21 hw)) Via.refl e_235 Fc237 (g := (mkF m 20 #[vR a1, vR a2, vI 0, vI 0, .val .null, vU] [(.ref a_235), (.ref a1)])) rfl rfl (hb hby d_jdk_42_method_149_code_20)
  refine Go.step st_238 ?_
  show Go p e below _ (T_238.setTop (mkF m 23 #[vR a1, vR a2, vI 0, vI 0, .val .null, vU] [(.int (0 : Int32)), (.ref a1)]))
  have f239 : Exa Z h_235 a1 "java/lang/String" := ((f232.wr W_234).ext E_235)
  have f240 : Fld Z h_235 a1 "java/lang/String" "coder" "B" (.int (0 : Int32)) := (((F_a1c.ext E_228).other W_234 (Or.inr (sn_0 hw))).ext E_235)
  obtain ⟨T_241, h_241, X_241, e_241, W_241, st_241⟩ := putFN X_238 hx hZ_235 hown_235 (wd_21 hw) Via.refl e_238 f240 f239 (Or.inr ⟨(wd_5 hw), rfl, hnm⟩) (wd_2 hw) (ty := .byte) (v' := (.int (0 : Int32))) pf_1 rfl (by decide) (g := (mkF m 23 #[vR a1, vR a2, vI 0, vI 0, .val .null, vU] [(.int (0 : Int32)), (.ref a1)])) rfl rfl (hb hby d_jdk_42_method_149_code_23)
  refine Go.step st_241 ?_
  have N_241 := Fr.snoc X_241 N_234 g_a1
  have C_241 := CHr.wr W_241 (CHr.safe (CHr.trans (CHr.trans C_228 C_234) C_235) E_a1.lt Sf_a1) C_235.1
  have CR_241 := CHr.trans CR_235 C_241
  have le_241 : h_235.size ≤ h_241.size := Nat.le_of_eq W_241.size.symm
  have KP_241 := KP_235.wr W_241 (Or.inl (List.mem_of_getElem? (i := 0) rfl))
  have O_241 := O_235.wr W_241 g_a1
  have F_241 : Fld Z h_241 a1 "java/lang/String" "coder" "B" (.int (0 : Int32)) := f240.same W_241
  show Go p e below _ (T_241.setTop (mkF m 26 #[vR a1, vR a2, vI 0, vI 0, .val .null, vU] []))
  have f242 : Exa Z h_241 a1 "java/lang/String" := (f239.wr W_241)
  have f243 : Fld Z h_241 a1 "java/lang/String" "value" "[B" (.ref t230) := ((F_234.ext E_235).other W_241 (Or.inr (sn_1 hw)))
  have f244 : Arv Z h_241 t230 kb230 .byte (0 : Int32) [] (.int (0 : Int32)) := (((Av230.other W_234 (Ne.symm (Exa.neArv (E_a1.ext E_228) Av230 (wd_2 hw)))).ext E_235).other W_241 (Ne.symm (Exa.neArv (E_a1.ext E_228) Av230 (wd_2 hw))))
  have Sx245 : Str Z h_241.size h_241 a1 ([] : List Int32) := ⟨t230, kb230, f242.lt, f244.lt, f242, f243, F_241, f244, by decide, Nat.le_of_ble_eq_true rfl⟩
  exact Go.ret0W X_241 e_241 hS_235 (Nat.le_trans hk_235 le_241) hZ_235 hEL hh0 CR_241 hx hlk hret (hb hby d_jdk_42_method_149_code_26) (by decide) (by decide) (by rw [e_241]; exact ⟨rfl, N_241, KP_241, Sx245⟩)
--@E
--@C init1e
def Q_init1e (Z : State) (zc : Int32) (vfm : Value) (va : Addr) (kv : ClassId) (ea : Addr) (eb : Addr) (ec : Addr) (ed : Addr) (wa : Addr) (wb : Addr) (wc : Addr) (wd : Addr) (a1 : Addr) (a2 : Addr) (k2 : ClassId) (h0 : Heap) (n0 : Nat) (v : Option Value) (h : Heap) (L : List Loc) : Prop := v = none ∧ Fr n0 L ∧ Keep h0 h [a1] ∧ Str Z h.size h a1 ([] : List Int32)
set_option maxRecDepth 65536 in
set_option maxHeartbeats 40000000 in
theorem rm_init1e (l : Launch) (Z : State) (a0 : Array Value) (hw : ∀ d ∈ tables_1, d.before a0 Z = true) (zc : Int32) (vfm : Value) (va : Addr) (kv : ClassId) (ea : Addr) (eb : Addr) (ec : Addr) (ed : Addr) (wa : Addr) (wb : Addr) (wc : Addr) (wd : Addr) (a1 : Addr) (a2 : Addr) (k2 : ClassId) (h0 : Heap) (n0 : Nat) (Z0 : n0 ≤ h0.size) (E_a1 : Exa Z h0 a1 "java/lang/String") (F_a1v : Fld Z h0 a1 "java/lang/String" "value" "[B" .null) (F_a1c : Fld Z h0 a1 "java/lang/String" "coder" "B" (.int (0 : Int32))) (g_a1 : n0 ≤ a1) (A_a2 : Arv Z h0 a2 k2 .char (0 : Int32) [] (.int (0 : Int32))) (hSt : St Z zc vfm va kv ea eb ec ed wa wb wc wd) (hO : Old Z n0 h0) :
    CW l Z EL ({ cls := "java/lang/String", name := "<init>", desc := "([C)V" } : Jvm.MethodName) [(Jvm.Cond.code ({ cls := "java/lang/String", name := "<init>", desc := "([C)V" } : Jvm.MethodName) jdk_42_method_3_code (2 : Nat) (Option.none : Option Jvm.ClassFile.FieldType))] ({ frames := 2, cells := 4, slots := 8, locals := 29 } : Room) #[(.ref a1), (.ref a2)] h0 (Q_init1e Z zc vfm va kv ea eb ec ed wa wb wc wd a1 a2 k2 h0 n0) := by
  refine CW.of (L0 := #[vR a1, vR a2]) (plainFor_of_name pn_1) (fun m => by first | (simp [entryFrame, mkF, argsToLocals, Value.category]; done) | rfl) ?_
  intro p e s m below meth c s₁ hx hby hml hret hlk hZ hown hnm X0 e0 hS0 hk0 CV0 hh0
  have hEL := hEL_ (a0 := a0) hw
  have hwS := hwS_ hw
  have N0 := Fr.nil n0
  have KP0 := Keep.refl h0 [a1]
  have hSt_ := hSt
  obtain ⟨S_cs, n_cs, S_fm, r_fm, S_va, E_va, A_va, S_ea, F_ea, S_wa, S_eb, F_eb, S_wb, S_ec, F_ec, S_wc, S_ed, F_ed, S_wd⟩ := hSt_
  have Sf_a1 : Safe Z EL s.vm h0 a1 := own_safe_null hZ.alike E_a1 F_a1v (wd_2 hw)
  show Go p e below _ (s₁.setTop (mkF m 0 #[vR a1, vR a2] []))
  refine Go.step (fun _ k => XS.aloadN X0.here hx rfl (hb hby d_jdk_42_method_3_code_0) rfl rfl k) ?_
  refine Go.step (fun _ k => XS.aloadN X0.here hx rfl (hb hby d_jdk_42_method_3_code_1) rfl rfl k) ?_
  refine Go.step (fun _ k => XS.iconst X0.here hx rfl (hb hby d_jdk_42_method_3_code_2) k) ?_
  refine Go.step (fun _ k => XS.aloadN X0.here hx rfl (hb hby d_jdk_42_method_3_code_3) rfl rfl k) ?_
  show Go p e below _ (s₁.setTop (mkF m 4 #[vR a1, vR a2] [(.ref a2), (.int (0 : Int32)), (.ref a2), (.ref a1)]))
  have cp247 := A_a2
  obtain ⟨cl_246, Ar_246, -, Sz_246, Ng_246, -, -⟩ := cp247
  refine Go.step (fun _ k => X0.arraylength hx (by rw [e0]; exact Ar_246.1) (State.isArrayOf_alike hZ.alike Ar_246.2.1) (g := (mkF m 4 #[vR a1, vR a2] [(.ref a2), (.int (0 : Int32)), (.ref a2), (.ref a1)])) rfl rfl (hb hby d_jdk_42_method_3_code_4) _ k) ?_
  rw [len_of Sz_246 Ng_246]
  show Go p e below _ (s₁.setTop (mkF m 5 #[vR a1, vR a2] [(.int (0 : Int32)), (.int (0 : Int32)), (.ref a2), (.ref a1)]))
  refine Go.step (fun _ k => XS.aconstNull X0.here hx rfl (hb hby d_jdk_42_method_3_code_5) k) ?_
  show Go p e below _ (s₁.setTop (mkF m 6 #[vR a1, vR a2] [.null, (.int (0 : Int32)), (.int (0 : Int32)), (.ref a2), (.ref a1)]))
  obtain ⟨v_248, T_248, L_248, X_248, hQ_248, hS_248, hZ_248, hown_248, C_248, st_248⟩ := goCW X0 hx hZ (y := Y_7) hown hS0 hk0 rfl (wd_59 hw) (wd_60 hw) (wd_62 hw) (by decide) (backOfSH (W := 0) (rm_init4e l Z a0 hw zc vfm va kv ea eb ec ed wa wb wc wd (a1) (a2) h0 n0 (Nat.le_trans Z0 KP0.1) E_a1 F_a1v F_a1c g_a1 hSt hO) hZ (wd_62 hw) (wd_1 hw) (by decide) (by decide) hEL CV0) e0 (g := (mkF m 6 #[vR a1, vR a2] [.null, (.int (0 : Int32)), (.int (0 : Int32)), (.ref a2), (.ref a1)])) rfl (by rw [hml]; rfl) (a := a1) (argsL := [(.ref a2), (.int (0 : Int32)), (.int (0 : Int32)), .null]) (rest := []) rfl (lenOf pd_7 rfl) rfl (by show 2 * 0 + _ ≤ _; exact Nat.le_of_eq rfl) (hb hby d_jdk_42_method_3_code_6) (by decide) (by decide)
  obtain ⟨rfl, Nq_248, K_248, u0_248⟩ := hQ_248
  have N_248 := Fr.app N0 Nq_248
  have CR_248 := CHr.trans (CHr.refl CV0) C_248
  have le_248 : h0.size ≤ T_248.heap.size := K_248.1
  have KP_248 := KP0.trans K_248 (allS (Or.inl (List.mem_of_getElem? (i := 0) rfl)) all0)
  have O_248 := hO.keep K_248 (allS g_a1 all0)
  refine Go.step st_248 ?_
  show Go p e below _ (T_248.setTop (mkF m 9 #[vR a1, vR a2] []))
  exact Go.ret0W X_248 rfl hS_248 (Nat.le_refl _) hZ_248 hEL hh0 CR_248 hx hlk hret (hb hby d_jdk_42_method_3_code_9) (by decide) (by decide) (by exact ⟨rfl, N_248, KP_248, u0_248⟩)
--@E
theorem rem6 (x : Int32) : 0 ≤ ((x &&& (2147483647 : Int32)) % (6 : Int32)).toInt ∧ ((x &&& (2147483647 : Int32)) % (6 : Int32)).toInt < 6 := by
  have h := c_mask x 2147483647 31 (by decide) (by decide)
  have r := (c_irem (x &&& (2147483647 : Int32)) 6 6 (by decide)).1 (by omega)
  omega
theorem rem7 (x : Int32) : 0 ≤ ((x &&& (2147483647 : Int32)) % (7 : Int32)).toInt ∧ ((x &&& (2147483647 : Int32)) % (7 : Int32)).toInt < 7 := by
  have h := c_mask x 2147483647 31 (by decide) (by decide)
  have r := (c_irem (x &&& (2147483647 : Int32)) 7 7 (by decide)).1 (by omega)
  omega
theorem rem8 (x : Int32) : 0 ≤ ((x &&& (2147483647 : Int32)) % (8 : Int32)).toInt ∧ ((x &&& (2147483647 : Int32)) % (8 : Int32)).toInt < 8 := by
  have h := c_mask x 2147483647 31 (by decide) (by decide)
  have r := (c_irem (x &&& (2147483647 : Int32)) 8 8 (by decide)).1 (by omega)
  omega
theorem rem9 (x : Int32) : 0 ≤ ((x &&& (2147483647 : Int32)) % (9 : Int32)).toInt ∧ ((x &&& (2147483647 : Int32)) % (9 : Int32)).toInt < 9 := by
  have h := c_mask x 2147483647 31 (by decide) (by decide)
  have r := (c_irem (x &&& (2147483647 : Int32)) 9 9 (by decide)).1 (by omega)
  omega
theorem range4 (x : Int32) : (x &&& (3 : Int32)) = 0 ∨ (x &&& (3 : Int32)) = 1 ∨ (x &&& (3 : Int32)) = 2 ∨ (x &&& (3 : Int32)) = 3 := by
  have h := c_mask x 3 2 (by decide) (by decide)
  have q : (x &&& (3 : Int32)).toInt = 0 ∨ (x &&& (3 : Int32)).toInt = 1 ∨ (x &&& (3 : Int32)).toInt = 2 ∨ (x &&& (3 : Int32)).toInt = 3 := by omega
  rcases q with q | q | q | q
  · exact Or.inl (Int32.toInt_inj.mp q)
  · exact Or.inr (Or.inl (Int32.toInt_inj.mp q))
  · exact Or.inr (Or.inr (Or.inl (Int32.toInt_inj.mp q)))
  · exact Or.inr (Or.inr (Or.inr (Int32.toInt_inj.mp q)))
theorem range6 {z : Int32} (hz : 0 ≤ z.toInt ∧ z.toInt < 6) : z = 0 ∨ z = 1 ∨ z = 2 ∨ z = 3 ∨ z = 4 ∨ z = 5 := by
  have e : ∀ k : Int32, z.toInt = k.toInt → z = k := fun k q => Int32.toInt_inj.mp q
  have q : z.toInt = 0 ∨ z.toInt = 1 ∨ z.toInt = 2 ∨ z.toInt = 3 ∨ z.toInt = 4 ∨ z.toInt = 5 := by omega
  rcases q with q | q | q | q | q | q
  · exact Or.inl (e 0 q)
  · exact Or.inr (Or.inl (e 1 q))
  · exact Or.inr (Or.inr (Or.inl (e 2 q)))
  · exact Or.inr (Or.inr (Or.inr (Or.inl (e 3 q))))
  · exact Or.inr (Or.inr (Or.inr (Or.inr (Or.inl (e 4 q)))))
  · exact Or.inr (Or.inr (Or.inr (Or.inr (Or.inr (e 5 q)))))
--@C puts
set_option maxRecDepth 65536 in
set_option maxHeartbeats 40000000 in
theorem sg_puts (l : Launch) (Z : State) (a0 : Array Value) (hw : ∀ d ∈ tables_1, d.before a0 Z = true) (zc : Int32) (vfm : Value) (va : Addr) (kv : ClassId) (ea : Addr) (eb : Addr) (ec : Addr) (ed : Addr) (wa : Addr) (wb : Addr) (wc : Addr) (wd : Addr) (q0 : Int32) (q1 : Int32) (q2 : Int32) (q3 : Int32) (q4 : Int32) (nn : Int32) (a1 : Addr) (k1 : ClassId) (z1 : Int32) (vs : List Int32) (w1 : Addr) (ws : List Int32) (m1 : Int32) (p1 : Int32) (c1 : Int32) (nb : Nat) (h0 : Heap) (n0 : Nat) (Z0 : n0 ≤ h0.size) (A_a1 : Arv Z h0 a1 k1 .char z1 (vs.map Value.int) (.int (0 : Int32))) (g_a1 : n0 ≤ a1) (S_w1 : Str Z nb h0 w1 ws) (hnb : (nb ≤ a1)) (hz : (z1 = Int32.ofNat vs.length)) (hvl : (vs.length ≤ 100)) (hlv : (∀ c ∈ vs, ¬ c < 0 ∧ ¬ (255 : Int32) < c)) (hok : (∀ i1 : Int32, ¬ i1 < 0 → i1 < z1 → AtOk ws.length m1 p1 i1)) (l_c1 : (¬ c1 < 0 ∧ ¬ (255 : Int32) < c1)) (hSt : St Z zc vfm va kv ea eb ec ed wa wb wc wd) (hO : Old Z n0 h0)
    {p : Program} {e : Env} {s : State} {m : MethodId} {args : Array Value} {below : List Frame} {meth : Method} {c : Code} {T : State} {locs : List Loc} {cells slots : Nat} {Qf : Outcome → State → Prop}
    (hx : p.tables.exec = Jvm.exec) (hby : c.code = code) (hml : c.maxLocals = maxLocals) (hZ : Z.Warmed39 s.vm) (hown : s.vm.findClass "com/example/patient_ledger/patientledger/HoldStatusFromWireNamePinLaw" = some m.cls) (X0 : Stand p l e room_1 s m args below meth c T locs cells slots) (e0 : T.heap = h0) (N0 : Fr n0 locs) (hc : cells + 0 ≤ room_1.cells) (hs : slots + 0 ≤ room_1.slots)
    (hgo : ∀ (T' : State) (L : List Loc) (vs2 : List Int32), Stand p l e room_1 s m args below meth c T' L (cells + 0) (slots + 0) → (Fr n0 L ∧ Keep h0 T'.heap [a1] ∧ Arv Z T'.heap a1 k1 .char z1 (vs2.map Value.int) (.int (0 : Int32)) ∧ (vs2.length = vs.length ∧ ∀ c ∈ vs2, ¬ c < 0 ∧ ¬ (255 : Int32) < c)) → Go p e below Qf (T'.setTop (mkF m 303 #[.val (.int q0), .val (.int q1), .val (.int q2), .val (.int q3), .val (.int q4), .val (.ref w1), .val (.int c1), .val (.int m1), .unset, .val (.int nn), .val (.int p1), .val (.ref a1)] []))) :
    Go p e below Qf (T.setTop (mkF m 174 #[.val (.int q0), .val (.int q1), .val (.int q2), .val (.int q3), .val (.int q4), .val (.ref w1), .val (.int c1), .val (.int m1), .unset, .val (.int nn), .val (.int p1), .val (.ref a1)] [])) := by
  have KP0 := Keep.refl h0 [a1]
  have hSt_ := hSt
  obtain ⟨S_cs, n_cs, S_fm, r_fm, S_va, E_va, A_va, S_ea, F_ea, S_wa, S_eb, F_eb, S_wb, S_ec, F_ec, S_wc, S_ed, F_ed, S_wd⟩ := hSt_
  show Go p e below _ (T.setTop (mkF m 174 #[vI q0, vI q1, vI q2, vI q3, vI q4, vR w1, vI c1, vI m1, vU, vI nn, vI p1, vR a1] []))
  refine Go.step (fun _ k => XS.aload X0.here hx rfl (hb hby at_174) rfl rfl k) ?_
  refine Go.step (fun _ k => XS.iconst X0.here hx rfl (hb hby at_176) k) ?_
  refine Go.step (fun _ k => XS.aload X0.here hx rfl (hb hby at_177) rfl rfl k) ?_
  refine Go.step (fun _ k => XS.iload X0.here hx rfl (hb hby at_179) rfl  k) ?_
  refine Go.step (fun _ k => XS.iload X0.here hx rfl (hb hby at_181) rfl  k) ?_
  show Go p e below _ (T.setTop (mkF m 183 #[vI q0, vI q1, vI q2, vI q3, vI q4, vR w1, vI c1, vI m1, vU, vI nn, vI p1, vR a1] [(.int p1), (.int m1), (.ref w1), (.int (0 : Int32)), (.ref a1)]))
  refine Go.step (fun _ k => XS.iload X0.here hx rfl (hb hby at_183) rfl  k) ?_
  show Go p e below _ (T.setTop (mkF m 185 #[vI q0, vI q1, vI q2, vI q3, vI q4, vR w1, vI c1, vI m1, vU, vI nn, vI p1, vR a1] [(.int c1), (.int p1), (.int m1), (.ref w1), (.int (0 : Int32)), (.ref a1)]))
  obtain ⟨v_249, T_249, L_249, X_249, hQ_249, st_249⟩ := goS X0 hx hZ (y := Y_8) hown (wd_27 hw) (wd_28 hw) (wd_24 hw) (wd_29 hw) (by decide) (backOf (W := 0) (rm_put l Z a0 hw zc vfm va kv ea eb ec ed wa wb wc wd (a1) (k1) (z1) (vs) ((0 : Int32)) (w1) (ws) (m1) (p1) (c1) h0 n0 (Nat.le_trans Z0 KP0.1) A_a1 g_a1 (S_w1.mono (Nat.le_trans hnb (Nat.le_of_lt A_a1.lt))) hz hvl hlv (by decide) (fun q => hok _ (by decide) q) l_c1 hSt hO) hZ (wd_29 hw) (wd_24 hw) (by decide) (by decide)) e0 (g := (mkF m 185 #[vI q0, vI q1, vI q2, vI q3, vI q4, vR w1, vI c1, vI m1, vU, vI nn, vI p1, vR a1] [(.int c1), (.int p1), (.int m1), (.ref w1), (.int (0 : Int32)), (.ref a1)])) rfl (by rw [hml]; rfl) (argsL := [(.ref a1), (.int (0 : Int32)), (.ref w1), (.int m1), (.int p1), (.int c1)]) (rest := []) rfl (lenOf pd_8 rfl) rfl (by show 2 * 0 + _ ≤ _; exact Nat.le_of_eq rfl) (hb hby at_185) (by (try dsimp only); omega) (by (try dsimp only); omega)
  obtain ⟨vs2_249, rfl, Nq_249, K_249, u0_249, u1_249⟩ := hQ_249
  have N_249 := Fr.app N0 Nq_249
  have le_249 : h0.size ≤ T_249.heap.size := K_249.1
  have KP_249 := KP0.trans K_249 (allS (Or.inl (List.mem_of_getElem? (i := 0) rfl)) all0)
  have O_249 := hO.keep K_249 (allS g_a1 all0)
  have hv2_249 := u1_249
  refine Go.step st_249 ?_
  show Go p e below _ (T_249.setTop (mkF m 188 #[vI q0, vI q1, vI q2, vI q3, vI q4, vR w1, vI c1, vI m1, vU, vI nn, vI p1, vR a1] []))
  have hL_249 : vs2_249.length = vs.length := hv2_249.1
  show Go p e below _ (T_249.setTop (mkF m 188 #[vI q0, vI q1, vI q2, vI q3, vI q4, vR w1, vI c1, vI m1, vU, vI nn, vI p1, vR a1] []))
  refine Go.step (fun _ k => XS.aload X_249.here hx rfl (hb hby at_188) rfl rfl k) ?_
  refine Go.step (fun _ k => XS.iconst X_249.here hx rfl (hb hby at_190) k) ?_
  refine Go.step (fun _ k => XS.aload X_249.here hx rfl (hb hby at_191) rfl rfl k) ?_
  refine Go.step (fun _ k => XS.iload X_249.here hx rfl (hb hby at_193) rfl  k) ?_
  refine Go.step (fun _ k => XS.iload X_249.here hx rfl (hb hby at_195) rfl  k) ?_
  show Go p e below _ (T_249.setTop (mkF m 197 #[vI q0, vI q1, vI q2, vI q3, vI q4, vR w1, vI c1, vI m1, vU, vI nn, vI p1, vR a1] [(.int p1), (.int m1), (.ref w1), (.int (1 : Int32)), (.ref a1)]))
  refine Go.step (fun _ k => XS.iload X_249.here hx rfl (hb hby at_197) rfl  k) ?_
  show Go p e below _ (T_249.setTop (mkF m 199 #[vI q0, vI q1, vI q2, vI q3, vI q4, vR w1, vI c1, vI m1, vU, vI nn, vI p1, vR a1] [(.int c1), (.int p1), (.int m1), (.ref w1), (.int (1 : Int32)), (.ref a1)]))
  have f250 : Str Z nb T_249.heap w1 ws := (S_w1.keep K_249 (allS hnb all0))
  obtain ⟨v_251, T_251, L_251, X_251, hQ_251, st_251⟩ := goS X_249 hx hZ (y := Y_8) hown (wd_27 hw) (wd_28 hw) (wd_24 hw) (wd_29 hw) (by decide) (backOf (W := 0) (rm_put l Z a0 hw zc vfm va kv ea eb ec ed wa wb wc wd (a1) (k1) (z1) (vs2_249) ((1 : Int32)) (w1) (ws) (m1) (p1) (c1) T_249.heap n0 (Nat.le_trans Z0 KP_249.1) u0_249 g_a1 (f250.mono (Nat.le_trans hnb (Nat.le_of_lt u0_249.lt))) (by rw [hL_249]; exact hz) (by rw [hL_249]; exact hvl) hv2_249.2 (by decide) (fun q => hok _ (by decide) q) l_c1 hSt O_249) hZ (wd_29 hw) (wd_24 hw) (by decide) (by decide)) rfl (g := (mkF m 199 #[vI q0, vI q1, vI q2, vI q3, vI q4, vR w1, vI c1, vI m1, vU, vI nn, vI p1, vR a1] [(.int c1), (.int p1), (.int m1), (.ref w1), (.int (1 : Int32)), (.ref a1)])) rfl (by rw [hml]; rfl) (argsL := [(.ref a1), (.int (1 : Int32)), (.ref w1), (.int m1), (.int p1), (.int c1)]) (rest := []) rfl (lenOf pd_8 rfl) rfl (by show 2 * 0 + _ ≤ _; exact Nat.le_of_eq rfl) (hb hby at_199) (by (try dsimp only); omega) (by (try dsimp only); omega)
  obtain ⟨vs2_251, rfl, Nq_251, K_251, u0_251, u1_251⟩ := hQ_251
  have N_251 := Fr.app N_249 Nq_251
  have le_251 : T_249.heap.size ≤ T_251.heap.size := K_251.1
  have KP_251 := KP_249.trans K_251 (allS (Or.inl (List.mem_of_getElem? (i := 0) rfl)) all0)
  have O_251 := O_249.keep K_251 (allS g_a1 all0)
  have hv2_251 := u1_251
  refine Go.step st_251 ?_
  show Go p e below _ (T_251.setTop (mkF m 202 #[vI q0, vI q1, vI q2, vI q3, vI q4, vR w1, vI c1, vI m1, vU, vI nn, vI p1, vR a1] []))
  have hL_251 : vs2_251.length = vs.length := hv2_251.1.trans hL_249
  show Go p e below _ (T_251.setTop (mkF m 202 #[vI q0, vI q1, vI q2, vI q3, vI q4, vR w1, vI c1, vI m1, vU, vI nn, vI p1, vR a1] []))
  refine Go.step (fun _ k => XS.aload X_251.here hx rfl (hb hby at_202) rfl rfl k) ?_
  refine Go.step (fun _ k => XS.iconst X_251.here hx rfl (hb hby at_204) k) ?_
  refine Go.step (fun _ k => XS.aload X_251.here hx rfl (hb hby at_205) rfl rfl k) ?_
  refine Go.step (fun _ k => XS.iload X_251.here hx rfl (hb hby at_207) rfl  k) ?_
  refine Go.step (fun _ k => XS.iload X_251.here hx rfl (hb hby at_209) rfl  k) ?_
  show Go p e below _ (T_251.setTop (mkF m 211 #[vI q0, vI q1, vI q2, vI q3, vI q4, vR w1, vI c1, vI m1, vU, vI nn, vI p1, vR a1] [(.int p1), (.int m1), (.ref w1), (.int (2 : Int32)), (.ref a1)]))
  refine Go.step (fun _ k => XS.iload X_251.here hx rfl (hb hby at_211) rfl  k) ?_
  show Go p e below _ (T_251.setTop (mkF m 213 #[vI q0, vI q1, vI q2, vI q3, vI q4, vR w1, vI c1, vI m1, vU, vI nn, vI p1, vR a1] [(.int c1), (.int p1), (.int m1), (.ref w1), (.int (2 : Int32)), (.ref a1)]))
  have f252 : Str Z nb T_251.heap w1 ws := (f250.keep K_251 (allS hnb all0))
  obtain ⟨v_253, T_253, L_253, X_253, hQ_253, st_253⟩ := goS X_251 hx hZ (y := Y_8) hown (wd_27 hw) (wd_28 hw) (wd_24 hw) (wd_29 hw) (by decide) (backOf (W := 0) (rm_put l Z a0 hw zc vfm va kv ea eb ec ed wa wb wc wd (a1) (k1) (z1) (vs2_251) ((2 : Int32)) (w1) (ws) (m1) (p1) (c1) T_251.heap n0 (Nat.le_trans Z0 KP_251.1) u0_251 g_a1 (f252.mono (Nat.le_trans hnb (Nat.le_of_lt u0_251.lt))) (by rw [hL_251]; exact hz) (by rw [hL_251]; exact hvl) hv2_251.2 (by decide) (fun q => hok _ (by decide) q) l_c1 hSt O_251) hZ (wd_29 hw) (wd_24 hw) (by decide) (by decide)) rfl (g := (mkF m 213 #[vI q0, vI q1, vI q2, vI q3, vI q4, vR w1, vI c1, vI m1, vU, vI nn, vI p1, vR a1] [(.int c1), (.int p1), (.int m1), (.ref w1), (.int (2 : Int32)), (.ref a1)])) rfl (by rw [hml]; rfl) (argsL := [(.ref a1), (.int (2 : Int32)), (.ref w1), (.int m1), (.int p1), (.int c1)]) (rest := []) rfl (lenOf pd_8 rfl) rfl (by show 2 * 0 + _ ≤ _; exact Nat.le_of_eq rfl) (hb hby at_213) (by (try dsimp only); omega) (by (try dsimp only); omega)
  obtain ⟨vs2_253, rfl, Nq_253, K_253, u0_253, u1_253⟩ := hQ_253
  have N_253 := Fr.app N_251 Nq_253
  have le_253 : T_251.heap.size ≤ T_253.heap.size := K_253.1
  have KP_253 := KP_251.trans K_253 (allS (Or.inl (List.mem_of_getElem? (i := 0) rfl)) all0)
  have O_253 := O_251.keep K_253 (allS g_a1 all0)
  have hv2_253 := u1_253
  refine Go.step st_253 ?_
  show Go p e below _ (T_253.setTop (mkF m 216 #[vI q0, vI q1, vI q2, vI q3, vI q4, vR w1, vI c1, vI m1, vU, vI nn, vI p1, vR a1] []))
  have hL_253 : vs2_253.length = vs.length := hv2_253.1.trans hL_251
  show Go p e below _ (T_253.setTop (mkF m 216 #[vI q0, vI q1, vI q2, vI q3, vI q4, vR w1, vI c1, vI m1, vU, vI nn, vI p1, vR a1] []))
  refine Go.step (fun _ k => XS.aload X_253.here hx rfl (hb hby at_216) rfl rfl k) ?_
  refine Go.step (fun _ k => XS.iconst X_253.here hx rfl (hb hby at_218) k) ?_
  refine Go.step (fun _ k => XS.aload X_253.here hx rfl (hb hby at_219) rfl rfl k) ?_
  refine Go.step (fun _ k => XS.iload X_253.here hx rfl (hb hby at_221) rfl  k) ?_
  refine Go.step (fun _ k => XS.iload X_253.here hx rfl (hb hby at_223) rfl  k) ?_
  show Go p e below _ (T_253.setTop (mkF m 225 #[vI q0, vI q1, vI q2, vI q3, vI q4, vR w1, vI c1, vI m1, vU, vI nn, vI p1, vR a1] [(.int p1), (.int m1), (.ref w1), (.int (3 : Int32)), (.ref a1)]))
  refine Go.step (fun _ k => XS.iload X_253.here hx rfl (hb hby at_225) rfl  k) ?_
  show Go p e below _ (T_253.setTop (mkF m 227 #[vI q0, vI q1, vI q2, vI q3, vI q4, vR w1, vI c1, vI m1, vU, vI nn, vI p1, vR a1] [(.int c1), (.int p1), (.int m1), (.ref w1), (.int (3 : Int32)), (.ref a1)]))
  have f254 : Str Z nb T_253.heap w1 ws := (f252.keep K_253 (allS hnb all0))
  obtain ⟨v_255, T_255, L_255, X_255, hQ_255, st_255⟩ := goS X_253 hx hZ (y := Y_8) hown (wd_27 hw) (wd_28 hw) (wd_24 hw) (wd_29 hw) (by decide) (backOf (W := 0) (rm_put l Z a0 hw zc vfm va kv ea eb ec ed wa wb wc wd (a1) (k1) (z1) (vs2_253) ((3 : Int32)) (w1) (ws) (m1) (p1) (c1) T_253.heap n0 (Nat.le_trans Z0 KP_253.1) u0_253 g_a1 (f254.mono (Nat.le_trans hnb (Nat.le_of_lt u0_253.lt))) (by rw [hL_253]; exact hz) (by rw [hL_253]; exact hvl) hv2_253.2 (by decide) (fun q => hok _ (by decide) q) l_c1 hSt O_253) hZ (wd_29 hw) (wd_24 hw) (by decide) (by decide)) rfl (g := (mkF m 227 #[vI q0, vI q1, vI q2, vI q3, vI q4, vR w1, vI c1, vI m1, vU, vI nn, vI p1, vR a1] [(.int c1), (.int p1), (.int m1), (.ref w1), (.int (3 : Int32)), (.ref a1)])) rfl (by rw [hml]; rfl) (argsL := [(.ref a1), (.int (3 : Int32)), (.ref w1), (.int m1), (.int p1), (.int c1)]) (rest := []) rfl (lenOf pd_8 rfl) rfl (by show 2 * 0 + _ ≤ _; exact Nat.le_of_eq rfl) (hb hby at_227) (by (try dsimp only); omega) (by (try dsimp only); omega)
  obtain ⟨vs2_255, rfl, Nq_255, K_255, u0_255, u1_255⟩ := hQ_255
  have N_255 := Fr.app N_253 Nq_255
  have le_255 : T_253.heap.size ≤ T_255.heap.size := K_255.1
  have KP_255 := KP_253.trans K_255 (allS (Or.inl (List.mem_of_getElem? (i := 0) rfl)) all0)
  have O_255 := O_253.keep K_255 (allS g_a1 all0)
  have hv2_255 := u1_255
  refine Go.step st_255 ?_
  show Go p e below _ (T_255.setTop (mkF m 230 #[vI q0, vI q1, vI q2, vI q3, vI q4, vR w1, vI c1, vI m1, vU, vI nn, vI p1, vR a1] []))
  have hL_255 : vs2_255.length = vs.length := hv2_255.1.trans hL_253
  show Go p e below _ (T_255.setTop (mkF m 230 #[vI q0, vI q1, vI q2, vI q3, vI q4, vR w1, vI c1, vI m1, vU, vI nn, vI p1, vR a1] []))
  refine Go.step (fun _ k => XS.aload X_255.here hx rfl (hb hby at_230) rfl rfl k) ?_
  refine Go.step (fun _ k => XS.iconst X_255.here hx rfl (hb hby at_232) k) ?_
  refine Go.step (fun _ k => XS.aload X_255.here hx rfl (hb hby at_233) rfl rfl k) ?_
  refine Go.step (fun _ k => XS.iload X_255.here hx rfl (hb hby at_235) rfl  k) ?_
  refine Go.step (fun _ k => XS.iload X_255.here hx rfl (hb hby at_237) rfl  k) ?_
  show Go p e below _ (T_255.setTop (mkF m 239 #[vI q0, vI q1, vI q2, vI q3, vI q4, vR w1, vI c1, vI m1, vU, vI nn, vI p1, vR a1] [(.int p1), (.int m1), (.ref w1), (.int (4 : Int32)), (.ref a1)]))
  refine Go.step (fun _ k => XS.iload X_255.here hx rfl (hb hby at_239) rfl  k) ?_
  show Go p e below _ (T_255.setTop (mkF m 241 #[vI q0, vI q1, vI q2, vI q3, vI q4, vR w1, vI c1, vI m1, vU, vI nn, vI p1, vR a1] [(.int c1), (.int p1), (.int m1), (.ref w1), (.int (4 : Int32)), (.ref a1)]))
  have f256 : Str Z nb T_255.heap w1 ws := (f254.keep K_255 (allS hnb all0))
  obtain ⟨v_257, T_257, L_257, X_257, hQ_257, st_257⟩ := goS X_255 hx hZ (y := Y_8) hown (wd_27 hw) (wd_28 hw) (wd_24 hw) (wd_29 hw) (by decide) (backOf (W := 0) (rm_put l Z a0 hw zc vfm va kv ea eb ec ed wa wb wc wd (a1) (k1) (z1) (vs2_255) ((4 : Int32)) (w1) (ws) (m1) (p1) (c1) T_255.heap n0 (Nat.le_trans Z0 KP_255.1) u0_255 g_a1 (f256.mono (Nat.le_trans hnb (Nat.le_of_lt u0_255.lt))) (by rw [hL_255]; exact hz) (by rw [hL_255]; exact hvl) hv2_255.2 (by decide) (fun q => hok _ (by decide) q) l_c1 hSt O_255) hZ (wd_29 hw) (wd_24 hw) (by decide) (by decide)) rfl (g := (mkF m 241 #[vI q0, vI q1, vI q2, vI q3, vI q4, vR w1, vI c1, vI m1, vU, vI nn, vI p1, vR a1] [(.int c1), (.int p1), (.int m1), (.ref w1), (.int (4 : Int32)), (.ref a1)])) rfl (by rw [hml]; rfl) (argsL := [(.ref a1), (.int (4 : Int32)), (.ref w1), (.int m1), (.int p1), (.int c1)]) (rest := []) rfl (lenOf pd_8 rfl) rfl (by show 2 * 0 + _ ≤ _; exact Nat.le_of_eq rfl) (hb hby at_241) (by (try dsimp only); omega) (by (try dsimp only); omega)
  obtain ⟨vs2_257, rfl, Nq_257, K_257, u0_257, u1_257⟩ := hQ_257
  have N_257 := Fr.app N_255 Nq_257
  have le_257 : T_255.heap.size ≤ T_257.heap.size := K_257.1
  have KP_257 := KP_255.trans K_257 (allS (Or.inl (List.mem_of_getElem? (i := 0) rfl)) all0)
  have O_257 := O_255.keep K_257 (allS g_a1 all0)
  have hv2_257 := u1_257
  refine Go.step st_257 ?_
  show Go p e below _ (T_257.setTop (mkF m 244 #[vI q0, vI q1, vI q2, vI q3, vI q4, vR w1, vI c1, vI m1, vU, vI nn, vI p1, vR a1] []))
  have hL_257 : vs2_257.length = vs.length := hv2_257.1.trans hL_255
  show Go p e below _ (T_257.setTop (mkF m 244 #[vI q0, vI q1, vI q2, vI q3, vI q4, vR w1, vI c1, vI m1, vU, vI nn, vI p1, vR a1] []))
  refine Go.step (fun _ k => XS.aload X_257.here hx rfl (hb hby at_244) rfl rfl k) ?_
  refine Go.step (fun _ k => XS.iconst X_257.here hx rfl (hb hby at_246) k) ?_
  refine Go.step (fun _ k => XS.aload X_257.here hx rfl (hb hby at_247) rfl rfl k) ?_
  refine Go.step (fun _ k => XS.iload X_257.here hx rfl (hb hby at_249) rfl  k) ?_
  refine Go.step (fun _ k => XS.iload X_257.here hx rfl (hb hby at_251) rfl  k) ?_
  show Go p e below _ (T_257.setTop (mkF m 253 #[vI q0, vI q1, vI q2, vI q3, vI q4, vR w1, vI c1, vI m1, vU, vI nn, vI p1, vR a1] [(.int p1), (.int m1), (.ref w1), (.int (5 : Int32)), (.ref a1)]))
  refine Go.step (fun _ k => XS.iload X_257.here hx rfl (hb hby at_253) rfl  k) ?_
  show Go p e below _ (T_257.setTop (mkF m 255 #[vI q0, vI q1, vI q2, vI q3, vI q4, vR w1, vI c1, vI m1, vU, vI nn, vI p1, vR a1] [(.int c1), (.int p1), (.int m1), (.ref w1), (.int (5 : Int32)), (.ref a1)]))
  have f258 : Str Z nb T_257.heap w1 ws := (f256.keep K_257 (allS hnb all0))
  obtain ⟨v_259, T_259, L_259, X_259, hQ_259, st_259⟩ := goS X_257 hx hZ (y := Y_8) hown (wd_27 hw) (wd_28 hw) (wd_24 hw) (wd_29 hw) (by decide) (backOf (W := 0) (rm_put l Z a0 hw zc vfm va kv ea eb ec ed wa wb wc wd (a1) (k1) (z1) (vs2_257) ((5 : Int32)) (w1) (ws) (m1) (p1) (c1) T_257.heap n0 (Nat.le_trans Z0 KP_257.1) u0_257 g_a1 (f258.mono (Nat.le_trans hnb (Nat.le_of_lt u0_257.lt))) (by rw [hL_257]; exact hz) (by rw [hL_257]; exact hvl) hv2_257.2 (by decide) (fun q => hok _ (by decide) q) l_c1 hSt O_257) hZ (wd_29 hw) (wd_24 hw) (by decide) (by decide)) rfl (g := (mkF m 255 #[vI q0, vI q1, vI q2, vI q3, vI q4, vR w1, vI c1, vI m1, vU, vI nn, vI p1, vR a1] [(.int c1), (.int p1), (.int m1), (.ref w1), (.int (5 : Int32)), (.ref a1)])) rfl (by rw [hml]; rfl) (argsL := [(.ref a1), (.int (5 : Int32)), (.ref w1), (.int m1), (.int p1), (.int c1)]) (rest := []) rfl (lenOf pd_8 rfl) rfl (by show 2 * 0 + _ ≤ _; exact Nat.le_of_eq rfl) (hb hby at_255) (by (try dsimp only); omega) (by (try dsimp only); omega)
  obtain ⟨vs2_259, rfl, Nq_259, K_259, u0_259, u1_259⟩ := hQ_259
  have N_259 := Fr.app N_257 Nq_259
  have le_259 : T_257.heap.size ≤ T_259.heap.size := K_259.1
  have KP_259 := KP_257.trans K_259 (allS (Or.inl (List.mem_of_getElem? (i := 0) rfl)) all0)
  have O_259 := O_257.keep K_259 (allS g_a1 all0)
  have hv2_259 := u1_259
  refine Go.step st_259 ?_
  show Go p e below _ (T_259.setTop (mkF m 258 #[vI q0, vI q1, vI q2, vI q3, vI q4, vR w1, vI c1, vI m1, vU, vI nn, vI p1, vR a1] []))
  have hL_259 : vs2_259.length = vs.length := hv2_259.1.trans hL_257
  show Go p e below _ (T_259.setTop (mkF m 258 #[vI q0, vI q1, vI q2, vI q3, vI q4, vR w1, vI c1, vI m1, vU, vI nn, vI p1, vR a1] []))
  refine Go.step (fun _ k => XS.aload X_259.here hx rfl (hb hby at_258) rfl rfl k) ?_
  refine Go.step (fun _ k => XS.bipush X_259.here hx rfl (hb hby at_260) k) ?_
  refine Go.step (fun _ k => XS.aload X_259.here hx rfl (hb hby at_262) rfl rfl k) ?_
  refine Go.step (fun _ k => XS.iload X_259.here hx rfl (hb hby at_264) rfl  k) ?_
  refine Go.step (fun _ k => XS.iload X_259.here hx rfl (hb hby at_266) rfl  k) ?_
  show Go p e below _ (T_259.setTop (mkF m 268 #[vI q0, vI q1, vI q2, vI q3, vI q4, vR w1, vI c1, vI m1, vU, vI nn, vI p1, vR a1] [(.int p1), (.int m1), (.ref w1), (.int (6 : Int32)), (.ref a1)]))
  refine Go.step (fun _ k => XS.iload X_259.here hx rfl (hb hby at_268) rfl  k) ?_
  show Go p e below _ (T_259.setTop (mkF m 270 #[vI q0, vI q1, vI q2, vI q3, vI q4, vR w1, vI c1, vI m1, vU, vI nn, vI p1, vR a1] [(.int c1), (.int p1), (.int m1), (.ref w1), (.int (6 : Int32)), (.ref a1)]))
  have f260 : Str Z nb T_259.heap w1 ws := (f258.keep K_259 (allS hnb all0))
  obtain ⟨v_261, T_261, L_261, X_261, hQ_261, st_261⟩ := goS X_259 hx hZ (y := Y_8) hown (wd_27 hw) (wd_28 hw) (wd_24 hw) (wd_29 hw) (by decide) (backOf (W := 0) (rm_put l Z a0 hw zc vfm va kv ea eb ec ed wa wb wc wd (a1) (k1) (z1) (vs2_259) ((6 : Int32)) (w1) (ws) (m1) (p1) (c1) T_259.heap n0 (Nat.le_trans Z0 KP_259.1) u0_259 g_a1 (f260.mono (Nat.le_trans hnb (Nat.le_of_lt u0_259.lt))) (by rw [hL_259]; exact hz) (by rw [hL_259]; exact hvl) hv2_259.2 (by decide) (fun q => hok _ (by decide) q) l_c1 hSt O_259) hZ (wd_29 hw) (wd_24 hw) (by decide) (by decide)) rfl (g := (mkF m 270 #[vI q0, vI q1, vI q2, vI q3, vI q4, vR w1, vI c1, vI m1, vU, vI nn, vI p1, vR a1] [(.int c1), (.int p1), (.int m1), (.ref w1), (.int (6 : Int32)), (.ref a1)])) rfl (by rw [hml]; rfl) (argsL := [(.ref a1), (.int (6 : Int32)), (.ref w1), (.int m1), (.int p1), (.int c1)]) (rest := []) rfl (lenOf pd_8 rfl) rfl (by show 2 * 0 + _ ≤ _; exact Nat.le_of_eq rfl) (hb hby at_270) (by (try dsimp only); omega) (by (try dsimp only); omega)
  obtain ⟨vs2_261, rfl, Nq_261, K_261, u0_261, u1_261⟩ := hQ_261
  have N_261 := Fr.app N_259 Nq_261
  have le_261 : T_259.heap.size ≤ T_261.heap.size := K_261.1
  have KP_261 := KP_259.trans K_261 (allS (Or.inl (List.mem_of_getElem? (i := 0) rfl)) all0)
  have O_261 := O_259.keep K_261 (allS g_a1 all0)
  have hv2_261 := u1_261
  refine Go.step st_261 ?_
  show Go p e below _ (T_261.setTop (mkF m 273 #[vI q0, vI q1, vI q2, vI q3, vI q4, vR w1, vI c1, vI m1, vU, vI nn, vI p1, vR a1] []))
  have hL_261 : vs2_261.length = vs.length := hv2_261.1.trans hL_259
  show Go p e below _ (T_261.setTop (mkF m 273 #[vI q0, vI q1, vI q2, vI q3, vI q4, vR w1, vI c1, vI m1, vU, vI nn, vI p1, vR a1] []))
  refine Go.step (fun _ k => XS.aload X_261.here hx rfl (hb hby at_273) rfl rfl k) ?_
  refine Go.step (fun _ k => XS.bipush X_261.here hx rfl (hb hby at_275) k) ?_
  refine Go.step (fun _ k => XS.aload X_261.here hx rfl (hb hby at_277) rfl rfl k) ?_
  refine Go.step (fun _ k => XS.iload X_261.here hx rfl (hb hby at_279) rfl  k) ?_
  refine Go.step (fun _ k => XS.iload X_261.here hx rfl (hb hby at_281) rfl  k) ?_
  show Go p e below _ (T_261.setTop (mkF m 283 #[vI q0, vI q1, vI q2, vI q3, vI q4, vR w1, vI c1, vI m1, vU, vI nn, vI p1, vR a1] [(.int p1), (.int m1), (.ref w1), (.int (7 : Int32)), (.ref a1)]))
  refine Go.step (fun _ k => XS.iload X_261.here hx rfl (hb hby at_283) rfl  k) ?_
  show Go p e below _ (T_261.setTop (mkF m 285 #[vI q0, vI q1, vI q2, vI q3, vI q4, vR w1, vI c1, vI m1, vU, vI nn, vI p1, vR a1] [(.int c1), (.int p1), (.int m1), (.ref w1), (.int (7 : Int32)), (.ref a1)]))
  have f262 : Str Z nb T_261.heap w1 ws := (f260.keep K_261 (allS hnb all0))
  obtain ⟨v_263, T_263, L_263, X_263, hQ_263, st_263⟩ := goS X_261 hx hZ (y := Y_8) hown (wd_27 hw) (wd_28 hw) (wd_24 hw) (wd_29 hw) (by decide) (backOf (W := 0) (rm_put l Z a0 hw zc vfm va kv ea eb ec ed wa wb wc wd (a1) (k1) (z1) (vs2_261) ((7 : Int32)) (w1) (ws) (m1) (p1) (c1) T_261.heap n0 (Nat.le_trans Z0 KP_261.1) u0_261 g_a1 (f262.mono (Nat.le_trans hnb (Nat.le_of_lt u0_261.lt))) (by rw [hL_261]; exact hz) (by rw [hL_261]; exact hvl) hv2_261.2 (by decide) (fun q => hok _ (by decide) q) l_c1 hSt O_261) hZ (wd_29 hw) (wd_24 hw) (by decide) (by decide)) rfl (g := (mkF m 285 #[vI q0, vI q1, vI q2, vI q3, vI q4, vR w1, vI c1, vI m1, vU, vI nn, vI p1, vR a1] [(.int c1), (.int p1), (.int m1), (.ref w1), (.int (7 : Int32)), (.ref a1)])) rfl (by rw [hml]; rfl) (argsL := [(.ref a1), (.int (7 : Int32)), (.ref w1), (.int m1), (.int p1), (.int c1)]) (rest := []) rfl (lenOf pd_8 rfl) rfl (by show 2 * 0 + _ ≤ _; exact Nat.le_of_eq rfl) (hb hby at_285) (by (try dsimp only); omega) (by (try dsimp only); omega)
  obtain ⟨vs2_263, rfl, Nq_263, K_263, u0_263, u1_263⟩ := hQ_263
  have N_263 := Fr.app N_261 Nq_263
  have le_263 : T_261.heap.size ≤ T_263.heap.size := K_263.1
  have KP_263 := KP_261.trans K_263 (allS (Or.inl (List.mem_of_getElem? (i := 0) rfl)) all0)
  have O_263 := O_261.keep K_263 (allS g_a1 all0)
  have hv2_263 := u1_263
  refine Go.step st_263 ?_
  show Go p e below _ (T_263.setTop (mkF m 288 #[vI q0, vI q1, vI q2, vI q3, vI q4, vR w1, vI c1, vI m1, vU, vI nn, vI p1, vR a1] []))
  have hL_263 : vs2_263.length = vs.length := hv2_263.1.trans hL_261
  show Go p e below _ (T_263.setTop (mkF m 288 #[vI q0, vI q1, vI q2, vI q3, vI q4, vR w1, vI c1, vI m1, vU, vI nn, vI p1, vR a1] []))
  refine Go.step (fun _ k => XS.aload X_263.here hx rfl (hb hby at_288) rfl rfl k) ?_
  refine Go.step (fun _ k => XS.bipush X_263.here hx rfl (hb hby at_290) k) ?_
  refine Go.step (fun _ k => XS.aload X_263.here hx rfl (hb hby at_292) rfl rfl k) ?_
  refine Go.step (fun _ k => XS.iload X_263.here hx rfl (hb hby at_294) rfl  k) ?_
  refine Go.step (fun _ k => XS.iload X_263.here hx rfl (hb hby at_296) rfl  k) ?_
  show Go p e below _ (T_263.setTop (mkF m 298 #[vI q0, vI q1, vI q2, vI q3, vI q4, vR w1, vI c1, vI m1, vU, vI nn, vI p1, vR a1] [(.int p1), (.int m1), (.ref w1), (.int (8 : Int32)), (.ref a1)]))
  refine Go.step (fun _ k => XS.iload X_263.here hx rfl (hb hby at_298) rfl  k) ?_
  show Go p e below _ (T_263.setTop (mkF m 300 #[vI q0, vI q1, vI q2, vI q3, vI q4, vR w1, vI c1, vI m1, vU, vI nn, vI p1, vR a1] [(.int c1), (.int p1), (.int m1), (.ref w1), (.int (8 : Int32)), (.ref a1)]))
  have f264 : Str Z nb T_263.heap w1 ws := (f262.keep K_263 (allS hnb all0))
  obtain ⟨v_265, T_265, L_265, X_265, hQ_265, st_265⟩ := goS X_263 hx hZ (y := Y_8) hown (wd_27 hw) (wd_28 hw) (wd_24 hw) (wd_29 hw) (by decide) (backOf (W := 0) (rm_put l Z a0 hw zc vfm va kv ea eb ec ed wa wb wc wd (a1) (k1) (z1) (vs2_263) ((8 : Int32)) (w1) (ws) (m1) (p1) (c1) T_263.heap n0 (Nat.le_trans Z0 KP_263.1) u0_263 g_a1 (f264.mono (Nat.le_trans hnb (Nat.le_of_lt u0_263.lt))) (by rw [hL_263]; exact hz) (by rw [hL_263]; exact hvl) hv2_263.2 (by decide) (fun q => hok _ (by decide) q) l_c1 hSt O_263) hZ (wd_29 hw) (wd_24 hw) (by decide) (by decide)) rfl (g := (mkF m 300 #[vI q0, vI q1, vI q2, vI q3, vI q4, vR w1, vI c1, vI m1, vU, vI nn, vI p1, vR a1] [(.int c1), (.int p1), (.int m1), (.ref w1), (.int (8 : Int32)), (.ref a1)])) rfl (by rw [hml]; rfl) (argsL := [(.ref a1), (.int (8 : Int32)), (.ref w1), (.int m1), (.int p1), (.int c1)]) (rest := []) rfl (lenOf pd_8 rfl) rfl (by show 2 * 0 + _ ≤ _; exact Nat.le_of_eq rfl) (hb hby at_300) (by (try dsimp only); omega) (by (try dsimp only); omega)
  obtain ⟨vs2_265, rfl, Nq_265, K_265, u0_265, u1_265⟩ := hQ_265
  have N_265 := Fr.app N_263 Nq_265
  have le_265 : T_263.heap.size ≤ T_265.heap.size := K_265.1
  have KP_265 := KP_263.trans K_265 (allS (Or.inl (List.mem_of_getElem? (i := 0) rfl)) all0)
  have O_265 := O_263.keep K_265 (allS g_a1 all0)
  have hv2_265 := u1_265
  refine Go.step st_265 ?_
  show Go p e below _ (T_265.setTop (mkF m 303 #[vI q0, vI q1, vI q2, vI q3, vI q4, vR w1, vI c1, vI m1, vU, vI nn, vI p1, vR a1] []))
  have hL_265 : vs2_265.length = vs.length := hv2_265.1.trans hL_263
  show Go p e below _ (T_265.setTop (mkF m 303 #[vI q0, vI q1, vI q2, vI q3, vI q4, vR w1, vI c1, vI m1, vU, vI nn, vI p1, vR a1] []))
  exact hgo _ _ (vs2_265) X_265 (by exact ⟨N_265, KP_265, u0_265, ⟨hL_265, hv2_265.2⟩⟩)
--@E
--@C tailS
set_option maxRecDepth 65536 in
set_option maxHeartbeats 40000000 in
theorem tg_tailS (l : Launch) (Z : State) (a0 : Array Value) (hw : ∀ d ∈ tables_1, d.before a0 Z = true) (zc : Int32) (vfm : Value) (va : Addr) (kv : ClassId) (ea : Addr) (eb : Addr) (ec : Addr) (ed : Addr) (wa : Addr) (wb : Addr) (wc : Addr) (wd : Addr) (s0 : Slot) (s1 : Slot) (s2 : Slot) (s3 : Slot) (s4 : Slot) (s5 : Slot) (s6 : Slot) (s7 : Slot) (s9 : Slot) (s10 : Slot) (s11 : Slot) (r1 : Addr) (cs : List Int32) (h0 : Heap) (n0 : Nat) (Z0 : n0 ≤ h0.size) (S_r1 : Str Z h0.size h0 r1 cs) (hSt : St Z zc vfm va kv ea eb ec ed wa wb wc wd) (hO : Old Z n0 h0)
    {p : Program} {e : Env} {s : State} {m : MethodId} {args : Array Value} {below : List Frame} {meth : Method} {c : Code} {T : State} {locs : List Loc} {cells slots : Nat} {vm0 : Vm} {k0 : Nat} {hb0 : Heap}
    (hx : p.tables.exec = Jvm.exec) (hby : c.code = code) (hml : c.maxLocals = maxLocals) (hret : meth.sig.returnType = some .boolean) (hlk : meth.locks = false) (hZ : Z.Warmed39 vm0) (hown : vm0.findClass "com/example/patient_ledger/patientledger/HoldStatusFromWireNamePinLaw" = some m.cls) (X0 : Stand p l e room_1 (s.setVm vm0) m args below meth c T locs cells slots) (e0 : T.heap = h0) (N0 : Fr n0 locs) (hS0 : s.Since vm0 k0) (hk0 : k0 ≤ h0.size) (CV0 : CHv Z EL vm0 h0) (CR0 : CHr Z EL s.vm hb0 vm0 h0) (hh0 : s.heap = hb0) (hc : cells + 9 ≤ room_1.cells) (hs : slots + 132 ≤ room_1.slots) :
    Go p e below (QW Z EL s room_1 (fun v _ L => v = some (.int (1 : Int32)) ∧ Fr n0 L)) (T.setTop (mkF m 314 #[s0, s1, s2, s3, s4, s5, s6, s7, .val (.ref r1), s9, s10, s11] [])) := by
  have hEL := hEL_ (a0 := a0) hw
  have hwS := hwS_ hw
  have KP0 := Keep.refl h0 []
  have hSt_ := hSt
  obtain ⟨S_cs, n_cs, S_fm, r_fm, S_va, E_va, A_va, S_ea, F_ea, S_wa, S_eb, F_eb, S_wb, S_ec, F_ec, S_wc, S_ed, F_ed, S_wd⟩ := hSt_
  show Go p e below _ (T.setTop (mkF m 314 #[s0, s1, s2, s3, s4, s5, s6, s7, vR r1, s9, s10, s11] []))
  refine Go.step (fun _ k => XS.aload X0.here hx rfl (hb hby at_314) rfl rfl k) ?_
  show Go p e below _ (T.setTop (mkF m 316 #[s0, s1, s2, s3, s4, s5, s6, s7, vR r1, s9, s10, s11] [(.ref r1)]))
  obtain ⟨v_266, T_266, L_266, X_266, hQ_266, st_266⟩ := goS X0 hx hZ (y := Y_9) hown (wd_76 hw) (wd_77 hw) (wd_78 hw) (wd_79 hw) (by decide) (backOf (W := 0) (rm_fw l Z a0 hw zc vfm va kv ea eb ec ed wa wb wc wd (r1) (cs) h0 n0 (Nat.le_trans Z0 KP0.1) S_r1 hSt hO) hZ (wd_79 hw) (wd_78 hw) (by decide) (by decide)) e0 (g := (mkF m 316 #[s0, s1, s2, s3, s4, s5, s6, s7, vR r1, s9, s10, s11] [(.ref r1)])) rfl (by rw [hml]; rfl) (argsL := [(.ref r1)]) (rest := []) rfl (lenOf pd_9 rfl) rfl (by show 2 * 0 + _ ≤ _; exact Nat.le_of_eq rfl) (hb hby at_316) (by (try dsimp only); omega) (by (try dsimp only); omega)
  obtain ⟨rfl, Nq_266, K_266⟩ := hQ_266
  have N_266 := Fr.app N0 Nq_266
  have C_266 := CHr.keep K_266 sf0 CV0
  have CR_266 := CHr.trans CR0 C_266
  have le_266 : h0.size ≤ T_266.heap.size := K_266.1
  have KP_266 := KP0.trans K_266 all0
  have O_266 := hO.keep K_266 all0
  refine Go.step st_266 ?_
  show Go p e below _ (T_266.setTop (mkF m 319 #[s0, s1, s2, s3, s4, s5, s6, s7, vR r1, s9, s10, s11] [(fwv ea eb ec ed cs)]))
  refine Go.step (fun _ k => XS.aload X_266.here hx rfl (hb hby at_319) rfl rfl k) ?_
  show Go p e below _ (T_266.setTop (mkF m 321 #[s0, s1, s2, s3, s4, s5, s6, s7, vR r1, s9, s10, s11] [(.ref r1), (fwv ea eb ec ed cs)]))
  have f267 : Str Z h0.size T_266.heap r1 cs := (S_r1.keep K_266 all0)
  obtain ⟨v_268, T_268, L_268, X_268, hQ_268, hS_268, hZ_268, hown_268, C_268, st_268⟩ := goSW X_266 hx hZ (y := Y_10) hown hS0 (Nat.le_trans hk0 le_266) (wd_110 hw) (wd_111 hw) (wd_24 hw) (wd_112 hw) (by decide) (backOfSH (W := 1) (rm_ex l Z a0 hw zc vfm va kv ea eb ec ed wa wb wc wd (r1) (cs) T_266.heap n0 (Nat.le_trans Z0 KP_266.1) (f267.mono le_266) hSt O_266) hZ (wd_112 hw) (wd_24 hw) (by decide) (by decide) hEL C_266.1) rfl (g := (mkF m 321 #[s0, s1, s2, s3, s4, s5, s6, s7, vR r1, s9, s10, s11] [(.ref r1), (fwv ea eb ec ed cs)])) rfl (by rw [hml]; rfl) (argsL := [(.ref r1)]) (rest := [(fwv ea eb ec ed cs)]) rfl (lenOf pd_9 rfl) rfl (by show 2 * 0 + (Value.category (fwv ea eb ec ed cs) + (0)) ≤ _; rw [own_cat (v := (fwv ea eb ec ed cs)) fwv_ref]; exact Nat.le_of_eq rfl) (hb hby at_321) (by (try dsimp only); omega) (by (try dsimp only); omega)
  obtain ⟨rfl, Nq_268, K_268⟩ := hQ_268
  have N_268 := Fr.app N_266 Nq_268
  have CR_268 := CHr.trans CR_266 C_268
  have le_268 : T_266.heap.size ≤ T_268.heap.size := K_268.1
  have KP_268 := KP_266.trans K_268 all0
  have O_268 := O_266.keep K_268 all0
  refine Go.step st_268 ?_
  show Go p e below _ (T_268.setTop (mkF m 324 #[s0, s1, s2, s3, s4, s5, s6, s7, vR r1, s9, s10, s11] [(fwv ea eb ec ed cs), (fwv ea eb ec ed cs)]))
  refine Go.step (fun _ k => Jvm.RoadKit.acmp (g := (mkF m 324 #[s0, s1, s2, s3, s4, s5, s6, s7, vR r1, s9, s10, s11] [(fwv ea eb ec ed cs), (fwv ea eb ec ed cs)])) X_268 hx rfl fwv_ref fwv_ref (pc0 := 324) (pc' := 327) (same := true) rfl (hb hby at_324) rfl (decide_eq_true rfl) (by decide) (by decide) k) ?_
  show Go p e below _ (T_268.setTop (mkF m 327 #[s0, s1, s2, s3, s4, s5, s6, s7, vR r1, s9, s10, s11] []))
  refine Go.step (fun _ k => XS.iconst X_268.here hx rfl (hb hby at_327) k) ?_
  show Go p e below _ (T_268.setTop (mkF m 328 #[s0, s1, s2, s3, s4, s5, s6, s7, vR r1, s9, s10, s11] [(.int (1 : Int32))]))
  refine Go.step (fun _ k => XS.goto X_268.here hx rfl (pc0 := 328) (pc' := 332) rfl (hb hby at_328) (by decide) (by decide) k) ?_
  show Go p e below _ (T_268.setTop (mkF m 332 #[s0, s1, s2, s3, s4, s5, s6, s7, vR r1, s9, s10, s11] [(.int (1 : Int32))]))
  exact Go.retVW X_268 rfl hS_268 (Nat.le_refl _) hZ_268 hEL hh0 CR_268 hx hlk hret rfl (Or.inl ⟨rfl, Or.inr (Or.inl rfl), _, rfl⟩) (hb hby at_332) (by (try dsimp only); omega) (by (try dsimp only); omega) (by exact ⟨rfl, N_268⟩)
--@E
--@C tailN
set_option maxRecDepth 65536 in
set_option maxHeartbeats 40000000 in
theorem tg_tailN (l : Launch) (Z : State) (a0 : Array Value) (hw : ∀ d ∈ tables_1, d.before a0 Z = true) (zc : Int32) (vfm : Value) (va : Addr) (kv : ClassId) (ea : Addr) (eb : Addr) (ec : Addr) (ed : Addr) (wa : Addr) (wb : Addr) (wc : Addr) (wd : Addr) (s0 : Slot) (s1 : Slot) (s2 : Slot) (s3 : Slot) (s4 : Slot) (s5 : Slot) (s6 : Slot) (s7 : Slot) (s9 : Slot) (s10 : Slot) (s11 : Slot) (h0 : Heap) (n0 : Nat) (Z0 : n0 ≤ h0.size) (hSt : St Z zc vfm va kv ea eb ec ed wa wb wc wd) (hO : Old Z n0 h0)
    {p : Program} {e : Env} {s : State} {m : MethodId} {args : Array Value} {below : List Frame} {meth : Method} {c : Code} {T : State} {locs : List Loc} {cells slots : Nat} {vm0 : Vm} {k0 : Nat} {hb0 : Heap}
    (hx : p.tables.exec = Jvm.exec) (hby : c.code = code) (hml : c.maxLocals = maxLocals) (hret : meth.sig.returnType = some .boolean) (hlk : meth.locks = false) (hZ : Z.Warmed39 vm0) (hown : vm0.findClass "com/example/patient_ledger/patientledger/HoldStatusFromWireNamePinLaw" = some m.cls) (X0 : Stand p l e room_1 (s.setVm vm0) m args below meth c T locs cells slots) (e0 : T.heap = h0) (N0 : Fr n0 locs) (hS0 : s.Since vm0 k0) (hk0 : k0 ≤ h0.size) (CV0 : CHv Z EL vm0 h0) (CR0 : CHr Z EL s.vm hb0 vm0 h0) (hh0 : s.heap = hb0) (hc : cells + 1 ≤ room_1.cells) (hs : slots + 4 ≤ room_1.slots) :
    Go p e below (QW Z EL s room_1 (fun v _ L => v = some (.int (1 : Int32)) ∧ Fr n0 L)) (T.setTop (mkF m 314 #[s0, s1, s2, s3, s4, s5, s6, s7, .val .null, s9, s10, s11] [])) := by
  have hEL := hEL_ (a0 := a0) hw
  have hwS := hwS_ hw
  have KP0 := Keep.refl h0 []
  have hSt_ := hSt
  obtain ⟨S_cs, n_cs, S_fm, r_fm, S_va, E_va, A_va, S_ea, F_ea, S_wa, S_eb, F_eb, S_wb, S_ec, F_ec, S_wc, S_ed, F_ed, S_wd⟩ := hSt_
  show Go p e below _ (T.setTop (mkF m 314 #[s0, s1, s2, s3, s4, s5, s6, s7, .val .null, s9, s10, s11] []))
  refine Go.step (fun _ k => XS.aload X0.here hx rfl (hb hby at_314) rfl rfl k) ?_
  show Go p e below _ (T.setTop (mkF m 316 #[s0, s1, s2, s3, s4, s5, s6, s7, .val .null, s9, s10, s11] [.null]))
  obtain ⟨v_269, T_269, L_269, X_269, hQ_269, st_269⟩ := goS X0 hx hZ (y := Y_9) hown (wd_76 hw) (wd_77 hw) (wd_78 hw) (wd_79 hw) (by decide) (backOf (W := 0) (rm_fwN l Z a0 hw zc vfm va kv ea eb ec ed wa wb wc wd h0 n0 (Nat.le_trans Z0 KP0.1) hSt hO) hZ (wd_79 hw) (wd_78 hw) (by decide) (by decide)) e0 (g := (mkF m 316 #[s0, s1, s2, s3, s4, s5, s6, s7, .val .null, s9, s10, s11] [.null])) rfl (by rw [hml]; rfl) (argsL := [.null]) (rest := []) rfl (lenOf pd_9 rfl) rfl (by show 2 * 0 + _ ≤ _; exact Nat.le_of_eq rfl) (hb hby at_316) (by (try dsimp only); omega) (by (try dsimp only); omega)
  obtain ⟨rfl, Nq_269, K_269⟩ := hQ_269
  have N_269 := Fr.app N0 Nq_269
  have C_269 := CHr.keep K_269 sf0 CV0
  have CR_269 := CHr.trans CR0 C_269
  have le_269 : h0.size ≤ T_269.heap.size := K_269.1
  have KP_269 := KP0.trans K_269 all0
  have O_269 := hO.keep K_269 all0
  refine Go.step st_269 ?_
  show Go p e below _ (T_269.setTop (mkF m 319 #[s0, s1, s2, s3, s4, s5, s6, s7, .val .null, s9, s10, s11] [.null]))
  refine Go.step (fun _ k => XS.aload X_269.here hx rfl (hb hby at_319) rfl rfl k) ?_
  show Go p e below _ (T_269.setTop (mkF m 321 #[s0, s1, s2, s3, s4, s5, s6, s7, .val .null, s9, s10, s11] [.null, .null]))
  obtain ⟨v_270, T_270, L_270, X_270, hQ_270, st_270⟩ := goS X_269 hx hZ (y := Y_10) hown (wd_110 hw) (wd_111 hw) (wd_24 hw) (wd_112 hw) (by decide) (backOf (W := 1) (rm_exN l Z a0 hw zc vfm va kv ea eb ec ed wa wb wc wd T_269.heap n0 (Nat.le_trans Z0 KP_269.1) hSt O_269) hZ (wd_112 hw) (wd_24 hw) (by decide) (by decide)) rfl (g := (mkF m 321 #[s0, s1, s2, s3, s4, s5, s6, s7, .val .null, s9, s10, s11] [.null, .null])) rfl (by rw [hml]; rfl) (argsL := [.null]) (rest := [.null]) rfl (lenOf pd_9 rfl) rfl (by show 2 * 0 + _ ≤ _; exact Nat.le_of_eq rfl) (hb hby at_321) (by (try dsimp only); omega) (by (try dsimp only); omega)
  obtain ⟨rfl, Nq_270, e_270⟩ := hQ_270
  have N_270 := Fr.app N_269 Nq_270
  refine Go.step st_270 ?_
  show Go p e below _ (T_270.setTop (mkF m 324 #[s0, s1, s2, s3, s4, s5, s6, s7, .val .null, s9, s10, s11] [.null, .null]))
  refine Go.step (fun _ k => Jvm.RoadKit.acmp (g := (mkF m 324 #[s0, s1, s2, s3, s4, s5, s6, s7, .val .null, s9, s10, s11] [.null, .null])) X_270 hx rfl rfl rfl (pc0 := 324) (pc' := 327) (same := true) rfl (hb hby at_324) rfl (decide_eq_true rfl) (by decide) (by decide) k) ?_
  show Go p e below _ (T_270.setTop (mkF m 327 #[s0, s1, s2, s3, s4, s5, s6, s7, .val .null, s9, s10, s11] []))
  refine Go.step (fun _ k => XS.iconst X_270.here hx rfl (hb hby at_327) k) ?_
  show Go p e below _ (T_270.setTop (mkF m 328 #[s0, s1, s2, s3, s4, s5, s6, s7, .val .null, s9, s10, s11] [(.int (1 : Int32))]))
  refine Go.step (fun _ k => XS.goto X_270.here hx rfl (pc0 := 328) (pc' := 332) rfl (hb hby at_328) (by decide) (by decide) k) ?_
  show Go p e below _ (T_270.setTop (mkF m 332 #[s0, s1, s2, s3, s4, s5, s6, s7, .val .null, s9, s10, s11] [(.int (1 : Int32))]))
  exact Go.retVW X_270 e_270 hS0 (Nat.le_trans hk0 le_269) hZ hEL hh0 CR_269 hx hlk hret rfl (Or.inl ⟨rfl, Or.inr (Or.inl rfl), _, rfl⟩) (hb hby at_332) (by (try dsimp only); omega) (by (try dsimp only); omega) (by exact ⟨rfl, N_270⟩)
--@E
--@C law
def Q_law (Z : State) (zc : Int32) (vfm : Value) (va : Addr) (kv : ClassId) (ea : Addr) (eb : Addr) (ec : Addr) (ed : Addr) (wa : Addr) (wb : Addr) (wc : Addr) (wd : Addr) (p0 : Int32) (p1 : Int32) (p2 : Int32) (p3 : Int32) (h0 : Heap) (n0 : Nat) (v : Option Value) (h : Heap) (L : List Loc) : Prop := v = some (.int (1 : Int32)) ∧ Fr n0 L
set_option maxRecDepth 65536 in
set_option maxHeartbeats 40000000 in
theorem rm_law (l : Launch) (Z : State) (a0 : Array Value) (hw : ∀ d ∈ tables_1, d.before a0 Z = true) (zc : Int32) (vfm : Value) (va : Addr) (kv : ClassId) (ea : Addr) (eb : Addr) (ec : Addr) (ed : Addr) (wa : Addr) (wb : Addr) (wc : Addr) (wd : Addr) (p0 : Int32) (p1 : Int32) (p2 : Int32) (p3 : Int32) (h0 : Heap) (n0 : Nat) (Z0 : n0 ≤ h0.size) (hSt : St Z zc vfm va kv ea eb ec ed wa wb wc wd) (hO : Old Z n0 h0) :
    CW l Z EL x (Jvm.Cond.code x code maxLocals ret :: tables_1) room_1 #[(.int p0), (.int p1), (.int p2), (.int p3)] h0 (Q_law Z zc vfm va kv ea eb ec ed wa wb wc wd p0 p1 p2 p3 h0 n0) := by
  refine CW.of (L0 := #[vI p0, vI p1, vI p2, vI p3, vU, vU, vU, vU, vU, vU, vU, vU]) (plainFor_of_name pn_2) (fun m => by first | (simp [entryFrame, mkF, argsToLocals, Value.category, maxLocals]; done) | rfl) ?_
  intro p e s m below meth c s₁ hx hby hml hret hlk hZ hown hnm X0 e0 hS0 hk0 CV0 hh0
  have hEL := hEL_ (a0 := a0) hw
  have hwS := hwS_ hw
  have N0 := Fr.nil n0
  have KP0 := Keep.refl h0 []
  have hSt_ := hSt
  obtain ⟨S_cs, n_cs, S_fm, r_fm, S_va, E_va, A_va, S_ea, F_ea, S_wa, S_eb, F_eb, S_wb, S_ec, F_ec, S_wc, S_ed, F_ed, S_wd⟩ := hSt_
  show Go p e below _ (s₁.setTop (mkF m 0 #[vI p0, vI p1, vI p2, vI p3, vU, vU, vU, vU, vU, vU, vU, vU] []))
  refine Go.step (fun _ k => XS.iloadN X0.here hx rfl (hb hby at_0) rfl  k) ?_
  refine Go.step (fun _ k => XS.iconst X0.here hx rfl (hb hby at_1) k) ?_
  show Go p e below _ (s₁.setTop (mkF m 2 #[vI p0, vI p1, vI p2, vI p3, vU, vU, vU, vU, vU, vU, vU, vU] [(.int (3 : Int32)), (.int p0)]))
  refine Go.step (fun _ k => XS.iand X0.here hx rfl (hb hby at_2) rfl k) ?_
  show Go p e below _ (s₁.setTop (mkF m 3 #[vI p0, vI p1, vI p2, vI p3, vU, vU, vU, vU, vU, vU, vU, vU] [(.int (p0 &&& (3 : Int32)))]))
  refine Go.step (fun _ k => XS.istore X0.here hx rfl (hb hby at_3) rfl (l' := #[vI p0, vI p1, vI p2, vI p3, vI (p0 &&& (3 : Int32)), vU, vU, vU, vU, vU, vU, vU]) rfl k) ?_
  show Go p e below _ (s₁.setTop (mkF m 5 #[vI p0, vI p1, vI p2, vI p3, vI (p0 &&& (3 : Int32)), vU, vU, vU, vU, vU, vU, vU] []))
  obtain ⟨kk, h_kk⟩ : ∃ z, z = (p0 &&& (3 : Int32)) := ⟨_, rfl⟩
  rw [← h_kk]
  show Go p e below _ (s₁.setTop (mkF m 5 #[vI p0, vI p1, vI p2, vI p3, vI kk, vU, vU, vU, vU, vU, vU, vU] []))
  have h_k4 : kk = 0 ∨ kk = 1 ∨ kk = 2 ∨ kk = 3 := by rw [h_kk]; exact range4 _
  clear h_kk
  show Go p e below _ (s₁.setTop (mkF m 5 #[vI p0, vI p1, vI p2, vI p3, vI kk, vU, vU, vU, vU, vU, vU, vU] []))
  rcases h_k4 with rfl | rfl | rfl | rfl
  · skip
    show Go p e below _ (s₁.setTop (mkF m 5 #[vI p0, vI p1, vI p2, vI p3, vI 0, vU, vU, vU, vU, vU, vU, vU] []))
    refine Go.step (fun _ k => XS.iload X0.here hx rfl (hb hby at_5) rfl  k) ?_
    show Go p e below _ (s₁.setTop (mkF m 7 #[vI p0, vI p1, vI p2, vI p3, vI 0, vU, vU, vU, vU, vU, vU, vU] [(.int (0 : Int32))]))
    refine Go.step (fun _ k => XS.ifNo X0.here hx rfl (hb hby at_7) rfl ((if0 _ _).trans (teq ((by decide) : (0 : Int32) = (0 : Int32))).2) k) ?_
    show Go p e below _ (s₁.setTop (mkF m 10 #[vI p0, vI p1, vI p2, vI p3, vI 0, vU, vU, vU, vU, vU, vU, vU] []))
    obtain ⟨a_271, T_271, h_271, k1_271, t_271, kb_271, X_271, e_271, E_271, hS_271, hk_271, hZ_271, hown_271, Ex_271, Fc_271, Fv_271, Av_271, lta_271, ltb_271, C_271, Lt_271, -, st_271⟩ := ldcCH X0 hx hZ hown (wd_0 hw) hwS e0 hS0 hk0 hEL (by decide) CV0 (vs := [(.int (112 : Int32)), (.int (101 : Int32)), (.int (110 : Int32)), (.int (100 : Int32)), (.int (105 : Int32)), (.int (110 : Int32)), (.int (103 : Int32))]) (z := (7 : Int32)) ⟨by decide, by decide⟩ (by decide) (by decide) (g := (mkF m 10 #[vI p0, vI p1, vI p2, vI p3, vI 0, vU, vU, vU, vU, vU, vU, vU] [])) rfl (hb hby at_10) (n := 28) (by decide) (by decide) (by decide) (by decide)
    refine Go.step st_271 ?_
    have CR_271 := CHr.trans (CHr.refl CV0) C_271
    have le_271 : h0.size ≤ h_271.size := E_271.1
    have KP_271 := KP0.ext E_271
    have O_271 := hO.ext E_271
    have Sx_271 : Str Z h_271.size h_271 a_271 ([(112 : Int32), (101 : Int32), (110 : Int32), (100 : Int32), (105 : Int32), (110 : Int32), (103 : Int32)] : List Int32) := ⟨t_271, kb_271, lta_271, ltb_271, Ex_271, Fv_271, Fc_271, Av_271, by decide, by decide⟩
    show Go p e below _ (T_271.setTop (mkF m 12 #[vI p0, vI p1, vI p2, vI p3, vI 0, vU, vU, vU, vU, vU, vU, vU] [(.ref a_271)]))
    refine Go.step (fun _ k => XS.goto X_271.here hx rfl (pc0 := 12) (pc' := 39) rfl (hb hby at_12) (by decide) (by decide) k) ?_
    show Go p e below _ (T_271.setTop (mkF m 39 #[vI p0, vI p1, vI p2, vI p3, vI 0, vU, vU, vU, vU, vU, vU, vU] [(.ref a_271)]))
    refine Go.step (fun _ k => XS.astore X_271.here hx rfl (hb hby at_39) rfl rfl (l' := #[vI p0, vI p1, vI p2, vI p3, vI 0, vR a_271, vU, vU, vU, vU, vU, vU]) rfl k) ?_
    show Go p e below _ (T_271.setTop (mkF m 41 #[vI p0, vI p1, vI p2, vI p3, vI 0, vR a_271, vU, vU, vU, vU, vU, vU] []))
    refine Go.step (fun _ k => XS.iloadN X_271.here hx rfl (hb hby at_41) rfl  k) ?_
    refine Go.step (fun _ k => XS.sipush X_271.here hx rfl (hb hby at_42) k) ?_
    show Go p e below _ (T_271.setTop (mkF m 45 #[vI p0, vI p1, vI p2, vI p3, vI 0, vR a_271, vU, vU, vU, vU, vU, vU] [(.int (255 : Int32)), (.int p3)]))
    refine Go.step (fun _ k => XS.iand X_271.here hx rfl (hb hby at_45) rfl k) ?_
    show Go p e below _ (T_271.setTop (mkF m 46 #[vI p0, vI p1, vI p2, vI p3, vI 0, vR a_271, vU, vU, vU, vU, vU, vU] [(.int (p3 &&& (255 : Int32)))]))
    refine Go.step (fun _ k => XS.i2c X_271.here hx rfl (hb hby at_46) rfl k) ?_
    show Go p e below _ (T_271.setTop (mkF m 47 #[vI p0, vI p1, vI p2, vI p3, vI 0, vR a_271, vU, vU, vU, vU, vU, vU] [(.int (nar .char (p3 &&& (255 : Int32))))]))
    refine own_top (congrArg Value.int (show (nar .char (p3 &&& (255 : Int32))) = (p3 &&& (255 : Int32)) from nar255 _)) ?_
    show Go p e below _ (T_271.setTop (mkF m 47 #[vI p0, vI p1, vI p2, vI p3, vI 0, vR a_271, vU, vU, vU, vU, vU, vU] [(.int (p3 &&& (255 : Int32)))]))
    refine Go.step (fun _ k => XS.istore X_271.here hx rfl (hb hby at_47) rfl (l' := #[vI p0, vI p1, vI p2, vI p3, vI 0, vR a_271, vI (p3 &&& (255 : Int32)), vU, vU, vU, vU, vU]) rfl k) ?_
    show Go p e below _ (T_271.setTop (mkF m 49 #[vI p0, vI p1, vI p2, vI p3, vI 0, vR a_271, vI (p3 &&& (255 : Int32)), vU, vU, vU, vU, vU] []))
    obtain ⟨cc, h_cc⟩ : ∃ z, z = (p3 &&& (255 : Int32)) := ⟨_, rfl⟩
    rw [← h_cc]
    show Go p e below _ (T_271.setTop (mkF m 49 #[vI p0, vI p1, vI p2, vI p3, vI 0, vR a_271, vI cc, vU, vU, vU, vU, vU] []))
    have l_c : ¬ cc < 0 ∧ ¬ (255 : Int32) < cc := by rw [h_cc]; exact lat255 _
    show Go p e below _ (T_271.setTop (mkF m 49 #[vI p0, vI p1, vI p2, vI p3, vI 0, vR a_271, vI cc, vU, vU, vU, vU, vU] []))
    refine Go.step (fun _ k => XS.iloadN X_271.here hx rfl (hb hby at_49) rfl  k) ?_
    show Go p e below _ (T_271.setTop (mkF m 50 #[vI p0, vI p1, vI p2, vI p3, vI 0, vR a_271, vI cc, vU, vU, vU, vU, vU] [(.int p1)]))
    refine Go.step (fun _ k => X_271.ldcInt hx hown_271 (mvT hZ_271 (wd_8 hw)) (g := (mkF m 50 #[vI p0, vI p1, vI p2, vI p3, vI 0, vR a_271, vI cc, vU, vU, vU, vU, vU] [(.int p1)])) rfl (hb hby at_50) _ k) ?_
    show Go p e below _ (T_271.setTop (mkF m 52 #[vI p0, vI p1, vI p2, vI p3, vI 0, vR a_271, vI cc, vU, vU, vU, vU, vU] [(.int (2147483647 : Int32)), (.int p1)]))
    refine Go.step (fun _ k => XS.iand X_271.here hx rfl (hb hby at_52) rfl k) ?_
    show Go p e below _ (T_271.setTop (mkF m 53 #[vI p0, vI p1, vI p2, vI p3, vI 0, vR a_271, vI cc, vU, vU, vU, vU, vU] [(.int (p1 &&& (2147483647 : Int32)))]))
    refine Go.step (fun _ k => XS.bipush X_271.here hx rfl (hb hby at_53) k) ?_
    show Go p e below _ (T_271.setTop (mkF m 55 #[vI p0, vI p1, vI p2, vI p3, vI 0, vR a_271, vI cc, vU, vU, vU, vU, vU] [(.int (6 : Int32)), (.int (p1 &&& (2147483647 : Int32)))]))
    refine Go.step (fun _ k => iremM X_271 hx rfl (hb hby at_55) rfl (by decide) k) ?_
    show Go p e below _ (T_271.setTop (mkF m 56 #[vI p0, vI p1, vI p2, vI p3, vI 0, vR a_271, vI cc, vU, vU, vU, vU, vU] [(.int ((p1 &&& (2147483647 : Int32)) % (6 : Int32)))]))
    refine Go.step (fun _ k => XS.istore X_271.here hx rfl (hb hby at_56) rfl (l' := #[vI p0, vI p1, vI p2, vI p3, vI 0, vR a_271, vI cc, vI ((p1 &&& (2147483647 : Int32)) % (6 : Int32)), vU, vU, vU, vU]) rfl k) ?_
    show Go p e below _ (T_271.setTop (mkF m 58 #[vI p0, vI p1, vI p2, vI p3, vI 0, vR a_271, vI cc, vI ((p1 &&& (2147483647 : Int32)) % (6 : Int32)), vU, vU, vU, vU] []))
    obtain ⟨mm, h_mm⟩ : ∃ z, z = ((p1 &&& (2147483647 : Int32)) % (6 : Int32)) := ⟨_, rfl⟩
    rw [← h_mm]
    show Go p e below _ (T_271.setTop (mkF m 58 #[vI p0, vI p1, vI p2, vI p3, vI 0, vR a_271, vI cc, vI mm, vU, vU, vU, vU] []))
    have h_m6 := range6 (by rw [h_mm]; exact rem6 _ : 0 ≤ mm.toInt ∧ mm.toInt < 6)
    clear h_mm
    show Go p e below _ (T_271.setTop (mkF m 58 #[vI p0, vI p1, vI p2, vI p3, vI 0, vR a_271, vI cc, vI mm, vU, vU, vU, vU] []))
    rcases h_m6 with rfl | rfl | rfl | rfl | rfl | rfl
    · skip
      show Go p e below _ (T_271.setTop (mkF m 58 #[vI p0, vI p1, vI p2, vI p3, vI 0, vR a_271, vI cc, vI 0, vU, vU, vU, vU] []))
      refine Go.step (fun _ k => XS.iload X_271.here hx rfl (hb hby at_58) rfl  k) ?_
      refine Go.step (fun _ k => XS.iconst X_271.here hx rfl (hb hby at_60) k) ?_
      show Go p e below _ (T_271.setTop (mkF m 61 #[vI p0, vI p1, vI p2, vI p3, vI 0, vR a_271, vI cc, vI 0, vU, vU, vU, vU] [(.int (4 : Int32)), (.int (0 : Int32))]))
      refine Go.step (fun _ k => XS.icmpYes X_271.here hx rfl (pc0 := 61) (pc' := 74) rfl (hb hby at_61) rfl (feq ((by decide) : ¬ ((0 : Int32) = (4 : Int32)))).2 (by decide) (by decide) k) ?_
      show Go p e below _ (T_271.setTop (mkF m 74 #[vI p0, vI p1, vI p2, vI p3, vI 0, vR a_271, vI cc, vI 0, vU, vU, vU, vU] []))
      refine Go.step (fun _ k => XS.iload X_271.here hx rfl (hb hby at_74) rfl  k) ?_
      refine Go.step (fun _ k => XS.iconst X_271.here hx rfl (hb hby at_76) k) ?_
      show Go p e below _ (T_271.setTop (mkF m 77 #[vI p0, vI p1, vI p2, vI p3, vI 0, vR a_271, vI cc, vI 0, vU, vU, vU, vU] [(.int (5 : Int32)), (.int (0 : Int32))]))
      refine Go.step (fun _ k => XS.icmpYes X_271.here hx rfl (pc0 := 77) (pc' := 105) rfl (hb hby at_77) rfl (feq ((by decide) : ¬ ((0 : Int32) = (5 : Int32)))).2 (by decide) (by decide) k) ?_
      show Go p e below _ (T_271.setTop (mkF m 105 #[vI p0, vI p1, vI p2, vI p3, vI 0, vR a_271, vI cc, vI 0, vU, vU, vU, vU] []))
      refine Go.step (fun _ k => XS.iload X_271.here hx rfl (hb hby at_105) rfl  k) ?_
      refine Go.step (fun _ k => XS.iconst X_271.here hx rfl (hb hby at_107) k) ?_
      show Go p e below _ (T_271.setTop (mkF m 108 #[vI p0, vI p1, vI p2, vI p3, vI 0, vR a_271, vI cc, vI 0, vU, vU, vU, vU] [(.int (2 : Int32)), (.int (0 : Int32))]))
      refine Go.step (fun _ k => XS.icmpYes X_271.here hx rfl (pc0 := 108) (pc' := 121) rfl (hb hby at_108) rfl (feq ((by decide) : ¬ ((0 : Int32) = (2 : Int32)))).2 (by decide) (by decide) k) ?_
      show Go p e below _ (T_271.setTop (mkF m 121 #[vI p0, vI p1, vI p2, vI p3, vI 0, vR a_271, vI cc, vI 0, vU, vU, vU, vU] []))
      refine Go.step (fun _ k => XS.iload X_271.here hx rfl (hb hby at_121) rfl  k) ?_
      refine Go.step (fun _ k => XS.iconst X_271.here hx rfl (hb hby at_123) k) ?_
      show Go p e below _ (T_271.setTop (mkF m 124 #[vI p0, vI p1, vI p2, vI p3, vI 0, vR a_271, vI cc, vI 0, vU, vU, vU, vU] [(.int (3 : Int32)), (.int (0 : Int32))]))
      refine Go.step (fun _ k => XS.icmpYes X_271.here hx rfl (pc0 := 124) (pc' := 137) rfl (hb hby at_124) rfl (feq ((by decide) : ¬ ((0 : Int32) = (3 : Int32)))).2 (by decide) (by decide) k) ?_
      show Go p e below _ (T_271.setTop (mkF m 137 #[vI p0, vI p1, vI p2, vI p3, vI 0, vR a_271, vI cc, vI 0, vU, vU, vU, vU] []))
      refine Go.step (fun _ k => XS.aload X_271.here hx rfl (hb hby at_137) rfl rfl k) ?_
      show Go p e below _ (T_271.setTop (mkF m 139 #[vI p0, vI p1, vI p2, vI p3, vI 0, vR a_271, vI cc, vI 0, vU, vU, vU, vU] [(.ref a_271)]))
      have cp272 := Sx_271
      obtain ⟨t273, kb273, -, -, Ex273, Fv273, Fc273, Av273, hl273, hn273⟩ := cp272
      obtain ⟨v_274, T_274, L_274, X_274, hQ_274, st_274⟩ := goV X_271 hx hZ_271 (y := Y_11) (z := Y_11) (kc := 0) (ks := 0) (QQ := fun v h' L => v = some (.int (7 : Int32)) ∧ L = [] ∧ h' = h_271) hown_271 (wd_9 hw) (wd_10 hw) (notFace_of_selects (args := #[]) (mvT hZ_271 (wd_12 hw))) (wd_12 hw) (wd_11 hw) (by decide) (StrChars.Road.lenW (W := 0) hZ_271 (sw_wordsLen hw) (kI := 4) (wd_2 hw) Ex273 Fv273 Fc273 Av273 (StrChars.Road.codOf rfl (fun c hc => (hl273 c hc).2)) (up255 hl273) (S_cs.ext O_271.2) n_cs hn273 (by decide) (by decide)) e_271 Ex273 (g := (mkF m 139 #[vI p0, vI p1, vI p2, vI p3, vI 0, vR a_271, vI cc, vI 0, vU, vU, vU, vU] [(.ref a_271)])) rfl (by rw [hml]; rfl) (argsL := []) (rest := []) rfl (lenOf pd_10 rfl) rfl (by show 2 * 0 + _ ≤ _; exact Nat.le_of_eq rfl) (hb hby at_139) (by decide) (by decide)
      obtain ⟨rfl, rfl, e_274⟩ := hQ_274
      have N_274 := Fr.app N0 (Fr.nil n0)
      refine Go.step st_274 ?_
      show Go p e below _ (T_274.setTop (mkF m 142 #[vI p0, vI p1, vI p2, vI p3, vI 0, vR a_271, vI cc, vI 0, vU, vU, vU, vU] [(.int (7 : Int32))]))
      refine Go.step (fun _ k => XS.istore X_274.here hx rfl (hb hby at_142) rfl (l' := #[vI p0, vI p1, vI p2, vI p3, vI 0, vR a_271, vI cc, vI 0, vU, vI 7, vU, vU]) rfl k) ?_
      show Go p e below _ (T_274.setTop (mkF m 144 #[vI p0, vI p1, vI p2, vI p3, vI 0, vR a_271, vI cc, vI 0, vU, vI 7, vU, vU] []))
      refine Go.step (fun _ k => XS.iloadN X_274.here hx rfl (hb hby at_144) rfl  k) ?_
      show Go p e below _ (T_274.setTop (mkF m 145 #[vI p0, vI p1, vI p2, vI p3, vI 0, vR a_271, vI cc, vI 0, vU, vI 7, vU, vU] [(.int p2)]))
      refine Go.step (fun _ k => X_274.ldcInt hx hown_271 (mvT hZ_271 (wd_8 hw)) (g := (mkF m 145 #[vI p0, vI p1, vI p2, vI p3, vI 0, vR a_271, vI cc, vI 0, vU, vI 7, vU, vU] [(.int p2)])) rfl (hb hby at_145) _ k) ?_
      show Go p e below _ (T_274.setTop (mkF m 147 #[vI p0, vI p1, vI p2, vI p3, vI 0, vR a_271, vI cc, vI 0, vU, vI 7, vU, vU] [(.int (2147483647 : Int32)), (.int p2)]))
      refine Go.step (fun _ k => XS.iand X_274.here hx rfl (hb hby at_147) rfl k) ?_
      show Go p e below _ (T_274.setTop (mkF m 148 #[vI p0, vI p1, vI p2, vI p3, vI 0, vR a_271, vI cc, vI 0, vU, vI 7, vU, vU] [(.int (p2 &&& (2147483647 : Int32)))]))
      refine Go.step (fun _ k => XS.iload X_274.here hx rfl (hb hby at_148) rfl  k) ?_
      refine Go.step (fun _ k => XS.iconst X_274.here hx rfl (hb hby at_150) k) ?_
      show Go p e below _ (T_274.setTop (mkF m 151 #[vI p0, vI p1, vI p2, vI p3, vI 0, vR a_271, vI cc, vI 0, vU, vI 7, vU, vU] [(.int (2 : Int32)), (.int (0 : Int32)), (.int (p2 &&& (2147483647 : Int32)))]))
      refine Go.step (fun _ k => XS.icmpYes X_274.here hx rfl (pc0 := 151) (pc' := 162) rfl (hb hby at_151) rfl (feq ((by decide) : ¬ ((0 : Int32) = (2 : Int32)))).2 (by decide) (by decide) k) ?_
      show Go p e below _ (T_274.setTop (mkF m 162 #[vI p0, vI p1, vI p2, vI p3, vI 0, vR a_271, vI cc, vI 0, vU, vI 7, vU, vU] [(.int (p2 &&& (2147483647 : Int32)))]))
      refine Go.step (fun _ k => XS.iload X_274.here hx rfl (hb hby at_162) rfl  k) ?_
      show Go p e below _ (T_274.setTop (mkF m 164 #[vI p0, vI p1, vI p2, vI p3, vI 0, vR a_271, vI cc, vI 0, vU, vI 7, vU, vU] [(.int (7 : Int32)), (.int (p2 &&& (2147483647 : Int32)))]))
      refine Go.step (fun _ k => iremM X_274 hx rfl (hb hby at_164) rfl (by decide) k) ?_
      show Go p e below _ (T_274.setTop (mkF m 165 #[vI p0, vI p1, vI p2, vI p3, vI 0, vR a_271, vI cc, vI 0, vU, vI 7, vU, vU] [(.int ((p2 &&& (2147483647 : Int32)) % (7 : Int32)))]))
      refine Go.step (fun _ k => XS.istore X_274.here hx rfl (hb hby at_165) rfl (l' := #[vI p0, vI p1, vI p2, vI p3, vI 0, vR a_271, vI cc, vI 0, vU, vI 7, vI ((p2 &&& (2147483647 : Int32)) % (7 : Int32)), vU]) rfl k) ?_
      show Go p e below _ (T_274.setTop (mkF m 167 #[vI p0, vI p1, vI p2, vI p3, vI 0, vR a_271, vI cc, vI 0, vU, vI 7, vI ((p2 &&& (2147483647 : Int32)) % (7 : Int32)), vU] []))
      obtain ⟨pp, h_pp⟩ : ∃ z, z = ((p2 &&& (2147483647 : Int32)) % (7 : Int32)) := ⟨_, rfl⟩
      rw [← h_pp]
      show Go p e below _ (T_274.setTop (mkF m 167 #[vI p0, vI p1, vI p2, vI p3, vI 0, vR a_271, vI cc, vI 0, vU, vI 7, vI pp, vU] []))
      have h_p : 0 ≤ pp.toInt ∧ pp.toInt < 7 := by rw [h_pp]; exact rem7 _
      show Go p e below _ (T_274.setTop (mkF m 167 #[vI p0, vI p1, vI p2, vI p3, vI 0, vR a_271, vI cc, vI 0, vU, vI 7, vI pp, vU] []))
      refine Go.step (fun _ k => XS.iload X_274.here hx rfl (hb hby at_167) rfl  k) ?_
      show Go p e below _ (T_274.setTop (mkF m 169 #[vI p0, vI p1, vI p2, vI p3, vI 0, vR a_271, vI cc, vI 0, vU, vI 7, vI pp, vU] [(.int (7 : Int32))]))
      obtain ⟨v_275, T_275, L_275, X_275, hQ_275, st_275⟩ := goS X_274 hx hZ_271 (y := Y_12) hown_271 (wd_22 hw) (wd_23 hw) (wd_24 hw) (wd_25 hw) (by decide) (backOf (W := 0) (rm_make7 l Z a0 hw zc vfm va kv ea eb ec ed wa wb wc wd h_271 n0 (Nat.le_trans Z0 KP_271.1) hSt O_271) hZ_271 (wd_25 hw) (wd_24 hw) (by decide) (by decide)) e_274 (g := (mkF m 169 #[vI p0, vI p1, vI p2, vI p3, vI 0, vR a_271, vI cc, vI 0, vU, vI 7, vI pp, vU] [(.int (7 : Int32))])) rfl (by rw [hml]; rfl) (argsL := [(.int (7 : Int32))]) (rest := []) rfl (lenOf pd_11 rfl) rfl (by show 2 * 0 + _ ≤ _; exact Nat.le_of_eq rfl) (hb hby at_169) (by decide) (by decide)
      obtain ⟨r_275, kr_275, rfl, Nq_275, K_275, u0_275, u1_275⟩ := hQ_275
      have N_275 := Fr.app N_274 Nq_275
      have C_275 := CHr.keep K_275 sf0 C_271.1
      have CR_275 := CHr.trans CR_271 C_275
      have le_275 : h_271.size ≤ T_275.heap.size := K_275.1
      have KP_275 := KP_271.trans K_275 all0
      have O_275 := O_271.keep K_275 all0
      have sz_r_275 : h0.size ≤ r_275 := Nat.le_trans le_271 u0_275
      have g_r_275 : n0 ≤ r_275 := Nat.le_trans Z0 sz_r_275
      have Sf_r_275 := Safe.keep K_275 sf0 C_271.1 (Safe.new u0_275)
      refine Go.step st_275 ?_
      show Go p e below _ (T_275.setTop (mkF m 172 #[vI p0, vI p1, vI p2, vI p3, vI 0, vR a_271, vI cc, vI 0, vU, vI 7, vI pp, vU] [(.ref r_275)]))
      refine Go.step (fun _ k => XS.astore X_275.here hx rfl (hb hby at_172) rfl rfl (l' := #[vI p0, vI p1, vI p2, vI p3, vI 0, vR a_271, vI cc, vI 0, vU, vI 7, vI pp, vR r_275]) rfl k) ?_
      show Go p e below _ (T_275.setTop (mkF m 174 #[vI p0, vI p1, vI p2, vI p3, vI 0, vR a_271, vI cc, vI 0, vU, vI 7, vI pp, vR r_275] []))
      have f276 : Str Z h_271.size T_275.heap a_271 ([(112 : Int32), (101 : Int32), (110 : Int32), (100 : Int32), (105 : Int32), (110 : Int32), (103 : Int32)] : List Int32) := (Sx_271.keep K_275 all0)
      refine sg_puts l Z a0 hw zc vfm va kv ea eb ec ed wa wb wc wd (p0) (p1) (p2) (p3) ((0 : Int32)) ((7 : Int32)) (r_275) (kr_275) ((7 : Int32)) (([(0 : Int32), (0 : Int32), (0 : Int32), (0 : Int32), (0 : Int32), (0 : Int32), (0 : Int32)] : List Int32)) (a_271) (([(112 : Int32), (101 : Int32), (110 : Int32), (100 : Int32), (105 : Int32), (110 : Int32), (103 : Int32)] : List Int32)) ((0 : Int32)) (pp) (cc) (h_271.size) T_275.heap n0 (Nat.le_trans Z0 KP_275.1) u1_275 g_r_275 f276 (Nat.le_trans (Nat.le_refl _) u0_275) rfl (by decide) (by decide) (fun i1 a b => by have a2 : 0 ≤ i1.toInt := Int.not_lt.mp (fun q => a (Int32.lt_iff_toInt_lt.mpr q)); have b2 : i1.toInt < 7 := Int32.lt_iff_toInt_lt.mp b; have hp := h_p; exact ⟨by decide, a2, hp.1, by show _ ≤ ((7 : Nat) : Int); omega, fun _ => by show _ < ((7 : Nat) : Int); omega, fun q => absurd q (by decide), fun a _ _ => absurd rfl a⟩) l_c hSt O_275 hx hby hml hZ_271 hown_271 X_275 rfl N_275 (by decide) (by decide) ?_
      intro T_277 L_277 vs2_277 X_277 hQ_277
      obtain ⟨N_277, K_277, u0_277, u1_277⟩ := hQ_277
      have C_277 := CHr.keep K_277 (sfS (Safe.arv hZ_271.alike u1_275 (by decide)) sf0) C_275.1
      have CR_277 := CHr.trans CR_275 C_277
      have le_277 : T_275.heap.size ≤ T_277.heap.size := K_277.1
      have KP_277 := KP_275.trans K_277 (allS (Or.inr sz_r_275) all0)
      have O_277 := O_275.keep K_277 (allS g_r_275 all0)
      have hv2_277 := u1_277
      show Go p e below _ (T_277.setTop (mkF m 303 #[vI p0, vI p1, vI p2, vI p3, vI 0, vR a_271, vI cc, vI 0, vU, vI 7, vI pp, vR r_275] []))
      have hL_277 : vs2_277.length = 7 := hv2_277.1
      show Go p e below _ (T_277.setTop (mkF m 303 #[vI p0, vI p1, vI p2, vI p3, vI 0, vR a_271, vI cc, vI 0, vU, vI 7, vI pp, vR r_275] []))
      obtain ⟨T_278, h_278, X_278, e_278, E_278, A_278, D_278, Un_278, st_278⟩ := newO X_277 hx hZ_271 hown_271 (wd_55 hw) (wd_2 hw) (wd_1 hw) rfl (g := (mkF m 303 #[vI p0, vI p1, vI p2, vI p3, vI 0, vR a_271, vI cc, vI 0, vU, vI 7, vI pp, vR r_275] [])) rfl (hb hby at_303) (by decide) (by decide)
      obtain ⟨b278, q_278⟩ : ∃ z, z = T_277.heap.size := ⟨_, rfl⟩
      rw [← q_278] at A_278 D_278 Un_278 st_278
      refine Go.step st_278 ?_
      have C_278 := CHr.ext E_278 C_277.1
      have CR_278 := CHr.trans CR_277 C_278
      have le_278 : T_277.heap.size ≤ h_278.size := E_278.1
      have KP_278 := KP_277.ext E_278
      have O_278 := O_277.ext E_278
      have ge_278 : T_277.heap.size ≤ b278 := Nat.le_of_eq q_278.symm
      have sz_b278 : h0.size ≤ b278 := Nat.le_trans (Nat.le_trans le_271 (Nat.le_trans le_275 le_277)) ge_278
      have g_b278 : n0 ≤ b278 := Nat.le_trans Z0 sz_b278
      have F_278_4 : Fld Z h_278 b278 "java/lang/String" "value" "[B" .null := D_278 (Or.inr (wd_4 hw)) (ty := (.array .byte)) pf_0
      have F_278_5 : Fld Z h_278 b278 "java/lang/String" "coder" "B" (.int (0 : Int32)) := D_278 (Or.inr (wd_5 hw)) (ty := .byte) pf_1
      have Sf_b278 := Safe.ext E_278 C_277.1 (Safe.new ge_278)
      show Go p e below _ (T_278.setTop (mkF m 306 #[vI p0, vI p1, vI p2, vI p3, vI 0, vR a_271, vI cc, vI 0, vU, vI 7, vI pp, vR r_275] [(.ref b278)]))
      refine Go.step (fun _ k => XS.dup X_278.here hx rfl (hb hby at_306) rfl rfl k) ?_
      refine Go.step (fun _ k => XS.aload X_278.here hx rfl (hb hby at_307) rfl rfl k) ?_
      show Go p e below _ (T_278.setTop (mkF m 309 #[vI p0, vI p1, vI p2, vI p3, vI 0, vR a_271, vI cc, vI 0, vU, vI 7, vI pp, vR r_275] [(.ref r_275), (.ref b278), (.ref b278)]))
      have f279 : Arv Z h_278 r_275 kr_275 .char (7 : Int32) (vs2_277.map Value.int) (.int (0 : Int32)) := (u0_277.ext E_278)
      obtain ⟨v_280, T_280, L_280, X_280, hQ_280, st_280⟩ := goC X_278 hx hZ_271 (y := Y_13) hown_271 rfl (wd_56 hw) (wd_57 hw) (wd_58 hw) (by decide) (StrChars.Road.backV (W := 1) hZ_271 (sw_words hw) (kI := 4) (wd_2 hw) (cs := vs2_277) (bs := vs2_277.map (fun c => c.toInt8.toInt32)) (n := 7) g_b278 (Nat.le_trans Z0 KP_278.1) A_278 F_278_4 F_278_5 f279 (S_cs.ext O_278.2) n_cs hL_277 rfl (by decide) (by decide) hv2_277.2 rfl (by decide) (by decide)) e_278 (g := (mkF m 309 #[vI p0, vI p1, vI p2, vI p3, vI 0, vR a_271, vI cc, vI 0, vU, vI 7, vI pp, vR r_275] [(.ref r_275), (.ref b278), (.ref b278)])) rfl (by rw [hml]; rfl) (a := b278) (argsL := [(.ref r_275)]) (rest := [(.ref b278)]) rfl (lenOf pd_12 rfl) rfl (by show 2 * 0 + _ ≤ _; exact Nat.le_of_eq rfl) (hb hby at_309) (by decide) (by decide)
      obtain ⟨rfl, Nq_280, K_280, Ex_280, Fc_280, t_280, kb_280, -, gt_280, -, Fv_280, Av_280⟩ := hQ_280
      have N_280 := Fr.app N_277 Nq_280
      have C_280 := CHr.keep K_280 (sfS Sf_b278 sf0) C_278.1
      have CR_280 := CHr.trans CR_278 C_280
      have le_280 : h_278.size ≤ T_280.heap.size := K_280.1
      have KP_280 := KP_278.trans K_280 (allS (Or.inr sz_b278) all0)
      have O_280 := O_278.keep K_280 (allS g_b278 all0)
      have Sx_280 : Str Z (T_280.heap).size (T_280.heap) b278 vs2_277 := ⟨t_280, kb_280, Ex_280.lt, Av_280.lt, Ex_280, Fv_280, Fc_280, by rw [show vs2_277.length = 7 from hL_277]; exact Av_280, hv2_277.2, by rw [show vs2_277.length = 7 from hL_277]; decide⟩
      refine Go.step st_280 ?_
      show Go p e below _ (T_280.setTop (mkF m 312 #[vI p0, vI p1, vI p2, vI p3, vI 0, vR a_271, vI cc, vI 0, vU, vI 7, vI pp, vR r_275] [(.ref b278)]))
      refine Go.step (fun _ k => XS.astore X_280.here hx rfl (hb hby at_312) rfl rfl (l' := #[vI p0, vI p1, vI p2, vI p3, vI 0, vR a_271, vI cc, vI 0, vR b278, vI 7, vI pp, vR r_275]) rfl k) ?_
      show Go p e below _ (T_280.setTop (mkF m 314 #[vI p0, vI p1, vI p2, vI p3, vI 0, vR a_271, vI cc, vI 0, vR b278, vI 7, vI pp, vR r_275] []))
      exact tg_tailS l Z a0 hw zc vfm va kv ea eb ec ed wa wb wc wd ((vI p0)) ((vI p1)) ((vI p2)) ((vI p3)) ((vI 0)) ((vR a_271)) ((vI cc)) ((vI 0)) ((vI 7)) ((vI pp)) ((vR r_275)) (b278) (vs2_277) T_280.heap n0 (Nat.le_trans Z0 KP_280.1) Sx_280 hSt O_280 hx hby hml hret hlk hZ_271 hown_271 X_280 rfl N_280 hS_271 (Nat.le_trans hk_271 (Nat.le_trans le_275 (Nat.le_trans le_277 (Nat.le_trans le_278 le_280)))) C_280.1 CR_280 hh0 (by decide) (by decide)
    · skip
      show Go p e below _ (T_271.setTop (mkF m 58 #[vI p0, vI p1, vI p2, vI p3, vI 0, vR a_271, vI cc, vI 1, vU, vU, vU, vU] []))
      refine Go.step (fun _ k => XS.iload X_271.here hx rfl (hb hby at_58) rfl  k) ?_
      refine Go.step (fun _ k => XS.iconst X_271.here hx rfl (hb hby at_60) k) ?_
      show Go p e below _ (T_271.setTop (mkF m 61 #[vI p0, vI p1, vI p2, vI p3, vI 0, vR a_271, vI cc, vI 1, vU, vU, vU, vU] [(.int (4 : Int32)), (.int (1 : Int32))]))
      refine Go.step (fun _ k => XS.icmpYes X_271.here hx rfl (pc0 := 61) (pc' := 74) rfl (hb hby at_61) rfl (feq ((by decide) : ¬ ((1 : Int32) = (4 : Int32)))).2 (by decide) (by decide) k) ?_
      show Go p e below _ (T_271.setTop (mkF m 74 #[vI p0, vI p1, vI p2, vI p3, vI 0, vR a_271, vI cc, vI 1, vU, vU, vU, vU] []))
      refine Go.step (fun _ k => XS.iload X_271.here hx rfl (hb hby at_74) rfl  k) ?_
      refine Go.step (fun _ k => XS.iconst X_271.here hx rfl (hb hby at_76) k) ?_
      show Go p e below _ (T_271.setTop (mkF m 77 #[vI p0, vI p1, vI p2, vI p3, vI 0, vR a_271, vI cc, vI 1, vU, vU, vU, vU] [(.int (5 : Int32)), (.int (1 : Int32))]))
      refine Go.step (fun _ k => XS.icmpYes X_271.here hx rfl (pc0 := 77) (pc' := 105) rfl (hb hby at_77) rfl (feq ((by decide) : ¬ ((1 : Int32) = (5 : Int32)))).2 (by decide) (by decide) k) ?_
      show Go p e below _ (T_271.setTop (mkF m 105 #[vI p0, vI p1, vI p2, vI p3, vI 0, vR a_271, vI cc, vI 1, vU, vU, vU, vU] []))
      refine Go.step (fun _ k => XS.iload X_271.here hx rfl (hb hby at_105) rfl  k) ?_
      refine Go.step (fun _ k => XS.iconst X_271.here hx rfl (hb hby at_107) k) ?_
      show Go p e below _ (T_271.setTop (mkF m 108 #[vI p0, vI p1, vI p2, vI p3, vI 0, vR a_271, vI cc, vI 1, vU, vU, vU, vU] [(.int (2 : Int32)), (.int (1 : Int32))]))
      refine Go.step (fun _ k => XS.icmpYes X_271.here hx rfl (pc0 := 108) (pc' := 121) rfl (hb hby at_108) rfl (feq ((by decide) : ¬ ((1 : Int32) = (2 : Int32)))).2 (by decide) (by decide) k) ?_
      show Go p e below _ (T_271.setTop (mkF m 121 #[vI p0, vI p1, vI p2, vI p3, vI 0, vR a_271, vI cc, vI 1, vU, vU, vU, vU] []))
      refine Go.step (fun _ k => XS.iload X_271.here hx rfl (hb hby at_121) rfl  k) ?_
      refine Go.step (fun _ k => XS.iconst X_271.here hx rfl (hb hby at_123) k) ?_
      show Go p e below _ (T_271.setTop (mkF m 124 #[vI p0, vI p1, vI p2, vI p3, vI 0, vR a_271, vI cc, vI 1, vU, vU, vU, vU] [(.int (3 : Int32)), (.int (1 : Int32))]))
      refine Go.step (fun _ k => XS.icmpYes X_271.here hx rfl (pc0 := 124) (pc' := 137) rfl (hb hby at_124) rfl (feq ((by decide) : ¬ ((1 : Int32) = (3 : Int32)))).2 (by decide) (by decide) k) ?_
      show Go p e below _ (T_271.setTop (mkF m 137 #[vI p0, vI p1, vI p2, vI p3, vI 0, vR a_271, vI cc, vI 1, vU, vU, vU, vU] []))
      refine Go.step (fun _ k => XS.aload X_271.here hx rfl (hb hby at_137) rfl rfl k) ?_
      show Go p e below _ (T_271.setTop (mkF m 139 #[vI p0, vI p1, vI p2, vI p3, vI 0, vR a_271, vI cc, vI 1, vU, vU, vU, vU] [(.ref a_271)]))
      have cp281 := Sx_271
      obtain ⟨t282, kb282, -, -, Ex282, Fv282, Fc282, Av282, hl282, hn282⟩ := cp281
      obtain ⟨v_283, T_283, L_283, X_283, hQ_283, st_283⟩ := goV X_271 hx hZ_271 (y := Y_11) (z := Y_11) (kc := 0) (ks := 0) (QQ := fun v h' L => v = some (.int (7 : Int32)) ∧ L = [] ∧ h' = h_271) hown_271 (wd_9 hw) (wd_10 hw) (notFace_of_selects (args := #[]) (mvT hZ_271 (wd_12 hw))) (wd_12 hw) (wd_11 hw) (by decide) (StrChars.Road.lenW (W := 0) hZ_271 (sw_wordsLen hw) (kI := 4) (wd_2 hw) Ex282 Fv282 Fc282 Av282 (StrChars.Road.codOf rfl (fun c hc => (hl282 c hc).2)) (up255 hl282) (S_cs.ext O_271.2) n_cs hn282 (by decide) (by decide)) e_271 Ex282 (g := (mkF m 139 #[vI p0, vI p1, vI p2, vI p3, vI 0, vR a_271, vI cc, vI 1, vU, vU, vU, vU] [(.ref a_271)])) rfl (by rw [hml]; rfl) (argsL := []) (rest := []) rfl (lenOf pd_10 rfl) rfl (by show 2 * 0 + _ ≤ _; exact Nat.le_of_eq rfl) (hb hby at_139) (by decide) (by decide)
      obtain ⟨rfl, rfl, e_283⟩ := hQ_283
      have N_283 := Fr.app N0 (Fr.nil n0)
      refine Go.step st_283 ?_
      show Go p e below _ (T_283.setTop (mkF m 142 #[vI p0, vI p1, vI p2, vI p3, vI 0, vR a_271, vI cc, vI 1, vU, vU, vU, vU] [(.int (7 : Int32))]))
      refine Go.step (fun _ k => XS.istore X_283.here hx rfl (hb hby at_142) rfl (l' := #[vI p0, vI p1, vI p2, vI p3, vI 0, vR a_271, vI cc, vI 1, vU, vI 7, vU, vU]) rfl k) ?_
      show Go p e below _ (T_283.setTop (mkF m 144 #[vI p0, vI p1, vI p2, vI p3, vI 0, vR a_271, vI cc, vI 1, vU, vI 7, vU, vU] []))
      refine Go.step (fun _ k => XS.iloadN X_283.here hx rfl (hb hby at_144) rfl  k) ?_
      show Go p e below _ (T_283.setTop (mkF m 145 #[vI p0, vI p1, vI p2, vI p3, vI 0, vR a_271, vI cc, vI 1, vU, vI 7, vU, vU] [(.int p2)]))
      refine Go.step (fun _ k => X_283.ldcInt hx hown_271 (mvT hZ_271 (wd_8 hw)) (g := (mkF m 145 #[vI p0, vI p1, vI p2, vI p3, vI 0, vR a_271, vI cc, vI 1, vU, vI 7, vU, vU] [(.int p2)])) rfl (hb hby at_145) _ k) ?_
      show Go p e below _ (T_283.setTop (mkF m 147 #[vI p0, vI p1, vI p2, vI p3, vI 0, vR a_271, vI cc, vI 1, vU, vI 7, vU, vU] [(.int (2147483647 : Int32)), (.int p2)]))
      refine Go.step (fun _ k => XS.iand X_283.here hx rfl (hb hby at_147) rfl k) ?_
      show Go p e below _ (T_283.setTop (mkF m 148 #[vI p0, vI p1, vI p2, vI p3, vI 0, vR a_271, vI cc, vI 1, vU, vI 7, vU, vU] [(.int (p2 &&& (2147483647 : Int32)))]))
      refine Go.step (fun _ k => XS.iload X_283.here hx rfl (hb hby at_148) rfl  k) ?_
      refine Go.step (fun _ k => XS.iconst X_283.here hx rfl (hb hby at_150) k) ?_
      show Go p e below _ (T_283.setTop (mkF m 151 #[vI p0, vI p1, vI p2, vI p3, vI 0, vR a_271, vI cc, vI 1, vU, vI 7, vU, vU] [(.int (2 : Int32)), (.int (1 : Int32)), (.int (p2 &&& (2147483647 : Int32)))]))
      refine Go.step (fun _ k => XS.icmpYes X_283.here hx rfl (pc0 := 151) (pc' := 162) rfl (hb hby at_151) rfl (feq ((by decide) : ¬ ((1 : Int32) = (2 : Int32)))).2 (by decide) (by decide) k) ?_
      show Go p e below _ (T_283.setTop (mkF m 162 #[vI p0, vI p1, vI p2, vI p3, vI 0, vR a_271, vI cc, vI 1, vU, vI 7, vU, vU] [(.int (p2 &&& (2147483647 : Int32)))]))
      refine Go.step (fun _ k => XS.iload X_283.here hx rfl (hb hby at_162) rfl  k) ?_
      show Go p e below _ (T_283.setTop (mkF m 164 #[vI p0, vI p1, vI p2, vI p3, vI 0, vR a_271, vI cc, vI 1, vU, vI 7, vU, vU] [(.int (7 : Int32)), (.int (p2 &&& (2147483647 : Int32)))]))
      refine Go.step (fun _ k => iremM X_283 hx rfl (hb hby at_164) rfl (by decide) k) ?_
      show Go p e below _ (T_283.setTop (mkF m 165 #[vI p0, vI p1, vI p2, vI p3, vI 0, vR a_271, vI cc, vI 1, vU, vI 7, vU, vU] [(.int ((p2 &&& (2147483647 : Int32)) % (7 : Int32)))]))
      refine Go.step (fun _ k => XS.istore X_283.here hx rfl (hb hby at_165) rfl (l' := #[vI p0, vI p1, vI p2, vI p3, vI 0, vR a_271, vI cc, vI 1, vU, vI 7, vI ((p2 &&& (2147483647 : Int32)) % (7 : Int32)), vU]) rfl k) ?_
      show Go p e below _ (T_283.setTop (mkF m 167 #[vI p0, vI p1, vI p2, vI p3, vI 0, vR a_271, vI cc, vI 1, vU, vI 7, vI ((p2 &&& (2147483647 : Int32)) % (7 : Int32)), vU] []))
      obtain ⟨pp, h_pp⟩ : ∃ z, z = ((p2 &&& (2147483647 : Int32)) % (7 : Int32)) := ⟨_, rfl⟩
      rw [← h_pp]
      show Go p e below _ (T_283.setTop (mkF m 167 #[vI p0, vI p1, vI p2, vI p3, vI 0, vR a_271, vI cc, vI 1, vU, vI 7, vI pp, vU] []))
      have h_p : 0 ≤ pp.toInt ∧ pp.toInt < 7 := by rw [h_pp]; exact rem7 _
      show Go p e below _ (T_283.setTop (mkF m 167 #[vI p0, vI p1, vI p2, vI p3, vI 0, vR a_271, vI cc, vI 1, vU, vI 7, vI pp, vU] []))
      refine Go.step (fun _ k => XS.iload X_283.here hx rfl (hb hby at_167) rfl  k) ?_
      show Go p e below _ (T_283.setTop (mkF m 169 #[vI p0, vI p1, vI p2, vI p3, vI 0, vR a_271, vI cc, vI 1, vU, vI 7, vI pp, vU] [(.int (7 : Int32))]))
      obtain ⟨v_284, T_284, L_284, X_284, hQ_284, st_284⟩ := goS X_283 hx hZ_271 (y := Y_12) hown_271 (wd_22 hw) (wd_23 hw) (wd_24 hw) (wd_25 hw) (by decide) (backOf (W := 0) (rm_make7 l Z a0 hw zc vfm va kv ea eb ec ed wa wb wc wd h_271 n0 (Nat.le_trans Z0 KP_271.1) hSt O_271) hZ_271 (wd_25 hw) (wd_24 hw) (by decide) (by decide)) e_283 (g := (mkF m 169 #[vI p0, vI p1, vI p2, vI p3, vI 0, vR a_271, vI cc, vI 1, vU, vI 7, vI pp, vU] [(.int (7 : Int32))])) rfl (by rw [hml]; rfl) (argsL := [(.int (7 : Int32))]) (rest := []) rfl (lenOf pd_11 rfl) rfl (by show 2 * 0 + _ ≤ _; exact Nat.le_of_eq rfl) (hb hby at_169) (by decide) (by decide)
      obtain ⟨r_284, kr_284, rfl, Nq_284, K_284, u0_284, u1_284⟩ := hQ_284
      have N_284 := Fr.app N_283 Nq_284
      have C_284 := CHr.keep K_284 sf0 C_271.1
      have CR_284 := CHr.trans CR_271 C_284
      have le_284 : h_271.size ≤ T_284.heap.size := K_284.1
      have KP_284 := KP_271.trans K_284 all0
      have O_284 := O_271.keep K_284 all0
      have sz_r_284 : h0.size ≤ r_284 := Nat.le_trans le_271 u0_284
      have g_r_284 : n0 ≤ r_284 := Nat.le_trans Z0 sz_r_284
      have Sf_r_284 := Safe.keep K_284 sf0 C_271.1 (Safe.new u0_284)
      refine Go.step st_284 ?_
      show Go p e below _ (T_284.setTop (mkF m 172 #[vI p0, vI p1, vI p2, vI p3, vI 0, vR a_271, vI cc, vI 1, vU, vI 7, vI pp, vU] [(.ref r_284)]))
      refine Go.step (fun _ k => XS.astore X_284.here hx rfl (hb hby at_172) rfl rfl (l' := #[vI p0, vI p1, vI p2, vI p3, vI 0, vR a_271, vI cc, vI 1, vU, vI 7, vI pp, vR r_284]) rfl k) ?_
      show Go p e below _ (T_284.setTop (mkF m 174 #[vI p0, vI p1, vI p2, vI p3, vI 0, vR a_271, vI cc, vI 1, vU, vI 7, vI pp, vR r_284] []))
      have f285 : Str Z h_271.size T_284.heap a_271 ([(112 : Int32), (101 : Int32), (110 : Int32), (100 : Int32), (105 : Int32), (110 : Int32), (103 : Int32)] : List Int32) := (Sx_271.keep K_284 all0)
      refine sg_puts l Z a0 hw zc vfm va kv ea eb ec ed wa wb wc wd (p0) (p1) (p2) (p3) ((0 : Int32)) ((7 : Int32)) (r_284) (kr_284) ((7 : Int32)) (([(0 : Int32), (0 : Int32), (0 : Int32), (0 : Int32), (0 : Int32), (0 : Int32), (0 : Int32)] : List Int32)) (a_271) (([(112 : Int32), (101 : Int32), (110 : Int32), (100 : Int32), (105 : Int32), (110 : Int32), (103 : Int32)] : List Int32)) ((1 : Int32)) (pp) (cc) (h_271.size) T_284.heap n0 (Nat.le_trans Z0 KP_284.1) u1_284 g_r_284 f285 (Nat.le_trans (Nat.le_refl _) u0_284) rfl (by decide) (by decide) (fun i1 a b => by have a2 : 0 ≤ i1.toInt := Int.not_lt.mp (fun q => a (Int32.lt_iff_toInt_lt.mpr q)); have b2 : i1.toInt < 7 := Int32.lt_iff_toInt_lt.mp b; have hp := h_p; exact ⟨by decide, a2, hp.1, by show _ ≤ ((7 : Nat) : Int); omega, fun _ => by show _ < ((7 : Nat) : Int); omega, fun q => absurd q (by decide), fun _ b _ => absurd rfl b⟩) l_c hSt O_284 hx hby hml hZ_271 hown_271 X_284 rfl N_284 (by decide) (by decide) ?_
      intro T_286 L_286 vs2_286 X_286 hQ_286
      obtain ⟨N_286, K_286, u0_286, u1_286⟩ := hQ_286
      have C_286 := CHr.keep K_286 (sfS (Safe.arv hZ_271.alike u1_284 (by decide)) sf0) C_284.1
      have CR_286 := CHr.trans CR_284 C_286
      have le_286 : T_284.heap.size ≤ T_286.heap.size := K_286.1
      have KP_286 := KP_284.trans K_286 (allS (Or.inr sz_r_284) all0)
      have O_286 := O_284.keep K_286 (allS g_r_284 all0)
      have hv2_286 := u1_286
      show Go p e below _ (T_286.setTop (mkF m 303 #[vI p0, vI p1, vI p2, vI p3, vI 0, vR a_271, vI cc, vI 1, vU, vI 7, vI pp, vR r_284] []))
      have hL_286 : vs2_286.length = 7 := hv2_286.1
      show Go p e below _ (T_286.setTop (mkF m 303 #[vI p0, vI p1, vI p2, vI p3, vI 0, vR a_271, vI cc, vI 1, vU, vI 7, vI pp, vR r_284] []))
      obtain ⟨T_287, h_287, X_287, e_287, E_287, A_287, D_287, Un_287, st_287⟩ := newO X_286 hx hZ_271 hown_271 (wd_55 hw) (wd_2 hw) (wd_1 hw) rfl (g := (mkF m 303 #[vI p0, vI p1, vI p2, vI p3, vI 0, vR a_271, vI cc, vI 1, vU, vI 7, vI pp, vR r_284] [])) rfl (hb hby at_303) (by decide) (by decide)
      obtain ⟨b287, q_287⟩ : ∃ z, z = T_286.heap.size := ⟨_, rfl⟩
      rw [← q_287] at A_287 D_287 Un_287 st_287
      refine Go.step st_287 ?_
      have C_287 := CHr.ext E_287 C_286.1
      have CR_287 := CHr.trans CR_286 C_287
      have le_287 : T_286.heap.size ≤ h_287.size := E_287.1
      have KP_287 := KP_286.ext E_287
      have O_287 := O_286.ext E_287
      have ge_287 : T_286.heap.size ≤ b287 := Nat.le_of_eq q_287.symm
      have sz_b287 : h0.size ≤ b287 := Nat.le_trans (Nat.le_trans le_271 (Nat.le_trans le_284 le_286)) ge_287
      have g_b287 : n0 ≤ b287 := Nat.le_trans Z0 sz_b287
      have F_287_4 : Fld Z h_287 b287 "java/lang/String" "value" "[B" .null := D_287 (Or.inr (wd_4 hw)) (ty := (.array .byte)) pf_0
      have F_287_5 : Fld Z h_287 b287 "java/lang/String" "coder" "B" (.int (0 : Int32)) := D_287 (Or.inr (wd_5 hw)) (ty := .byte) pf_1
      have Sf_b287 := Safe.ext E_287 C_286.1 (Safe.new ge_287)
      show Go p e below _ (T_287.setTop (mkF m 306 #[vI p0, vI p1, vI p2, vI p3, vI 0, vR a_271, vI cc, vI 1, vU, vI 7, vI pp, vR r_284] [(.ref b287)]))
      refine Go.step (fun _ k => XS.dup X_287.here hx rfl (hb hby at_306) rfl rfl k) ?_
      refine Go.step (fun _ k => XS.aload X_287.here hx rfl (hb hby at_307) rfl rfl k) ?_
      show Go p e below _ (T_287.setTop (mkF m 309 #[vI p0, vI p1, vI p2, vI p3, vI 0, vR a_271, vI cc, vI 1, vU, vI 7, vI pp, vR r_284] [(.ref r_284), (.ref b287), (.ref b287)]))
      have f288 : Arv Z h_287 r_284 kr_284 .char (7 : Int32) (vs2_286.map Value.int) (.int (0 : Int32)) := (u0_286.ext E_287)
      obtain ⟨v_289, T_289, L_289, X_289, hQ_289, st_289⟩ := goC X_287 hx hZ_271 (y := Y_13) hown_271 rfl (wd_56 hw) (wd_57 hw) (wd_58 hw) (by decide) (StrChars.Road.backV (W := 1) hZ_271 (sw_words hw) (kI := 4) (wd_2 hw) (cs := vs2_286) (bs := vs2_286.map (fun c => c.toInt8.toInt32)) (n := 7) g_b287 (Nat.le_trans Z0 KP_287.1) A_287 F_287_4 F_287_5 f288 (S_cs.ext O_287.2) n_cs hL_286 rfl (by decide) (by decide) hv2_286.2 rfl (by decide) (by decide)) e_287 (g := (mkF m 309 #[vI p0, vI p1, vI p2, vI p3, vI 0, vR a_271, vI cc, vI 1, vU, vI 7, vI pp, vR r_284] [(.ref r_284), (.ref b287), (.ref b287)])) rfl (by rw [hml]; rfl) (a := b287) (argsL := [(.ref r_284)]) (rest := [(.ref b287)]) rfl (lenOf pd_12 rfl) rfl (by show 2 * 0 + _ ≤ _; exact Nat.le_of_eq rfl) (hb hby at_309) (by decide) (by decide)
      obtain ⟨rfl, Nq_289, K_289, Ex_289, Fc_289, t_289, kb_289, -, gt_289, -, Fv_289, Av_289⟩ := hQ_289
      have N_289 := Fr.app N_286 Nq_289
      have C_289 := CHr.keep K_289 (sfS Sf_b287 sf0) C_287.1
      have CR_289 := CHr.trans CR_287 C_289
      have le_289 : h_287.size ≤ T_289.heap.size := K_289.1
      have KP_289 := KP_287.trans K_289 (allS (Or.inr sz_b287) all0)
      have O_289 := O_287.keep K_289 (allS g_b287 all0)
      have Sx_289 : Str Z (T_289.heap).size (T_289.heap) b287 vs2_286 := ⟨t_289, kb_289, Ex_289.lt, Av_289.lt, Ex_289, Fv_289, Fc_289, by rw [show vs2_286.length = 7 from hL_286]; exact Av_289, hv2_286.2, by rw [show vs2_286.length = 7 from hL_286]; decide⟩
      refine Go.step st_289 ?_
      show Go p e below _ (T_289.setTop (mkF m 312 #[vI p0, vI p1, vI p2, vI p3, vI 0, vR a_271, vI cc, vI 1, vU, vI 7, vI pp, vR r_284] [(.ref b287)]))
      refine Go.step (fun _ k => XS.astore X_289.here hx rfl (hb hby at_312) rfl rfl (l' := #[vI p0, vI p1, vI p2, vI p3, vI 0, vR a_271, vI cc, vI 1, vR b287, vI 7, vI pp, vR r_284]) rfl k) ?_
      show Go p e below _ (T_289.setTop (mkF m 314 #[vI p0, vI p1, vI p2, vI p3, vI 0, vR a_271, vI cc, vI 1, vR b287, vI 7, vI pp, vR r_284] []))
      exact tg_tailS l Z a0 hw zc vfm va kv ea eb ec ed wa wb wc wd ((vI p0)) ((vI p1)) ((vI p2)) ((vI p3)) ((vI 0)) ((vR a_271)) ((vI cc)) ((vI 1)) ((vI 7)) ((vI pp)) ((vR r_284)) (b287) (vs2_286) T_289.heap n0 (Nat.le_trans Z0 KP_289.1) Sx_289 hSt O_289 hx hby hml hret hlk hZ_271 hown_271 X_289 rfl N_289 hS_271 (Nat.le_trans hk_271 (Nat.le_trans le_284 (Nat.le_trans le_286 (Nat.le_trans le_287 le_289)))) C_289.1 CR_289 hh0 (by decide) (by decide)
    · skip
      show Go p e below _ (T_271.setTop (mkF m 58 #[vI p0, vI p1, vI p2, vI p3, vI 0, vR a_271, vI cc, vI 2, vU, vU, vU, vU] []))
      refine Go.step (fun _ k => XS.iload X_271.here hx rfl (hb hby at_58) rfl  k) ?_
      refine Go.step (fun _ k => XS.iconst X_271.here hx rfl (hb hby at_60) k) ?_
      show Go p e below _ (T_271.setTop (mkF m 61 #[vI p0, vI p1, vI p2, vI p3, vI 0, vR a_271, vI cc, vI 2, vU, vU, vU, vU] [(.int (4 : Int32)), (.int (2 : Int32))]))
      refine Go.step (fun _ k => XS.icmpYes X_271.here hx rfl (pc0 := 61) (pc' := 74) rfl (hb hby at_61) rfl (feq ((by decide) : ¬ ((2 : Int32) = (4 : Int32)))).2 (by decide) (by decide) k) ?_
      show Go p e below _ (T_271.setTop (mkF m 74 #[vI p0, vI p1, vI p2, vI p3, vI 0, vR a_271, vI cc, vI 2, vU, vU, vU, vU] []))
      refine Go.step (fun _ k => XS.iload X_271.here hx rfl (hb hby at_74) rfl  k) ?_
      refine Go.step (fun _ k => XS.iconst X_271.here hx rfl (hb hby at_76) k) ?_
      show Go p e below _ (T_271.setTop (mkF m 77 #[vI p0, vI p1, vI p2, vI p3, vI 0, vR a_271, vI cc, vI 2, vU, vU, vU, vU] [(.int (5 : Int32)), (.int (2 : Int32))]))
      refine Go.step (fun _ k => XS.icmpYes X_271.here hx rfl (pc0 := 77) (pc' := 105) rfl (hb hby at_77) rfl (feq ((by decide) : ¬ ((2 : Int32) = (5 : Int32)))).2 (by decide) (by decide) k) ?_
      show Go p e below _ (T_271.setTop (mkF m 105 #[vI p0, vI p1, vI p2, vI p3, vI 0, vR a_271, vI cc, vI 2, vU, vU, vU, vU] []))
      refine Go.step (fun _ k => XS.iload X_271.here hx rfl (hb hby at_105) rfl  k) ?_
      refine Go.step (fun _ k => XS.iconst X_271.here hx rfl (hb hby at_107) k) ?_
      show Go p e below _ (T_271.setTop (mkF m 108 #[vI p0, vI p1, vI p2, vI p3, vI 0, vR a_271, vI cc, vI 2, vU, vU, vU, vU] [(.int (2 : Int32)), (.int (2 : Int32))]))
      refine Go.step (fun _ k => XS.icmpNo X_271.here hx rfl (hb hby at_108) rfl (teq ((by decide) : (2 : Int32) = (2 : Int32))).2 k) ?_
      show Go p e below _ (T_271.setTop (mkF m 111 #[vI p0, vI p1, vI p2, vI p3, vI 0, vR a_271, vI cc, vI 2, vU, vU, vU, vU] []))
      refine Go.step (fun _ k => XS.aload X_271.here hx rfl (hb hby at_111) rfl rfl k) ?_
      show Go p e below _ (T_271.setTop (mkF m 113 #[vI p0, vI p1, vI p2, vI p3, vI 0, vR a_271, vI cc, vI 2, vU, vU, vU, vU] [(.ref a_271)]))
      have cp290 := Sx_271
      obtain ⟨t291, kb291, -, -, Ex291, Fv291, Fc291, Av291, hl291, hn291⟩ := cp290
      obtain ⟨v_292, T_292, L_292, X_292, hQ_292, st_292⟩ := goV X_271 hx hZ_271 (y := Y_11) (z := Y_11) (kc := 0) (ks := 0) (QQ := fun v h' L => v = some (.int (7 : Int32)) ∧ L = [] ∧ h' = h_271) hown_271 (wd_9 hw) (wd_10 hw) (notFace_of_selects (args := #[]) (mvT hZ_271 (wd_12 hw))) (wd_12 hw) (wd_11 hw) (by decide) (StrChars.Road.lenW (W := 0) hZ_271 (sw_wordsLen hw) (kI := 4) (wd_2 hw) Ex291 Fv291 Fc291 Av291 (StrChars.Road.codOf rfl (fun c hc => (hl291 c hc).2)) (up255 hl291) (S_cs.ext O_271.2) n_cs hn291 (by decide) (by decide)) e_271 Ex291 (g := (mkF m 113 #[vI p0, vI p1, vI p2, vI p3, vI 0, vR a_271, vI cc, vI 2, vU, vU, vU, vU] [(.ref a_271)])) rfl (by rw [hml]; rfl) (argsL := []) (rest := []) rfl (lenOf pd_10 rfl) rfl (by show 2 * 0 + _ ≤ _; exact Nat.le_of_eq rfl) (hb hby at_113) (by decide) (by decide)
      obtain ⟨rfl, rfl, e_292⟩ := hQ_292
      have N_292 := Fr.app N0 (Fr.nil n0)
      refine Go.step st_292 ?_
      show Go p e below _ (T_292.setTop (mkF m 116 #[vI p0, vI p1, vI p2, vI p3, vI 0, vR a_271, vI cc, vI 2, vU, vU, vU, vU] [(.int (7 : Int32))]))
      refine Go.step (fun _ k => XS.iconst X_292.here hx rfl (hb hby at_116) k) ?_
      show Go p e below _ (T_292.setTop (mkF m 117 #[vI p0, vI p1, vI p2, vI p3, vI 0, vR a_271, vI cc, vI 2, vU, vU, vU, vU] [(.int (1 : Int32)), (.int (7 : Int32))]))
      refine Go.step (fun _ k => XS.isub X_292.here hx rfl (hb hby at_117) rfl k) ?_
      show Go p e below _ (T_292.setTop (mkF m 118 #[vI p0, vI p1, vI p2, vI p3, vI 0, vR a_271, vI cc, vI 2, vU, vU, vU, vU] [(.int ((7 : Int32) - (1 : Int32)))]))
      refine own_top (congrArg Value.int (show ((7 : Int32) - (1 : Int32)) = (6 : Int32) from by decide)) ?_
      show Go p e below _ (T_292.setTop (mkF m 118 #[vI p0, vI p1, vI p2, vI p3, vI 0, vR a_271, vI cc, vI 2, vU, vU, vU, vU] [(.int (6 : Int32))]))
      refine Go.step (fun _ k => XS.goto X_292.here hx rfl (pc0 := 118) (pc' := 142) rfl (hb hby at_118) (by decide) (by decide) k) ?_
      show Go p e below _ (T_292.setTop (mkF m 142 #[vI p0, vI p1, vI p2, vI p3, vI 0, vR a_271, vI cc, vI 2, vU, vU, vU, vU] [(.int (6 : Int32))]))
      refine Go.step (fun _ k => XS.istore X_292.here hx rfl (hb hby at_142) rfl (l' := #[vI p0, vI p1, vI p2, vI p3, vI 0, vR a_271, vI cc, vI 2, vU, vI 6, vU, vU]) rfl k) ?_
      show Go p e below _ (T_292.setTop (mkF m 144 #[vI p0, vI p1, vI p2, vI p3, vI 0, vR a_271, vI cc, vI 2, vU, vI 6, vU, vU] []))
      refine Go.step (fun _ k => XS.iloadN X_292.here hx rfl (hb hby at_144) rfl  k) ?_
      show Go p e below _ (T_292.setTop (mkF m 145 #[vI p0, vI p1, vI p2, vI p3, vI 0, vR a_271, vI cc, vI 2, vU, vI 6, vU, vU] [(.int p2)]))
      refine Go.step (fun _ k => X_292.ldcInt hx hown_271 (mvT hZ_271 (wd_8 hw)) (g := (mkF m 145 #[vI p0, vI p1, vI p2, vI p3, vI 0, vR a_271, vI cc, vI 2, vU, vI 6, vU, vU] [(.int p2)])) rfl (hb hby at_145) _ k) ?_
      show Go p e below _ (T_292.setTop (mkF m 147 #[vI p0, vI p1, vI p2, vI p3, vI 0, vR a_271, vI cc, vI 2, vU, vI 6, vU, vU] [(.int (2147483647 : Int32)), (.int p2)]))
      refine Go.step (fun _ k => XS.iand X_292.here hx rfl (hb hby at_147) rfl k) ?_
      show Go p e below _ (T_292.setTop (mkF m 148 #[vI p0, vI p1, vI p2, vI p3, vI 0, vR a_271, vI cc, vI 2, vU, vI 6, vU, vU] [(.int (p2 &&& (2147483647 : Int32)))]))
      refine Go.step (fun _ k => XS.iload X_292.here hx rfl (hb hby at_148) rfl  k) ?_
      refine Go.step (fun _ k => XS.iconst X_292.here hx rfl (hb hby at_150) k) ?_
      show Go p e below _ (T_292.setTop (mkF m 151 #[vI p0, vI p1, vI p2, vI p3, vI 0, vR a_271, vI cc, vI 2, vU, vI 6, vU, vU] [(.int (2 : Int32)), (.int (2 : Int32)), (.int (p2 &&& (2147483647 : Int32)))]))
      refine Go.step (fun _ k => XS.icmpNo X_292.here hx rfl (hb hby at_151) rfl (teq ((by decide) : (2 : Int32) = (2 : Int32))).2 k) ?_
      show Go p e below _ (T_292.setTop (mkF m 154 #[vI p0, vI p1, vI p2, vI p3, vI 0, vR a_271, vI cc, vI 2, vU, vI 6, vU, vU] [(.int (p2 &&& (2147483647 : Int32)))]))
      refine Go.step (fun _ k => XS.aload X_292.here hx rfl (hb hby at_154) rfl rfl k) ?_
      show Go p e below _ (T_292.setTop (mkF m 156 #[vI p0, vI p1, vI p2, vI p3, vI 0, vR a_271, vI cc, vI 2, vU, vI 6, vU, vU] [(.ref a_271), (.int (p2 &&& (2147483647 : Int32)))]))
      have cp293 := Sx_271
      obtain ⟨t294, kb294, -, -, Ex294, Fv294, Fc294, Av294, hl294, hn294⟩ := cp293
      obtain ⟨v_295, T_295, L_295, X_295, hQ_295, st_295⟩ := goV X_292 hx hZ_271 (y := Y_11) (z := Y_11) (kc := 0) (ks := 0) (QQ := fun v h' L => v = some (.int (7 : Int32)) ∧ L = [] ∧ h' = h_271) hown_271 (wd_9 hw) (wd_10 hw) (notFace_of_selects (args := #[]) (mvT hZ_271 (wd_12 hw))) (wd_12 hw) (wd_11 hw) (by decide) (StrChars.Road.lenW (W := 1) hZ_271 (sw_wordsLen hw) (kI := 4) (wd_2 hw) Ex294 Fv294 Fc294 Av294 (StrChars.Road.codOf rfl (fun c hc => (hl294 c hc).2)) (up255 hl294) (S_cs.ext O_271.2) n_cs hn294 (by decide) (by decide)) e_292 Ex294 (g := (mkF m 156 #[vI p0, vI p1, vI p2, vI p3, vI 0, vR a_271, vI cc, vI 2, vU, vI 6, vU, vU] [(.ref a_271), (.int (p2 &&& (2147483647 : Int32)))])) rfl (by rw [hml]; rfl) (argsL := []) (rest := [(.int (p2 &&& (2147483647 : Int32)))]) rfl (lenOf pd_10 rfl) rfl (by show 2 * 0 + _ ≤ _; exact Nat.le_of_eq rfl) (hb hby at_156) (by decide) (by decide)
      obtain ⟨rfl, rfl, e_295⟩ := hQ_295
      have N_295 := Fr.app N_292 (Fr.nil n0)
      refine Go.step st_295 ?_
      show Go p e below _ (T_295.setTop (mkF m 159 #[vI p0, vI p1, vI p2, vI p3, vI 0, vR a_271, vI cc, vI 2, vU, vI 6, vU, vU] [(.int (7 : Int32)), (.int (p2 &&& (2147483647 : Int32)))]))
      refine Go.step (fun _ k => XS.goto X_295.here hx rfl (pc0 := 159) (pc' := 164) rfl (hb hby at_159) (by decide) (by decide) k) ?_
      show Go p e below _ (T_295.setTop (mkF m 164 #[vI p0, vI p1, vI p2, vI p3, vI 0, vR a_271, vI cc, vI 2, vU, vI 6, vU, vU] [(.int (7 : Int32)), (.int (p2 &&& (2147483647 : Int32)))]))
      refine Go.step (fun _ k => iremM X_295 hx rfl (hb hby at_164) rfl (by decide) k) ?_
      show Go p e below _ (T_295.setTop (mkF m 165 #[vI p0, vI p1, vI p2, vI p3, vI 0, vR a_271, vI cc, vI 2, vU, vI 6, vU, vU] [(.int ((p2 &&& (2147483647 : Int32)) % (7 : Int32)))]))
      refine Go.step (fun _ k => XS.istore X_295.here hx rfl (hb hby at_165) rfl (l' := #[vI p0, vI p1, vI p2, vI p3, vI 0, vR a_271, vI cc, vI 2, vU, vI 6, vI ((p2 &&& (2147483647 : Int32)) % (7 : Int32)), vU]) rfl k) ?_
      show Go p e below _ (T_295.setTop (mkF m 167 #[vI p0, vI p1, vI p2, vI p3, vI 0, vR a_271, vI cc, vI 2, vU, vI 6, vI ((p2 &&& (2147483647 : Int32)) % (7 : Int32)), vU] []))
      obtain ⟨pp, h_pp⟩ : ∃ z, z = ((p2 &&& (2147483647 : Int32)) % (7 : Int32)) := ⟨_, rfl⟩
      rw [← h_pp]
      show Go p e below _ (T_295.setTop (mkF m 167 #[vI p0, vI p1, vI p2, vI p3, vI 0, vR a_271, vI cc, vI 2, vU, vI 6, vI pp, vU] []))
      have h_p : 0 ≤ pp.toInt ∧ pp.toInt < 7 := by rw [h_pp]; exact rem7 _
      show Go p e below _ (T_295.setTop (mkF m 167 #[vI p0, vI p1, vI p2, vI p3, vI 0, vR a_271, vI cc, vI 2, vU, vI 6, vI pp, vU] []))
      refine Go.step (fun _ k => XS.iload X_295.here hx rfl (hb hby at_167) rfl  k) ?_
      show Go p e below _ (T_295.setTop (mkF m 169 #[vI p0, vI p1, vI p2, vI p3, vI 0, vR a_271, vI cc, vI 2, vU, vI 6, vI pp, vU] [(.int (6 : Int32))]))
      obtain ⟨v_296, T_296, L_296, X_296, hQ_296, st_296⟩ := goS X_295 hx hZ_271 (y := Y_12) hown_271 (wd_22 hw) (wd_23 hw) (wd_24 hw) (wd_25 hw) (by decide) (backOf (W := 0) (rm_make6 l Z a0 hw zc vfm va kv ea eb ec ed wa wb wc wd h_271 n0 (Nat.le_trans Z0 KP_271.1) hSt O_271) hZ_271 (wd_25 hw) (wd_24 hw) (by decide) (by decide)) e_295 (g := (mkF m 169 #[vI p0, vI p1, vI p2, vI p3, vI 0, vR a_271, vI cc, vI 2, vU, vI 6, vI pp, vU] [(.int (6 : Int32))])) rfl (by rw [hml]; rfl) (argsL := [(.int (6 : Int32))]) (rest := []) rfl (lenOf pd_11 rfl) rfl (by show 2 * 0 + _ ≤ _; exact Nat.le_of_eq rfl) (hb hby at_169) (by decide) (by decide)
      obtain ⟨r_296, kr_296, rfl, Nq_296, K_296, u0_296, u1_296⟩ := hQ_296
      have N_296 := Fr.app N_295 Nq_296
      have C_296 := CHr.keep K_296 sf0 C_271.1
      have CR_296 := CHr.trans CR_271 C_296
      have le_296 : h_271.size ≤ T_296.heap.size := K_296.1
      have KP_296 := KP_271.trans K_296 all0
      have O_296 := O_271.keep K_296 all0
      have sz_r_296 : h0.size ≤ r_296 := Nat.le_trans le_271 u0_296
      have g_r_296 : n0 ≤ r_296 := Nat.le_trans Z0 sz_r_296
      have Sf_r_296 := Safe.keep K_296 sf0 C_271.1 (Safe.new u0_296)
      refine Go.step st_296 ?_
      show Go p e below _ (T_296.setTop (mkF m 172 #[vI p0, vI p1, vI p2, vI p3, vI 0, vR a_271, vI cc, vI 2, vU, vI 6, vI pp, vU] [(.ref r_296)]))
      refine Go.step (fun _ k => XS.astore X_296.here hx rfl (hb hby at_172) rfl rfl (l' := #[vI p0, vI p1, vI p2, vI p3, vI 0, vR a_271, vI cc, vI 2, vU, vI 6, vI pp, vR r_296]) rfl k) ?_
      show Go p e below _ (T_296.setTop (mkF m 174 #[vI p0, vI p1, vI p2, vI p3, vI 0, vR a_271, vI cc, vI 2, vU, vI 6, vI pp, vR r_296] []))
      have f297 : Str Z h_271.size T_296.heap a_271 ([(112 : Int32), (101 : Int32), (110 : Int32), (100 : Int32), (105 : Int32), (110 : Int32), (103 : Int32)] : List Int32) := (Sx_271.keep K_296 all0)
      refine sg_puts l Z a0 hw zc vfm va kv ea eb ec ed wa wb wc wd (p0) (p1) (p2) (p3) ((0 : Int32)) ((6 : Int32)) (r_296) (kr_296) ((6 : Int32)) (([(0 : Int32), (0 : Int32), (0 : Int32), (0 : Int32), (0 : Int32), (0 : Int32)] : List Int32)) (a_271) (([(112 : Int32), (101 : Int32), (110 : Int32), (100 : Int32), (105 : Int32), (110 : Int32), (103 : Int32)] : List Int32)) ((2 : Int32)) (pp) (cc) (h_271.size) T_296.heap n0 (Nat.le_trans Z0 KP_296.1) u1_296 g_r_296 f297 (Nat.le_trans (Nat.le_refl _) u0_296) rfl (by decide) (by decide) (fun i1 a b => by have a2 : 0 ≤ i1.toInt := Int.not_lt.mp (fun q => a (Int32.lt_iff_toInt_lt.mpr q)); have b2 : i1.toInt < 6 := Int32.lt_iff_toInt_lt.mp b; have hp := h_p; exact ⟨by decide, a2, hp.1, by show _ ≤ ((7 : Nat) : Int); omega, fun q => absurd q (by decide), fun _ => by show _ < ((7 : Nat) : Int); omega, fun _ _ c => absurd rfl c⟩) l_c hSt O_296 hx hby hml hZ_271 hown_271 X_296 rfl N_296 (by decide) (by decide) ?_
      intro T_298 L_298 vs2_298 X_298 hQ_298
      obtain ⟨N_298, K_298, u0_298, u1_298⟩ := hQ_298
      have C_298 := CHr.keep K_298 (sfS (Safe.arv hZ_271.alike u1_296 (by decide)) sf0) C_296.1
      have CR_298 := CHr.trans CR_296 C_298
      have le_298 : T_296.heap.size ≤ T_298.heap.size := K_298.1
      have KP_298 := KP_296.trans K_298 (allS (Or.inr sz_r_296) all0)
      have O_298 := O_296.keep K_298 (allS g_r_296 all0)
      have hv2_298 := u1_298
      show Go p e below _ (T_298.setTop (mkF m 303 #[vI p0, vI p1, vI p2, vI p3, vI 0, vR a_271, vI cc, vI 2, vU, vI 6, vI pp, vR r_296] []))
      have hL_298 : vs2_298.length = 6 := hv2_298.1
      show Go p e below _ (T_298.setTop (mkF m 303 #[vI p0, vI p1, vI p2, vI p3, vI 0, vR a_271, vI cc, vI 2, vU, vI 6, vI pp, vR r_296] []))
      obtain ⟨T_299, h_299, X_299, e_299, E_299, A_299, D_299, Un_299, st_299⟩ := newO X_298 hx hZ_271 hown_271 (wd_55 hw) (wd_2 hw) (wd_1 hw) rfl (g := (mkF m 303 #[vI p0, vI p1, vI p2, vI p3, vI 0, vR a_271, vI cc, vI 2, vU, vI 6, vI pp, vR r_296] [])) rfl (hb hby at_303) (by decide) (by decide)
      obtain ⟨b299, q_299⟩ : ∃ z, z = T_298.heap.size := ⟨_, rfl⟩
      rw [← q_299] at A_299 D_299 Un_299 st_299
      refine Go.step st_299 ?_
      have C_299 := CHr.ext E_299 C_298.1
      have CR_299 := CHr.trans CR_298 C_299
      have le_299 : T_298.heap.size ≤ h_299.size := E_299.1
      have KP_299 := KP_298.ext E_299
      have O_299 := O_298.ext E_299
      have ge_299 : T_298.heap.size ≤ b299 := Nat.le_of_eq q_299.symm
      have sz_b299 : h0.size ≤ b299 := Nat.le_trans (Nat.le_trans le_271 (Nat.le_trans le_296 le_298)) ge_299
      have g_b299 : n0 ≤ b299 := Nat.le_trans Z0 sz_b299
      have F_299_4 : Fld Z h_299 b299 "java/lang/String" "value" "[B" .null := D_299 (Or.inr (wd_4 hw)) (ty := (.array .byte)) pf_0
      have F_299_5 : Fld Z h_299 b299 "java/lang/String" "coder" "B" (.int (0 : Int32)) := D_299 (Or.inr (wd_5 hw)) (ty := .byte) pf_1
      have Sf_b299 := Safe.ext E_299 C_298.1 (Safe.new ge_299)
      show Go p e below _ (T_299.setTop (mkF m 306 #[vI p0, vI p1, vI p2, vI p3, vI 0, vR a_271, vI cc, vI 2, vU, vI 6, vI pp, vR r_296] [(.ref b299)]))
      refine Go.step (fun _ k => XS.dup X_299.here hx rfl (hb hby at_306) rfl rfl k) ?_
      refine Go.step (fun _ k => XS.aload X_299.here hx rfl (hb hby at_307) rfl rfl k) ?_
      show Go p e below _ (T_299.setTop (mkF m 309 #[vI p0, vI p1, vI p2, vI p3, vI 0, vR a_271, vI cc, vI 2, vU, vI 6, vI pp, vR r_296] [(.ref r_296), (.ref b299), (.ref b299)]))
      have f300 : Arv Z h_299 r_296 kr_296 .char (6 : Int32) (vs2_298.map Value.int) (.int (0 : Int32)) := (u0_298.ext E_299)
      obtain ⟨v_301, T_301, L_301, X_301, hQ_301, st_301⟩ := goC X_299 hx hZ_271 (y := Y_13) hown_271 rfl (wd_56 hw) (wd_57 hw) (wd_58 hw) (by decide) (StrChars.Road.backV (W := 1) hZ_271 (sw_words hw) (kI := 4) (wd_2 hw) (cs := vs2_298) (bs := vs2_298.map (fun c => c.toInt8.toInt32)) (n := 6) g_b299 (Nat.le_trans Z0 KP_299.1) A_299 F_299_4 F_299_5 f300 (S_cs.ext O_299.2) n_cs hL_298 rfl (by decide) (by decide) hv2_298.2 rfl (by decide) (by decide)) e_299 (g := (mkF m 309 #[vI p0, vI p1, vI p2, vI p3, vI 0, vR a_271, vI cc, vI 2, vU, vI 6, vI pp, vR r_296] [(.ref r_296), (.ref b299), (.ref b299)])) rfl (by rw [hml]; rfl) (a := b299) (argsL := [(.ref r_296)]) (rest := [(.ref b299)]) rfl (lenOf pd_12 rfl) rfl (by show 2 * 0 + _ ≤ _; exact Nat.le_of_eq rfl) (hb hby at_309) (by decide) (by decide)
      obtain ⟨rfl, Nq_301, K_301, Ex_301, Fc_301, t_301, kb_301, -, gt_301, -, Fv_301, Av_301⟩ := hQ_301
      have N_301 := Fr.app N_298 Nq_301
      have C_301 := CHr.keep K_301 (sfS Sf_b299 sf0) C_299.1
      have CR_301 := CHr.trans CR_299 C_301
      have le_301 : h_299.size ≤ T_301.heap.size := K_301.1
      have KP_301 := KP_299.trans K_301 (allS (Or.inr sz_b299) all0)
      have O_301 := O_299.keep K_301 (allS g_b299 all0)
      have Sx_301 : Str Z (T_301.heap).size (T_301.heap) b299 vs2_298 := ⟨t_301, kb_301, Ex_301.lt, Av_301.lt, Ex_301, Fv_301, Fc_301, by rw [show vs2_298.length = 6 from hL_298]; exact Av_301, hv2_298.2, by rw [show vs2_298.length = 6 from hL_298]; decide⟩
      refine Go.step st_301 ?_
      show Go p e below _ (T_301.setTop (mkF m 312 #[vI p0, vI p1, vI p2, vI p3, vI 0, vR a_271, vI cc, vI 2, vU, vI 6, vI pp, vR r_296] [(.ref b299)]))
      refine Go.step (fun _ k => XS.astore X_301.here hx rfl (hb hby at_312) rfl rfl (l' := #[vI p0, vI p1, vI p2, vI p3, vI 0, vR a_271, vI cc, vI 2, vR b299, vI 6, vI pp, vR r_296]) rfl k) ?_
      show Go p e below _ (T_301.setTop (mkF m 314 #[vI p0, vI p1, vI p2, vI p3, vI 0, vR a_271, vI cc, vI 2, vR b299, vI 6, vI pp, vR r_296] []))
      exact tg_tailS l Z a0 hw zc vfm va kv ea eb ec ed wa wb wc wd ((vI p0)) ((vI p1)) ((vI p2)) ((vI p3)) ((vI 0)) ((vR a_271)) ((vI cc)) ((vI 2)) ((vI 6)) ((vI pp)) ((vR r_296)) (b299) (vs2_298) T_301.heap n0 (Nat.le_trans Z0 KP_301.1) Sx_301 hSt O_301 hx hby hml hret hlk hZ_271 hown_271 X_301 rfl N_301 hS_271 (Nat.le_trans hk_271 (Nat.le_trans le_296 (Nat.le_trans le_298 (Nat.le_trans le_299 le_301)))) C_301.1 CR_301 hh0 (by decide) (by decide)
    · skip
      show Go p e below _ (T_271.setTop (mkF m 58 #[vI p0, vI p1, vI p2, vI p3, vI 0, vR a_271, vI cc, vI 3, vU, vU, vU, vU] []))
      refine Go.step (fun _ k => XS.iload X_271.here hx rfl (hb hby at_58) rfl  k) ?_
      refine Go.step (fun _ k => XS.iconst X_271.here hx rfl (hb hby at_60) k) ?_
      show Go p e below _ (T_271.setTop (mkF m 61 #[vI p0, vI p1, vI p2, vI p3, vI 0, vR a_271, vI cc, vI 3, vU, vU, vU, vU] [(.int (4 : Int32)), (.int (3 : Int32))]))
      refine Go.step (fun _ k => XS.icmpYes X_271.here hx rfl (pc0 := 61) (pc' := 74) rfl (hb hby at_61) rfl (feq ((by decide) : ¬ ((3 : Int32) = (4 : Int32)))).2 (by decide) (by decide) k) ?_
      show Go p e below _ (T_271.setTop (mkF m 74 #[vI p0, vI p1, vI p2, vI p3, vI 0, vR a_271, vI cc, vI 3, vU, vU, vU, vU] []))
      refine Go.step (fun _ k => XS.iload X_271.here hx rfl (hb hby at_74) rfl  k) ?_
      refine Go.step (fun _ k => XS.iconst X_271.here hx rfl (hb hby at_76) k) ?_
      show Go p e below _ (T_271.setTop (mkF m 77 #[vI p0, vI p1, vI p2, vI p3, vI 0, vR a_271, vI cc, vI 3, vU, vU, vU, vU] [(.int (5 : Int32)), (.int (3 : Int32))]))
      refine Go.step (fun _ k => XS.icmpYes X_271.here hx rfl (pc0 := 77) (pc' := 105) rfl (hb hby at_77) rfl (feq ((by decide) : ¬ ((3 : Int32) = (5 : Int32)))).2 (by decide) (by decide) k) ?_
      show Go p e below _ (T_271.setTop (mkF m 105 #[vI p0, vI p1, vI p2, vI p3, vI 0, vR a_271, vI cc, vI 3, vU, vU, vU, vU] []))
      refine Go.step (fun _ k => XS.iload X_271.here hx rfl (hb hby at_105) rfl  k) ?_
      refine Go.step (fun _ k => XS.iconst X_271.here hx rfl (hb hby at_107) k) ?_
      show Go p e below _ (T_271.setTop (mkF m 108 #[vI p0, vI p1, vI p2, vI p3, vI 0, vR a_271, vI cc, vI 3, vU, vU, vU, vU] [(.int (2 : Int32)), (.int (3 : Int32))]))
      refine Go.step (fun _ k => XS.icmpYes X_271.here hx rfl (pc0 := 108) (pc' := 121) rfl (hb hby at_108) rfl (feq ((by decide) : ¬ ((3 : Int32) = (2 : Int32)))).2 (by decide) (by decide) k) ?_
      show Go p e below _ (T_271.setTop (mkF m 121 #[vI p0, vI p1, vI p2, vI p3, vI 0, vR a_271, vI cc, vI 3, vU, vU, vU, vU] []))
      refine Go.step (fun _ k => XS.iload X_271.here hx rfl (hb hby at_121) rfl  k) ?_
      refine Go.step (fun _ k => XS.iconst X_271.here hx rfl (hb hby at_123) k) ?_
      show Go p e below _ (T_271.setTop (mkF m 124 #[vI p0, vI p1, vI p2, vI p3, vI 0, vR a_271, vI cc, vI 3, vU, vU, vU, vU] [(.int (3 : Int32)), (.int (3 : Int32))]))
      refine Go.step (fun _ k => XS.icmpNo X_271.here hx rfl (hb hby at_124) rfl (teq ((by decide) : (3 : Int32) = (3 : Int32))).2 k) ?_
      show Go p e below _ (T_271.setTop (mkF m 127 #[vI p0, vI p1, vI p2, vI p3, vI 0, vR a_271, vI cc, vI 3, vU, vU, vU, vU] []))
      refine Go.step (fun _ k => XS.aload X_271.here hx rfl (hb hby at_127) rfl rfl k) ?_
      show Go p e below _ (T_271.setTop (mkF m 129 #[vI p0, vI p1, vI p2, vI p3, vI 0, vR a_271, vI cc, vI 3, vU, vU, vU, vU] [(.ref a_271)]))
      have cp302 := Sx_271
      obtain ⟨t303, kb303, -, -, Ex303, Fv303, Fc303, Av303, hl303, hn303⟩ := cp302
      obtain ⟨v_304, T_304, L_304, X_304, hQ_304, st_304⟩ := goV X_271 hx hZ_271 (y := Y_11) (z := Y_11) (kc := 0) (ks := 0) (QQ := fun v h' L => v = some (.int (7 : Int32)) ∧ L = [] ∧ h' = h_271) hown_271 (wd_9 hw) (wd_10 hw) (notFace_of_selects (args := #[]) (mvT hZ_271 (wd_12 hw))) (wd_12 hw) (wd_11 hw) (by decide) (StrChars.Road.lenW (W := 0) hZ_271 (sw_wordsLen hw) (kI := 4) (wd_2 hw) Ex303 Fv303 Fc303 Av303 (StrChars.Road.codOf rfl (fun c hc => (hl303 c hc).2)) (up255 hl303) (S_cs.ext O_271.2) n_cs hn303 (by decide) (by decide)) e_271 Ex303 (g := (mkF m 129 #[vI p0, vI p1, vI p2, vI p3, vI 0, vR a_271, vI cc, vI 3, vU, vU, vU, vU] [(.ref a_271)])) rfl (by rw [hml]; rfl) (argsL := []) (rest := []) rfl (lenOf pd_10 rfl) rfl (by show 2 * 0 + _ ≤ _; exact Nat.le_of_eq rfl) (hb hby at_129) (by decide) (by decide)
      obtain ⟨rfl, rfl, e_304⟩ := hQ_304
      have N_304 := Fr.app N0 (Fr.nil n0)
      refine Go.step st_304 ?_
      show Go p e below _ (T_304.setTop (mkF m 132 #[vI p0, vI p1, vI p2, vI p3, vI 0, vR a_271, vI cc, vI 3, vU, vU, vU, vU] [(.int (7 : Int32))]))
      refine Go.step (fun _ k => XS.iconst X_304.here hx rfl (hb hby at_132) k) ?_
      show Go p e below _ (T_304.setTop (mkF m 133 #[vI p0, vI p1, vI p2, vI p3, vI 0, vR a_271, vI cc, vI 3, vU, vU, vU, vU] [(.int (1 : Int32)), (.int (7 : Int32))]))
      refine Go.step (fun _ k => XS.iadd X_304.here hx rfl (hb hby at_133) rfl k) ?_
      show Go p e below _ (T_304.setTop (mkF m 134 #[vI p0, vI p1, vI p2, vI p3, vI 0, vR a_271, vI cc, vI 3, vU, vU, vU, vU] [(.int ((7 : Int32) + (1 : Int32)))]))
      refine own_top (congrArg Value.int (show ((7 : Int32) + (1 : Int32)) = (8 : Int32) from by decide)) ?_
      show Go p e below _ (T_304.setTop (mkF m 134 #[vI p0, vI p1, vI p2, vI p3, vI 0, vR a_271, vI cc, vI 3, vU, vU, vU, vU] [(.int (8 : Int32))]))
      refine Go.step (fun _ k => XS.goto X_304.here hx rfl (pc0 := 134) (pc' := 142) rfl (hb hby at_134) (by decide) (by decide) k) ?_
      show Go p e below _ (T_304.setTop (mkF m 142 #[vI p0, vI p1, vI p2, vI p3, vI 0, vR a_271, vI cc, vI 3, vU, vU, vU, vU] [(.int (8 : Int32))]))
      refine Go.step (fun _ k => XS.istore X_304.here hx rfl (hb hby at_142) rfl (l' := #[vI p0, vI p1, vI p2, vI p3, vI 0, vR a_271, vI cc, vI 3, vU, vI 8, vU, vU]) rfl k) ?_
      show Go p e below _ (T_304.setTop (mkF m 144 #[vI p0, vI p1, vI p2, vI p3, vI 0, vR a_271, vI cc, vI 3, vU, vI 8, vU, vU] []))
      refine Go.step (fun _ k => XS.iloadN X_304.here hx rfl (hb hby at_144) rfl  k) ?_
      show Go p e below _ (T_304.setTop (mkF m 145 #[vI p0, vI p1, vI p2, vI p3, vI 0, vR a_271, vI cc, vI 3, vU, vI 8, vU, vU] [(.int p2)]))
      refine Go.step (fun _ k => X_304.ldcInt hx hown_271 (mvT hZ_271 (wd_8 hw)) (g := (mkF m 145 #[vI p0, vI p1, vI p2, vI p3, vI 0, vR a_271, vI cc, vI 3, vU, vI 8, vU, vU] [(.int p2)])) rfl (hb hby at_145) _ k) ?_
      show Go p e below _ (T_304.setTop (mkF m 147 #[vI p0, vI p1, vI p2, vI p3, vI 0, vR a_271, vI cc, vI 3, vU, vI 8, vU, vU] [(.int (2147483647 : Int32)), (.int p2)]))
      refine Go.step (fun _ k => XS.iand X_304.here hx rfl (hb hby at_147) rfl k) ?_
      show Go p e below _ (T_304.setTop (mkF m 148 #[vI p0, vI p1, vI p2, vI p3, vI 0, vR a_271, vI cc, vI 3, vU, vI 8, vU, vU] [(.int (p2 &&& (2147483647 : Int32)))]))
      refine Go.step (fun _ k => XS.iload X_304.here hx rfl (hb hby at_148) rfl  k) ?_
      refine Go.step (fun _ k => XS.iconst X_304.here hx rfl (hb hby at_150) k) ?_
      show Go p e below _ (T_304.setTop (mkF m 151 #[vI p0, vI p1, vI p2, vI p3, vI 0, vR a_271, vI cc, vI 3, vU, vI 8, vU, vU] [(.int (2 : Int32)), (.int (3 : Int32)), (.int (p2 &&& (2147483647 : Int32)))]))
      refine Go.step (fun _ k => XS.icmpYes X_304.here hx rfl (pc0 := 151) (pc' := 162) rfl (hb hby at_151) rfl (feq ((by decide) : ¬ ((3 : Int32) = (2 : Int32)))).2 (by decide) (by decide) k) ?_
      show Go p e below _ (T_304.setTop (mkF m 162 #[vI p0, vI p1, vI p2, vI p3, vI 0, vR a_271, vI cc, vI 3, vU, vI 8, vU, vU] [(.int (p2 &&& (2147483647 : Int32)))]))
      refine Go.step (fun _ k => XS.iload X_304.here hx rfl (hb hby at_162) rfl  k) ?_
      show Go p e below _ (T_304.setTop (mkF m 164 #[vI p0, vI p1, vI p2, vI p3, vI 0, vR a_271, vI cc, vI 3, vU, vI 8, vU, vU] [(.int (8 : Int32)), (.int (p2 &&& (2147483647 : Int32)))]))
      refine Go.step (fun _ k => iremM X_304 hx rfl (hb hby at_164) rfl (by decide) k) ?_
      show Go p e below _ (T_304.setTop (mkF m 165 #[vI p0, vI p1, vI p2, vI p3, vI 0, vR a_271, vI cc, vI 3, vU, vI 8, vU, vU] [(.int ((p2 &&& (2147483647 : Int32)) % (8 : Int32)))]))
      refine Go.step (fun _ k => XS.istore X_304.here hx rfl (hb hby at_165) rfl (l' := #[vI p0, vI p1, vI p2, vI p3, vI 0, vR a_271, vI cc, vI 3, vU, vI 8, vI ((p2 &&& (2147483647 : Int32)) % (8 : Int32)), vU]) rfl k) ?_
      show Go p e below _ (T_304.setTop (mkF m 167 #[vI p0, vI p1, vI p2, vI p3, vI 0, vR a_271, vI cc, vI 3, vU, vI 8, vI ((p2 &&& (2147483647 : Int32)) % (8 : Int32)), vU] []))
      obtain ⟨pp, h_pp⟩ : ∃ z, z = ((p2 &&& (2147483647 : Int32)) % (8 : Int32)) := ⟨_, rfl⟩
      rw [← h_pp]
      show Go p e below _ (T_304.setTop (mkF m 167 #[vI p0, vI p1, vI p2, vI p3, vI 0, vR a_271, vI cc, vI 3, vU, vI 8, vI pp, vU] []))
      have h_p : 0 ≤ pp.toInt ∧ pp.toInt < 8 := by rw [h_pp]; exact rem8 _
      show Go p e below _ (T_304.setTop (mkF m 167 #[vI p0, vI p1, vI p2, vI p3, vI 0, vR a_271, vI cc, vI 3, vU, vI 8, vI pp, vU] []))
      refine Go.step (fun _ k => XS.iload X_304.here hx rfl (hb hby at_167) rfl  k) ?_
      show Go p e below _ (T_304.setTop (mkF m 169 #[vI p0, vI p1, vI p2, vI p3, vI 0, vR a_271, vI cc, vI 3, vU, vI 8, vI pp, vU] [(.int (8 : Int32))]))
      obtain ⟨v_305, T_305, L_305, X_305, hQ_305, st_305⟩ := goS X_304 hx hZ_271 (y := Y_12) hown_271 (wd_22 hw) (wd_23 hw) (wd_24 hw) (wd_25 hw) (by decide) (backOf (W := 0) (rm_make8 l Z a0 hw zc vfm va kv ea eb ec ed wa wb wc wd h_271 n0 (Nat.le_trans Z0 KP_271.1) hSt O_271) hZ_271 (wd_25 hw) (wd_24 hw) (by decide) (by decide)) e_304 (g := (mkF m 169 #[vI p0, vI p1, vI p2, vI p3, vI 0, vR a_271, vI cc, vI 3, vU, vI 8, vI pp, vU] [(.int (8 : Int32))])) rfl (by rw [hml]; rfl) (argsL := [(.int (8 : Int32))]) (rest := []) rfl (lenOf pd_11 rfl) rfl (by show 2 * 0 + _ ≤ _; exact Nat.le_of_eq rfl) (hb hby at_169) (by decide) (by decide)
      obtain ⟨r_305, kr_305, rfl, Nq_305, K_305, u0_305, u1_305⟩ := hQ_305
      have N_305 := Fr.app N_304 Nq_305
      have C_305 := CHr.keep K_305 sf0 C_271.1
      have CR_305 := CHr.trans CR_271 C_305
      have le_305 : h_271.size ≤ T_305.heap.size := K_305.1
      have KP_305 := KP_271.trans K_305 all0
      have O_305 := O_271.keep K_305 all0
      have sz_r_305 : h0.size ≤ r_305 := Nat.le_trans le_271 u0_305
      have g_r_305 : n0 ≤ r_305 := Nat.le_trans Z0 sz_r_305
      have Sf_r_305 := Safe.keep K_305 sf0 C_271.1 (Safe.new u0_305)
      refine Go.step st_305 ?_
      show Go p e below _ (T_305.setTop (mkF m 172 #[vI p0, vI p1, vI p2, vI p3, vI 0, vR a_271, vI cc, vI 3, vU, vI 8, vI pp, vU] [(.ref r_305)]))
      refine Go.step (fun _ k => XS.astore X_305.here hx rfl (hb hby at_172) rfl rfl (l' := #[vI p0, vI p1, vI p2, vI p3, vI 0, vR a_271, vI cc, vI 3, vU, vI 8, vI pp, vR r_305]) rfl k) ?_
      show Go p e below _ (T_305.setTop (mkF m 174 #[vI p0, vI p1, vI p2, vI p3, vI 0, vR a_271, vI cc, vI 3, vU, vI 8, vI pp, vR r_305] []))
      have f306 : Str Z h_271.size T_305.heap a_271 ([(112 : Int32), (101 : Int32), (110 : Int32), (100 : Int32), (105 : Int32), (110 : Int32), (103 : Int32)] : List Int32) := (Sx_271.keep K_305 all0)
      refine sg_puts l Z a0 hw zc vfm va kv ea eb ec ed wa wb wc wd (p0) (p1) (p2) (p3) ((0 : Int32)) ((8 : Int32)) (r_305) (kr_305) ((8 : Int32)) (([(0 : Int32), (0 : Int32), (0 : Int32), (0 : Int32), (0 : Int32), (0 : Int32), (0 : Int32), (0 : Int32)] : List Int32)) (a_271) (([(112 : Int32), (101 : Int32), (110 : Int32), (100 : Int32), (105 : Int32), (110 : Int32), (103 : Int32)] : List Int32)) ((3 : Int32)) (pp) (cc) (h_271.size) T_305.heap n0 (Nat.le_trans Z0 KP_305.1) u1_305 g_r_305 f306 (Nat.le_trans (Nat.le_refl _) u0_305) rfl (by decide) (by decide) (fun i1 a b => by have a2 : 0 ≤ i1.toInt := Int.not_lt.mp (fun q => a (Int32.lt_iff_toInt_lt.mpr q)); have b2 : i1.toInt < 8 := Int32.lt_iff_toInt_lt.mp b; have hp := h_p; exact ⟨by decide, a2, hp.1, by show _ ≤ ((7 : Nat) : Int); omega, fun q => absurd q (by decide), fun q => absurd q (by decide), fun _ _ _ => by show _ ≤ ((7 : Nat) : Int); omega⟩) l_c hSt O_305 hx hby hml hZ_271 hown_271 X_305 rfl N_305 (by decide) (by decide) ?_
      intro T_307 L_307 vs2_307 X_307 hQ_307
      obtain ⟨N_307, K_307, u0_307, u1_307⟩ := hQ_307
      have C_307 := CHr.keep K_307 (sfS (Safe.arv hZ_271.alike u1_305 (by decide)) sf0) C_305.1
      have CR_307 := CHr.trans CR_305 C_307
      have le_307 : T_305.heap.size ≤ T_307.heap.size := K_307.1
      have KP_307 := KP_305.trans K_307 (allS (Or.inr sz_r_305) all0)
      have O_307 := O_305.keep K_307 (allS g_r_305 all0)
      have hv2_307 := u1_307
      show Go p e below _ (T_307.setTop (mkF m 303 #[vI p0, vI p1, vI p2, vI p3, vI 0, vR a_271, vI cc, vI 3, vU, vI 8, vI pp, vR r_305] []))
      have hL_307 : vs2_307.length = 8 := hv2_307.1
      show Go p e below _ (T_307.setTop (mkF m 303 #[vI p0, vI p1, vI p2, vI p3, vI 0, vR a_271, vI cc, vI 3, vU, vI 8, vI pp, vR r_305] []))
      obtain ⟨T_308, h_308, X_308, e_308, E_308, A_308, D_308, Un_308, st_308⟩ := newO X_307 hx hZ_271 hown_271 (wd_55 hw) (wd_2 hw) (wd_1 hw) rfl (g := (mkF m 303 #[vI p0, vI p1, vI p2, vI p3, vI 0, vR a_271, vI cc, vI 3, vU, vI 8, vI pp, vR r_305] [])) rfl (hb hby at_303) (by decide) (by decide)
      obtain ⟨b308, q_308⟩ : ∃ z, z = T_307.heap.size := ⟨_, rfl⟩
      rw [← q_308] at A_308 D_308 Un_308 st_308
      refine Go.step st_308 ?_
      have C_308 := CHr.ext E_308 C_307.1
      have CR_308 := CHr.trans CR_307 C_308
      have le_308 : T_307.heap.size ≤ h_308.size := E_308.1
      have KP_308 := KP_307.ext E_308
      have O_308 := O_307.ext E_308
      have ge_308 : T_307.heap.size ≤ b308 := Nat.le_of_eq q_308.symm
      have sz_b308 : h0.size ≤ b308 := Nat.le_trans (Nat.le_trans le_271 (Nat.le_trans le_305 le_307)) ge_308
      have g_b308 : n0 ≤ b308 := Nat.le_trans Z0 sz_b308
      have F_308_4 : Fld Z h_308 b308 "java/lang/String" "value" "[B" .null := D_308 (Or.inr (wd_4 hw)) (ty := (.array .byte)) pf_0
      have F_308_5 : Fld Z h_308 b308 "java/lang/String" "coder" "B" (.int (0 : Int32)) := D_308 (Or.inr (wd_5 hw)) (ty := .byte) pf_1
      have Sf_b308 := Safe.ext E_308 C_307.1 (Safe.new ge_308)
      show Go p e below _ (T_308.setTop (mkF m 306 #[vI p0, vI p1, vI p2, vI p3, vI 0, vR a_271, vI cc, vI 3, vU, vI 8, vI pp, vR r_305] [(.ref b308)]))
      refine Go.step (fun _ k => XS.dup X_308.here hx rfl (hb hby at_306) rfl rfl k) ?_
      refine Go.step (fun _ k => XS.aload X_308.here hx rfl (hb hby at_307) rfl rfl k) ?_
      show Go p e below _ (T_308.setTop (mkF m 309 #[vI p0, vI p1, vI p2, vI p3, vI 0, vR a_271, vI cc, vI 3, vU, vI 8, vI pp, vR r_305] [(.ref r_305), (.ref b308), (.ref b308)]))
      have f309 : Arv Z h_308 r_305 kr_305 .char (8 : Int32) (vs2_307.map Value.int) (.int (0 : Int32)) := (u0_307.ext E_308)
      obtain ⟨v_310, T_310, L_310, X_310, hQ_310, st_310⟩ := goC X_308 hx hZ_271 (y := Y_13) hown_271 rfl (wd_56 hw) (wd_57 hw) (wd_58 hw) (by decide) (StrChars.Road.backV (W := 1) hZ_271 (sw_words hw) (kI := 4) (wd_2 hw) (cs := vs2_307) (bs := vs2_307.map (fun c => c.toInt8.toInt32)) (n := 8) g_b308 (Nat.le_trans Z0 KP_308.1) A_308 F_308_4 F_308_5 f309 (S_cs.ext O_308.2) n_cs hL_307 rfl (by decide) (by decide) hv2_307.2 rfl (by decide) (by decide)) e_308 (g := (mkF m 309 #[vI p0, vI p1, vI p2, vI p3, vI 0, vR a_271, vI cc, vI 3, vU, vI 8, vI pp, vR r_305] [(.ref r_305), (.ref b308), (.ref b308)])) rfl (by rw [hml]; rfl) (a := b308) (argsL := [(.ref r_305)]) (rest := [(.ref b308)]) rfl (lenOf pd_12 rfl) rfl (by show 2 * 0 + _ ≤ _; exact Nat.le_of_eq rfl) (hb hby at_309) (by decide) (by decide)
      obtain ⟨rfl, Nq_310, K_310, Ex_310, Fc_310, t_310, kb_310, -, gt_310, -, Fv_310, Av_310⟩ := hQ_310
      have N_310 := Fr.app N_307 Nq_310
      have C_310 := CHr.keep K_310 (sfS Sf_b308 sf0) C_308.1
      have CR_310 := CHr.trans CR_308 C_310
      have le_310 : h_308.size ≤ T_310.heap.size := K_310.1
      have KP_310 := KP_308.trans K_310 (allS (Or.inr sz_b308) all0)
      have O_310 := O_308.keep K_310 (allS g_b308 all0)
      have Sx_310 : Str Z (T_310.heap).size (T_310.heap) b308 vs2_307 := ⟨t_310, kb_310, Ex_310.lt, Av_310.lt, Ex_310, Fv_310, Fc_310, by rw [show vs2_307.length = 8 from hL_307]; exact Av_310, hv2_307.2, by rw [show vs2_307.length = 8 from hL_307]; decide⟩
      refine Go.step st_310 ?_
      show Go p e below _ (T_310.setTop (mkF m 312 #[vI p0, vI p1, vI p2, vI p3, vI 0, vR a_271, vI cc, vI 3, vU, vI 8, vI pp, vR r_305] [(.ref b308)]))
      refine Go.step (fun _ k => XS.astore X_310.here hx rfl (hb hby at_312) rfl rfl (l' := #[vI p0, vI p1, vI p2, vI p3, vI 0, vR a_271, vI cc, vI 3, vR b308, vI 8, vI pp, vR r_305]) rfl k) ?_
      show Go p e below _ (T_310.setTop (mkF m 314 #[vI p0, vI p1, vI p2, vI p3, vI 0, vR a_271, vI cc, vI 3, vR b308, vI 8, vI pp, vR r_305] []))
      exact tg_tailS l Z a0 hw zc vfm va kv ea eb ec ed wa wb wc wd ((vI p0)) ((vI p1)) ((vI p2)) ((vI p3)) ((vI 0)) ((vR a_271)) ((vI cc)) ((vI 3)) ((vI 8)) ((vI pp)) ((vR r_305)) (b308) (vs2_307) T_310.heap n0 (Nat.le_trans Z0 KP_310.1) Sx_310 hSt O_310 hx hby hml hret hlk hZ_271 hown_271 X_310 rfl N_310 hS_271 (Nat.le_trans hk_271 (Nat.le_trans le_305 (Nat.le_trans le_307 (Nat.le_trans le_308 le_310)))) C_310.1 CR_310 hh0 (by decide) (by decide)
    · skip
      show Go p e below _ (T_271.setTop (mkF m 58 #[vI p0, vI p1, vI p2, vI p3, vI 0, vR a_271, vI cc, vI 4, vU, vU, vU, vU] []))
      refine Go.step (fun _ k => XS.iload X_271.here hx rfl (hb hby at_58) rfl  k) ?_
      refine Go.step (fun _ k => XS.iconst X_271.here hx rfl (hb hby at_60) k) ?_
      show Go p e below _ (T_271.setTop (mkF m 61 #[vI p0, vI p1, vI p2, vI p3, vI 0, vR a_271, vI cc, vI 4, vU, vU, vU, vU] [(.int (4 : Int32)), (.int (4 : Int32))]))
      refine Go.step (fun _ k => XS.icmpNo X_271.here hx rfl (hb hby at_61) rfl (teq ((by decide) : (4 : Int32) = (4 : Int32))).2 k) ?_
      show Go p e below _ (T_271.setTop (mkF m 64 #[vI p0, vI p1, vI p2, vI p3, vI 0, vR a_271, vI cc, vI 4, vU, vU, vU, vU] []))
      refine Go.step (fun _ k => XS.iload X_271.here hx rfl (hb hby at_64) rfl  k) ?_
      show Go p e below _ (T_271.setTop (mkF m 66 #[vI p0, vI p1, vI p2, vI p3, vI 0, vR a_271, vI cc, vI 4, vU, vU, vU, vU] [(.int cc)]))
      obtain ⟨v_311, T_311, L_311, X_311, hQ_311, st_311⟩ := goS X_271 hx hZ_271 (y := Y_14) hown_271 (wd_117 hw) (wd_118 hw) (wd_1 hw) (wd_119 hw) (by decide) (backOf (W := 0) (rm_valueOf l Z a0 hw zc vfm va kv ea eb ec ed wa wb wc wd (cc) h_271 n0 (Nat.le_trans Z0 KP_271.1) l_c hSt O_271) hZ_271 (wd_119 hw) (wd_1 hw) (by decide) (by decide)) e_271 (g := (mkF m 66 #[vI p0, vI p1, vI p2, vI p3, vI 0, vR a_271, vI cc, vI 4, vU, vU, vU, vU] [(.int cc)])) rfl (by rw [hml]; rfl) (argsL := [(.int cc)]) (rest := []) rfl (lenOf pd_13 rfl) rfl (by show 2 * 0 + _ ≤ _; exact Nat.le_of_eq rfl) (hb hby at_66) (by decide) (by decide)
      obtain ⟨r_311, rfl, Nq_311, K_311, u0_311, u1_311⟩ := hQ_311
      have N_311 := Fr.app N0 Nq_311
      have C_311 := CHr.keep K_311 sf0 C_271.1
      have CR_311 := CHr.trans CR_271 C_311
      have le_311 : h_271.size ≤ T_311.heap.size := K_311.1
      have KP_311 := KP_271.trans K_311 all0
      have O_311 := O_271.keep K_311 all0
      have sz_r_311 : h0.size ≤ r_311 := Nat.le_trans le_271 u0_311
      have g_r_311 : n0 ≤ r_311 := Nat.le_trans Z0 sz_r_311
      have Sf_r_311 := Safe.keep K_311 sf0 C_271.1 (Safe.new u0_311)
      refine Go.step st_311 ?_
      show Go p e below _ (T_311.setTop (mkF m 69 #[vI p0, vI p1, vI p2, vI p3, vI 0, vR a_271, vI cc, vI 4, vU, vU, vU, vU] [(.ref r_311)]))
      refine Go.step (fun _ k => XS.astore X_311.here hx rfl (hb hby at_69) rfl rfl (l' := #[vI p0, vI p1, vI p2, vI p3, vI 0, vR a_271, vI cc, vI 4, vR r_311, vU, vU, vU]) rfl k) ?_
      show Go p e below _ (T_311.setTop (mkF m 71 #[vI p0, vI p1, vI p2, vI p3, vI 0, vR a_271, vI cc, vI 4, vR r_311, vU, vU, vU] []))
      refine Go.step (fun _ k => XS.goto X_311.here hx rfl (pc0 := 71) (pc' := 314) rfl (hb hby at_71) (by decide) (by decide) k) ?_
      show Go p e below _ (T_311.setTop (mkF m 314 #[vI p0, vI p1, vI p2, vI p3, vI 0, vR a_271, vI cc, vI 4, vR r_311, vU, vU, vU] []))
      exact tg_tailS l Z a0 hw zc vfm va kv ea eb ec ed wa wb wc wd ((vI p0)) ((vI p1)) ((vI p2)) ((vI p3)) ((vI 0)) ((vR a_271)) ((vI cc)) ((vI 4)) ((vU)) ((vU)) ((vU)) (r_311) (([cc] : List Int32)) T_311.heap n0 (Nat.le_trans Z0 KP_311.1) u1_311 hSt O_311 hx hby hml hret hlk hZ_271 hown_271 X_311 rfl N_311 hS_271 (Nat.le_trans hk_271 le_311) C_311.1 CR_311 hh0 (by decide) (by decide)
    · skip
      show Go p e below _ (T_271.setTop (mkF m 58 #[vI p0, vI p1, vI p2, vI p3, vI 0, vR a_271, vI cc, vI 5, vU, vU, vU, vU] []))
      refine Go.step (fun _ k => XS.iload X_271.here hx rfl (hb hby at_58) rfl  k) ?_
      refine Go.step (fun _ k => XS.iconst X_271.here hx rfl (hb hby at_60) k) ?_
      show Go p e below _ (T_271.setTop (mkF m 61 #[vI p0, vI p1, vI p2, vI p3, vI 0, vR a_271, vI cc, vI 5, vU, vU, vU, vU] [(.int (4 : Int32)), (.int (5 : Int32))]))
      refine Go.step (fun _ k => XS.icmpYes X_271.here hx rfl (pc0 := 61) (pc' := 74) rfl (hb hby at_61) rfl (feq ((by decide) : ¬ ((5 : Int32) = (4 : Int32)))).2 (by decide) (by decide) k) ?_
      show Go p e below _ (T_271.setTop (mkF m 74 #[vI p0, vI p1, vI p2, vI p3, vI 0, vR a_271, vI cc, vI 5, vU, vU, vU, vU] []))
      refine Go.step (fun _ k => XS.iload X_271.here hx rfl (hb hby at_74) rfl  k) ?_
      refine Go.step (fun _ k => XS.iconst X_271.here hx rfl (hb hby at_76) k) ?_
      show Go p e below _ (T_271.setTop (mkF m 77 #[vI p0, vI p1, vI p2, vI p3, vI 0, vR a_271, vI cc, vI 5, vU, vU, vU, vU] [(.int (5 : Int32)), (.int (5 : Int32))]))
      refine Go.step (fun _ k => XS.icmpNo X_271.here hx rfl (hb hby at_77) rfl (teq ((by decide) : (5 : Int32) = (5 : Int32))).2 k) ?_
      show Go p e below _ (T_271.setTop (mkF m 80 #[vI p0, vI p1, vI p2, vI p3, vI 0, vR a_271, vI cc, vI 5, vU, vU, vU, vU] []))
      refine Go.step (fun _ k => XS.iloadN X_271.here hx rfl (hb hby at_80) rfl  k) ?_
      refine Go.step (fun _ k => XS.iconst X_271.here hx rfl (hb hby at_81) k) ?_
      show Go p e below _ (T_271.setTop (mkF m 82 #[vI p0, vI p1, vI p2, vI p3, vI 0, vR a_271, vI cc, vI 5, vU, vU, vU, vU] [(.int (1 : Int32)), (.int p2)]))
      refine Go.step (fun _ k => XS.iand X_271.here hx rfl (hb hby at_82) rfl k) ?_
      show Go p e below _ (T_271.setTop (mkF m 83 #[vI p0, vI p1, vI p2, vI p3, vI 0, vR a_271, vI cc, vI 5, vU, vU, vU, vU] [(.int (p2 &&& (1 : Int32)))]))
      by_cases hp0 : (p2 &&& (1 : Int32)) = (0 : Int32)
      · skip
        refine Go.step (fun _ k => XS.ifNo X_271.here hx rfl (hb hby at_83) rfl ((if0 _ _).trans (teq hp0).2) k) ?_
        show Go p e below _ (T_271.setTop (mkF m 86 #[vI p0, vI p1, vI p2, vI p3, vI 0, vR a_271, vI cc, vI 5, vU, vU, vU, vU] []))
        refine Go.step (fun _ k => XS.aconstNull X_271.here hx rfl (hb hby at_86) k) ?_
        show Go p e below _ (T_271.setTop (mkF m 87 #[vI p0, vI p1, vI p2, vI p3, vI 0, vR a_271, vI cc, vI 5, vU, vU, vU, vU] [.null]))
        refine Go.step (fun _ k => XS.goto X_271.here hx rfl (pc0 := 87) (pc' := 100) rfl (hb hby at_87) (by decide) (by decide) k) ?_
        show Go p e below _ (T_271.setTop (mkF m 100 #[vI p0, vI p1, vI p2, vI p3, vI 0, vR a_271, vI cc, vI 5, vU, vU, vU, vU] [.null]))
        refine Go.step (fun _ k => XS.astore X_271.here hx rfl (hb hby at_100) rfl rfl (l' := #[vI p0, vI p1, vI p2, vI p3, vI 0, vR a_271, vI cc, vI 5, .val .null, vU, vU, vU]) rfl k) ?_
        show Go p e below _ (T_271.setTop (mkF m 102 #[vI p0, vI p1, vI p2, vI p3, vI 0, vR a_271, vI cc, vI 5, .val .null, vU, vU, vU] []))
        refine Go.step (fun _ k => XS.goto X_271.here hx rfl (pc0 := 102) (pc' := 314) rfl (hb hby at_102) (by decide) (by decide) k) ?_
        show Go p e below _ (T_271.setTop (mkF m 314 #[vI p0, vI p1, vI p2, vI p3, vI 0, vR a_271, vI cc, vI 5, .val .null, vU, vU, vU] []))
        exact tg_tailN l Z a0 hw zc vfm va kv ea eb ec ed wa wb wc wd ((vI p0)) ((vI p1)) ((vI p2)) ((vI p3)) ((vI 0)) ((vR a_271)) ((vI cc)) ((vI 5)) ((vU)) ((vU)) ((vU)) h_271 n0 (Nat.le_trans Z0 KP_271.1) hSt O_271 hx hby hml hret hlk hZ_271 hown_271 X_271 e_271 N0 hS_271 hk_271 C_271.1 CR_271 hh0 (by decide) (by decide)
      · skip
        refine Go.step (fun _ k => XS.ifYes X_271.here hx rfl (pc0 := 83) (pc' := 90) rfl (hb hby at_83) rfl ((if0 _ _).trans (feq hp0).2) (by decide) (by decide) k) ?_
        show Go p e below _ (T_271.setTop (mkF m 90 #[vI p0, vI p1, vI p2, vI p3, vI 0, vR a_271, vI cc, vI 5, vU, vU, vU, vU] []))
        obtain ⟨T_312, h_312, X_312, e_312, E_312, A_312, D_312, Un_312, st_312⟩ := newO X_271 hx hZ_271 hown_271 (wd_55 hw) (wd_2 hw) (wd_1 hw) e_271 (g := (mkF m 90 #[vI p0, vI p1, vI p2, vI p3, vI 0, vR a_271, vI cc, vI 5, vU, vU, vU, vU] [])) rfl (hb hby at_90) (by decide) (by decide)
        obtain ⟨b312, q_312⟩ : ∃ z, z = h_271.size := ⟨_, rfl⟩
        rw [← q_312] at A_312 D_312 Un_312 st_312
        refine Go.step st_312 ?_
        have C_312 := CHr.ext E_312 C_271.1
        have CR_312 := CHr.trans CR_271 C_312
        have le_312 : h_271.size ≤ h_312.size := E_312.1
        have KP_312 := KP_271.ext E_312
        have O_312 := O_271.ext E_312
        have ge_312 : h_271.size ≤ b312 := Nat.le_of_eq q_312.symm
        have sz_b312 : h0.size ≤ b312 := Nat.le_trans le_271 ge_312
        have g_b312 : n0 ≤ b312 := Nat.le_trans Z0 sz_b312
        have F_312_4 : Fld Z h_312 b312 "java/lang/String" "value" "[B" .null := D_312 (Or.inr (wd_4 hw)) (ty := (.array .byte)) pf_0
        have F_312_5 : Fld Z h_312 b312 "java/lang/String" "coder" "B" (.int (0 : Int32)) := D_312 (Or.inr (wd_5 hw)) (ty := .byte) pf_1
        have Sf_b312 := Safe.ext E_312 C_271.1 (Safe.new ge_312)
        show Go p e below _ (T_312.setTop (mkF m 93 #[vI p0, vI p1, vI p2, vI p3, vI 0, vR a_271, vI cc, vI 5, vU, vU, vU, vU] [(.ref b312)]))
        refine Go.step (fun _ k => XS.dup X_312.here hx rfl (hb hby at_93) rfl rfl k) ?_
        refine Go.step (fun _ k => XS.iconst X_312.here hx rfl (hb hby at_94) k) ?_
        show Go p e below _ (T_312.setTop (mkF m 95 #[vI p0, vI p1, vI p2, vI p3, vI 0, vR a_271, vI cc, vI 5, vU, vU, vU, vU] [(.int (0 : Int32)), (.ref b312), (.ref b312)]))
        obtain ⟨T_313, h_313, k_313, X_313, e_313, E_313, A_313, st_313⟩ := newP X_312 hx hZ_271 (aty := .char) (wd_26 hw) e_312 (g := (mkF m 95 #[vI p0, vI p1, vI p2, vI p3, vI 0, vR a_271, vI cc, vI 5, vU, vU, vU, vU] [(.int (0 : Int32)), (.ref b312), (.ref b312)])) rfl (hb hby at_95) rfl (by decide) (cap := 0) (by decide) (by decide) (by decide) (by decide)
        obtain ⟨b313, q_313⟩ : ∃ z, z = h_312.size := ⟨_, rfl⟩
        rw [← q_313] at A_313 st_313
        refine Go.step st_313 ?_
        have C_313 := CHr.ext E_313 C_312.1
        have CR_313 := CHr.trans CR_312 C_313
        have le_313 : h_312.size ≤ h_313.size := E_313.1
        have KP_313 := KP_312.ext E_313
        have O_313 := O_312.ext E_313
        have ge_313 : h_312.size ≤ b313 := Nat.le_of_eq q_313.symm
        have sz_b313 : h0.size ≤ b313 := Nat.le_trans (Nat.le_trans le_271 le_312) ge_313
        have g_b313 : n0 ≤ b313 := Nat.le_trans Z0 sz_b313
        have V_313 : Arv Z h_313 b313 k_313 .char (0 : Int32) [] (.int (0 : Int32)) := Arv.new A_313 (by decide)
        have Sf_b313 := Safe.ext E_313 C_312.1 (Safe.new ge_313)
        show Go p e below _ (T_313.setTop (mkF m 97 #[vI p0, vI p1, vI p2, vI p3, vI 0, vR a_271, vI cc, vI 5, vU, vU, vU, vU] [(.ref b313), (.ref b312), (.ref b312)]))
        have f314 : Exa Z h_313 b312 "java/lang/String" := (A_312.ext E_313)
        have f315 : Fld Z h_313 b312 "java/lang/String" "value" "[B" .null := (F_312_4.ext E_313)
        have f316 : Fld Z h_313 b312 "java/lang/String" "coder" "B" (.int (0 : Int32)) := (F_312_5.ext E_313)
        obtain ⟨v_317, T_317, L_317, X_317, hQ_317, hS_317, hZ_317, hown_317, C_317, st_317⟩ := goCW X_313 hx hZ_271 (y := Y_13) hown_271 hS_271 (Nat.le_trans hk_271 (Nat.le_trans le_312 le_313)) rfl (wd_56 hw) (wd_57 hw) (wd_58 hw) (by decide) (backOfSH (W := 1) (rm_init1e l Z a0 hw zc vfm va kv ea eb ec ed wa wb wc wd (b312) (b313) (k_313) h_313 n0 (Nat.le_trans Z0 KP_313.1) f314 f315 f316 g_b312 V_313 hSt O_313) hZ_271 (wd_58 hw) (wd_1 hw) (by decide) (by decide) hEL C_313.1) e_313 (g := (mkF m 97 #[vI p0, vI p1, vI p2, vI p3, vI 0, vR a_271, vI cc, vI 5, vU, vU, vU, vU] [(.ref b313), (.ref b312), (.ref b312)])) rfl (by rw [hml]; rfl) (a := b312) (argsL := [(.ref b313)]) (rest := [(.ref b312)]) rfl (lenOf pd_12 rfl) rfl (by show 2 * 0 + _ ≤ _; exact Nat.le_of_eq rfl) (hb hby at_97) (by decide) (by decide)
        obtain ⟨rfl, Nq_317, K_317, u0_317⟩ := hQ_317
        have N_317 := Fr.app N0 Nq_317
        have CR_317 := CHr.trans CR_313 C_317
        have le_317 : h_313.size ≤ T_317.heap.size := K_317.1
        have KP_317 := KP_313.trans K_317 (allS (Or.inr sz_b312) all0)
        have O_317 := O_313.keep K_317 (allS g_b312 all0)
        refine Go.step st_317 ?_
        show Go p e below _ (T_317.setTop (mkF m 100 #[vI p0, vI p1, vI p2, vI p3, vI 0, vR a_271, vI cc, vI 5, vU, vU, vU, vU] [(.ref b312)]))
        refine Go.step (fun _ k => XS.astore X_317.here hx rfl (hb hby at_100) rfl rfl (l' := #[vI p0, vI p1, vI p2, vI p3, vI 0, vR a_271, vI cc, vI 5, vR b312, vU, vU, vU]) rfl k) ?_
        show Go p e below _ (T_317.setTop (mkF m 102 #[vI p0, vI p1, vI p2, vI p3, vI 0, vR a_271, vI cc, vI 5, vR b312, vU, vU, vU] []))
        refine Go.step (fun _ k => XS.goto X_317.here hx rfl (pc0 := 102) (pc' := 314) rfl (hb hby at_102) (by decide) (by decide) k) ?_
        show Go p e below _ (T_317.setTop (mkF m 314 #[vI p0, vI p1, vI p2, vI p3, vI 0, vR a_271, vI cc, vI 5, vR b312, vU, vU, vU] []))
        exact tg_tailS l Z a0 hw zc vfm va kv ea eb ec ed wa wb wc wd ((vI p0)) ((vI p1)) ((vI p2)) ((vI p3)) ((vI 0)) ((vR a_271)) ((vI cc)) ((vI 5)) ((vU)) ((vU)) ((vU)) (b312) (([] : List Int32)) T_317.heap n0 (Nat.le_trans Z0 KP_317.1) u0_317 hSt O_317 hx hby hml hret hlk hZ_317 hown_317 X_317 rfl N_317 hS_317 (Nat.le_refl _) C_317.1 CR_317 hh0 (by decide) (by decide)
  · skip
    show Go p e below _ (s₁.setTop (mkF m 5 #[vI p0, vI p1, vI p2, vI p3, vI 1, vU, vU, vU, vU, vU, vU, vU] []))
    refine Go.step (fun _ k => XS.iload X0.here hx rfl (hb hby at_5) rfl  k) ?_
    show Go p e below _ (s₁.setTop (mkF m 7 #[vI p0, vI p1, vI p2, vI p3, vI 1, vU, vU, vU, vU, vU, vU, vU] [(.int (1 : Int32))]))
    refine Go.step (fun _ k => XS.ifYes X0.here hx rfl (pc0 := 7) (pc' := 15) rfl (hb hby at_7) rfl ((if0 _ _).trans (feq ((by decide) : ¬ ((1 : Int32) = (0 : Int32)))).2) (by decide) (by decide) k) ?_
    show Go p e below _ (s₁.setTop (mkF m 15 #[vI p0, vI p1, vI p2, vI p3, vI 1, vU, vU, vU, vU, vU, vU, vU] []))
    refine Go.step (fun _ k => XS.iload X0.here hx rfl (hb hby at_15) rfl  k) ?_
    refine Go.step (fun _ k => XS.iconst X0.here hx rfl (hb hby at_17) k) ?_
    show Go p e below _ (s₁.setTop (mkF m 18 #[vI p0, vI p1, vI p2, vI p3, vI 1, vU, vU, vU, vU, vU, vU, vU] [(.int (1 : Int32)), (.int (1 : Int32))]))
    refine Go.step (fun _ k => XS.icmpNo X0.here hx rfl (hb hby at_18) rfl (teq ((by decide) : (1 : Int32) = (1 : Int32))).2 k) ?_
    show Go p e below _ (s₁.setTop (mkF m 21 #[vI p0, vI p1, vI p2, vI p3, vI 1, vU, vU, vU, vU, vU, vU, vU] []))
    obtain ⟨a_318, T_318, h_318, k1_318, t_318, kb_318, X_318, e_318, E_318, hS_318, hk_318, hZ_318, hown_318, Ex_318, Fc_318, Fv_318, Av_318, lta_318, ltb_318, C_318, Lt_318, -, st_318⟩ := ldcCH X0 hx hZ hown (wd_114 hw) hwS e0 hS0 hk0 hEL (by decide) CV0 (vs := [(.int (99 : Int32)), (.int (97 : Int32)), (.int (112 : Int32)), (.int (116 : Int32)), (.int (117 : Int32)), (.int (114 : Int32)), (.int (101 : Int32)), (.int (100 : Int32))]) (z := (8 : Int32)) ⟨by decide, by decide⟩ (by decide) (by decide) (g := (mkF m 21 #[vI p0, vI p1, vI p2, vI p3, vI 1, vU, vU, vU, vU, vU, vU, vU] [])) rfl (hb hby at_21) (n := 32) (by decide) (by decide) (by decide) (by decide)
    refine Go.step st_318 ?_
    have CR_318 := CHr.trans (CHr.refl CV0) C_318
    have le_318 : h0.size ≤ h_318.size := E_318.1
    have KP_318 := KP0.ext E_318
    have O_318 := hO.ext E_318
    have Sx_318 : Str Z h_318.size h_318 a_318 ([(99 : Int32), (97 : Int32), (112 : Int32), (116 : Int32), (117 : Int32), (114 : Int32), (101 : Int32), (100 : Int32)] : List Int32) := ⟨t_318, kb_318, lta_318, ltb_318, Ex_318, Fv_318, Fc_318, Av_318, by decide, by decide⟩
    show Go p e below _ (T_318.setTop (mkF m 23 #[vI p0, vI p1, vI p2, vI p3, vI 1, vU, vU, vU, vU, vU, vU, vU] [(.ref a_318)]))
    refine Go.step (fun _ k => XS.goto X_318.here hx rfl (pc0 := 23) (pc' := 39) rfl (hb hby at_23) (by decide) (by decide) k) ?_
    show Go p e below _ (T_318.setTop (mkF m 39 #[vI p0, vI p1, vI p2, vI p3, vI 1, vU, vU, vU, vU, vU, vU, vU] [(.ref a_318)]))
    refine Go.step (fun _ k => XS.astore X_318.here hx rfl (hb hby at_39) rfl rfl (l' := #[vI p0, vI p1, vI p2, vI p3, vI 1, vR a_318, vU, vU, vU, vU, vU, vU]) rfl k) ?_
    show Go p e below _ (T_318.setTop (mkF m 41 #[vI p0, vI p1, vI p2, vI p3, vI 1, vR a_318, vU, vU, vU, vU, vU, vU] []))
    refine Go.step (fun _ k => XS.iloadN X_318.here hx rfl (hb hby at_41) rfl  k) ?_
    refine Go.step (fun _ k => XS.sipush X_318.here hx rfl (hb hby at_42) k) ?_
    show Go p e below _ (T_318.setTop (mkF m 45 #[vI p0, vI p1, vI p2, vI p3, vI 1, vR a_318, vU, vU, vU, vU, vU, vU] [(.int (255 : Int32)), (.int p3)]))
    refine Go.step (fun _ k => XS.iand X_318.here hx rfl (hb hby at_45) rfl k) ?_
    show Go p e below _ (T_318.setTop (mkF m 46 #[vI p0, vI p1, vI p2, vI p3, vI 1, vR a_318, vU, vU, vU, vU, vU, vU] [(.int (p3 &&& (255 : Int32)))]))
    refine Go.step (fun _ k => XS.i2c X_318.here hx rfl (hb hby at_46) rfl k) ?_
    show Go p e below _ (T_318.setTop (mkF m 47 #[vI p0, vI p1, vI p2, vI p3, vI 1, vR a_318, vU, vU, vU, vU, vU, vU] [(.int (nar .char (p3 &&& (255 : Int32))))]))
    refine own_top (congrArg Value.int (show (nar .char (p3 &&& (255 : Int32))) = (p3 &&& (255 : Int32)) from nar255 _)) ?_
    show Go p e below _ (T_318.setTop (mkF m 47 #[vI p0, vI p1, vI p2, vI p3, vI 1, vR a_318, vU, vU, vU, vU, vU, vU] [(.int (p3 &&& (255 : Int32)))]))
    refine Go.step (fun _ k => XS.istore X_318.here hx rfl (hb hby at_47) rfl (l' := #[vI p0, vI p1, vI p2, vI p3, vI 1, vR a_318, vI (p3 &&& (255 : Int32)), vU, vU, vU, vU, vU]) rfl k) ?_
    show Go p e below _ (T_318.setTop (mkF m 49 #[vI p0, vI p1, vI p2, vI p3, vI 1, vR a_318, vI (p3 &&& (255 : Int32)), vU, vU, vU, vU, vU] []))
    obtain ⟨cc, h_cc⟩ : ∃ z, z = (p3 &&& (255 : Int32)) := ⟨_, rfl⟩
    rw [← h_cc]
    show Go p e below _ (T_318.setTop (mkF m 49 #[vI p0, vI p1, vI p2, vI p3, vI 1, vR a_318, vI cc, vU, vU, vU, vU, vU] []))
    have l_c : ¬ cc < 0 ∧ ¬ (255 : Int32) < cc := by rw [h_cc]; exact lat255 _
    show Go p e below _ (T_318.setTop (mkF m 49 #[vI p0, vI p1, vI p2, vI p3, vI 1, vR a_318, vI cc, vU, vU, vU, vU, vU] []))
    refine Go.step (fun _ k => XS.iloadN X_318.here hx rfl (hb hby at_49) rfl  k) ?_
    show Go p e below _ (T_318.setTop (mkF m 50 #[vI p0, vI p1, vI p2, vI p3, vI 1, vR a_318, vI cc, vU, vU, vU, vU, vU] [(.int p1)]))
    refine Go.step (fun _ k => X_318.ldcInt hx hown_318 (mvT hZ_318 (wd_8 hw)) (g := (mkF m 50 #[vI p0, vI p1, vI p2, vI p3, vI 1, vR a_318, vI cc, vU, vU, vU, vU, vU] [(.int p1)])) rfl (hb hby at_50) _ k) ?_
    show Go p e below _ (T_318.setTop (mkF m 52 #[vI p0, vI p1, vI p2, vI p3, vI 1, vR a_318, vI cc, vU, vU, vU, vU, vU] [(.int (2147483647 : Int32)), (.int p1)]))
    refine Go.step (fun _ k => XS.iand X_318.here hx rfl (hb hby at_52) rfl k) ?_
    show Go p e below _ (T_318.setTop (mkF m 53 #[vI p0, vI p1, vI p2, vI p3, vI 1, vR a_318, vI cc, vU, vU, vU, vU, vU] [(.int (p1 &&& (2147483647 : Int32)))]))
    refine Go.step (fun _ k => XS.bipush X_318.here hx rfl (hb hby at_53) k) ?_
    show Go p e below _ (T_318.setTop (mkF m 55 #[vI p0, vI p1, vI p2, vI p3, vI 1, vR a_318, vI cc, vU, vU, vU, vU, vU] [(.int (6 : Int32)), (.int (p1 &&& (2147483647 : Int32)))]))
    refine Go.step (fun _ k => iremM X_318 hx rfl (hb hby at_55) rfl (by decide) k) ?_
    show Go p e below _ (T_318.setTop (mkF m 56 #[vI p0, vI p1, vI p2, vI p3, vI 1, vR a_318, vI cc, vU, vU, vU, vU, vU] [(.int ((p1 &&& (2147483647 : Int32)) % (6 : Int32)))]))
    refine Go.step (fun _ k => XS.istore X_318.here hx rfl (hb hby at_56) rfl (l' := #[vI p0, vI p1, vI p2, vI p3, vI 1, vR a_318, vI cc, vI ((p1 &&& (2147483647 : Int32)) % (6 : Int32)), vU, vU, vU, vU]) rfl k) ?_
    show Go p e below _ (T_318.setTop (mkF m 58 #[vI p0, vI p1, vI p2, vI p3, vI 1, vR a_318, vI cc, vI ((p1 &&& (2147483647 : Int32)) % (6 : Int32)), vU, vU, vU, vU] []))
    obtain ⟨mm, h_mm⟩ : ∃ z, z = ((p1 &&& (2147483647 : Int32)) % (6 : Int32)) := ⟨_, rfl⟩
    rw [← h_mm]
    show Go p e below _ (T_318.setTop (mkF m 58 #[vI p0, vI p1, vI p2, vI p3, vI 1, vR a_318, vI cc, vI mm, vU, vU, vU, vU] []))
    have h_m6 := range6 (by rw [h_mm]; exact rem6 _ : 0 ≤ mm.toInt ∧ mm.toInt < 6)
    clear h_mm
    show Go p e below _ (T_318.setTop (mkF m 58 #[vI p0, vI p1, vI p2, vI p3, vI 1, vR a_318, vI cc, vI mm, vU, vU, vU, vU] []))
    rcases h_m6 with rfl | rfl | rfl | rfl | rfl | rfl
    · skip
      show Go p e below _ (T_318.setTop (mkF m 58 #[vI p0, vI p1, vI p2, vI p3, vI 1, vR a_318, vI cc, vI 0, vU, vU, vU, vU] []))
      refine Go.step (fun _ k => XS.iload X_318.here hx rfl (hb hby at_58) rfl  k) ?_
      refine Go.step (fun _ k => XS.iconst X_318.here hx rfl (hb hby at_60) k) ?_
      show Go p e below _ (T_318.setTop (mkF m 61 #[vI p0, vI p1, vI p2, vI p3, vI 1, vR a_318, vI cc, vI 0, vU, vU, vU, vU] [(.int (4 : Int32)), (.int (0 : Int32))]))
      refine Go.step (fun _ k => XS.icmpYes X_318.here hx rfl (pc0 := 61) (pc' := 74) rfl (hb hby at_61) rfl (feq ((by decide) : ¬ ((0 : Int32) = (4 : Int32)))).2 (by decide) (by decide) k) ?_
      show Go p e below _ (T_318.setTop (mkF m 74 #[vI p0, vI p1, vI p2, vI p3, vI 1, vR a_318, vI cc, vI 0, vU, vU, vU, vU] []))
      refine Go.step (fun _ k => XS.iload X_318.here hx rfl (hb hby at_74) rfl  k) ?_
      refine Go.step (fun _ k => XS.iconst X_318.here hx rfl (hb hby at_76) k) ?_
      show Go p e below _ (T_318.setTop (mkF m 77 #[vI p0, vI p1, vI p2, vI p3, vI 1, vR a_318, vI cc, vI 0, vU, vU, vU, vU] [(.int (5 : Int32)), (.int (0 : Int32))]))
      refine Go.step (fun _ k => XS.icmpYes X_318.here hx rfl (pc0 := 77) (pc' := 105) rfl (hb hby at_77) rfl (feq ((by decide) : ¬ ((0 : Int32) = (5 : Int32)))).2 (by decide) (by decide) k) ?_
      show Go p e below _ (T_318.setTop (mkF m 105 #[vI p0, vI p1, vI p2, vI p3, vI 1, vR a_318, vI cc, vI 0, vU, vU, vU, vU] []))
      refine Go.step (fun _ k => XS.iload X_318.here hx rfl (hb hby at_105) rfl  k) ?_
      refine Go.step (fun _ k => XS.iconst X_318.here hx rfl (hb hby at_107) k) ?_
      show Go p e below _ (T_318.setTop (mkF m 108 #[vI p0, vI p1, vI p2, vI p3, vI 1, vR a_318, vI cc, vI 0, vU, vU, vU, vU] [(.int (2 : Int32)), (.int (0 : Int32))]))
      refine Go.step (fun _ k => XS.icmpYes X_318.here hx rfl (pc0 := 108) (pc' := 121) rfl (hb hby at_108) rfl (feq ((by decide) : ¬ ((0 : Int32) = (2 : Int32)))).2 (by decide) (by decide) k) ?_
      show Go p e below _ (T_318.setTop (mkF m 121 #[vI p0, vI p1, vI p2, vI p3, vI 1, vR a_318, vI cc, vI 0, vU, vU, vU, vU] []))
      refine Go.step (fun _ k => XS.iload X_318.here hx rfl (hb hby at_121) rfl  k) ?_
      refine Go.step (fun _ k => XS.iconst X_318.here hx rfl (hb hby at_123) k) ?_
      show Go p e below _ (T_318.setTop (mkF m 124 #[vI p0, vI p1, vI p2, vI p3, vI 1, vR a_318, vI cc, vI 0, vU, vU, vU, vU] [(.int (3 : Int32)), (.int (0 : Int32))]))
      refine Go.step (fun _ k => XS.icmpYes X_318.here hx rfl (pc0 := 124) (pc' := 137) rfl (hb hby at_124) rfl (feq ((by decide) : ¬ ((0 : Int32) = (3 : Int32)))).2 (by decide) (by decide) k) ?_
      show Go p e below _ (T_318.setTop (mkF m 137 #[vI p0, vI p1, vI p2, vI p3, vI 1, vR a_318, vI cc, vI 0, vU, vU, vU, vU] []))
      refine Go.step (fun _ k => XS.aload X_318.here hx rfl (hb hby at_137) rfl rfl k) ?_
      show Go p e below _ (T_318.setTop (mkF m 139 #[vI p0, vI p1, vI p2, vI p3, vI 1, vR a_318, vI cc, vI 0, vU, vU, vU, vU] [(.ref a_318)]))
      have cp319 := Sx_318
      obtain ⟨t320, kb320, -, -, Ex320, Fv320, Fc320, Av320, hl320, hn320⟩ := cp319
      obtain ⟨v_321, T_321, L_321, X_321, hQ_321, st_321⟩ := goV X_318 hx hZ_318 (y := Y_11) (z := Y_11) (kc := 0) (ks := 0) (QQ := fun v h' L => v = some (.int (8 : Int32)) ∧ L = [] ∧ h' = h_318) hown_318 (wd_9 hw) (wd_10 hw) (notFace_of_selects (args := #[]) (mvT hZ_318 (wd_12 hw))) (wd_12 hw) (wd_11 hw) (by decide) (StrChars.Road.lenW (W := 0) hZ_318 (sw_wordsLen hw) (kI := 4) (wd_2 hw) Ex320 Fv320 Fc320 Av320 (StrChars.Road.codOf rfl (fun c hc => (hl320 c hc).2)) (up255 hl320) (S_cs.ext O_318.2) n_cs hn320 (by decide) (by decide)) e_318 Ex320 (g := (mkF m 139 #[vI p0, vI p1, vI p2, vI p3, vI 1, vR a_318, vI cc, vI 0, vU, vU, vU, vU] [(.ref a_318)])) rfl (by rw [hml]; rfl) (argsL := []) (rest := []) rfl (lenOf pd_10 rfl) rfl (by show 2 * 0 + _ ≤ _; exact Nat.le_of_eq rfl) (hb hby at_139) (by decide) (by decide)
      obtain ⟨rfl, rfl, e_321⟩ := hQ_321
      have N_321 := Fr.app N0 (Fr.nil n0)
      refine Go.step st_321 ?_
      show Go p e below _ (T_321.setTop (mkF m 142 #[vI p0, vI p1, vI p2, vI p3, vI 1, vR a_318, vI cc, vI 0, vU, vU, vU, vU] [(.int (8 : Int32))]))
      refine Go.step (fun _ k => XS.istore X_321.here hx rfl (hb hby at_142) rfl (l' := #[vI p0, vI p1, vI p2, vI p3, vI 1, vR a_318, vI cc, vI 0, vU, vI 8, vU, vU]) rfl k) ?_
      show Go p e below _ (T_321.setTop (mkF m 144 #[vI p0, vI p1, vI p2, vI p3, vI 1, vR a_318, vI cc, vI 0, vU, vI 8, vU, vU] []))
      refine Go.step (fun _ k => XS.iloadN X_321.here hx rfl (hb hby at_144) rfl  k) ?_
      show Go p e below _ (T_321.setTop (mkF m 145 #[vI p0, vI p1, vI p2, vI p3, vI 1, vR a_318, vI cc, vI 0, vU, vI 8, vU, vU] [(.int p2)]))
      refine Go.step (fun _ k => X_321.ldcInt hx hown_318 (mvT hZ_318 (wd_8 hw)) (g := (mkF m 145 #[vI p0, vI p1, vI p2, vI p3, vI 1, vR a_318, vI cc, vI 0, vU, vI 8, vU, vU] [(.int p2)])) rfl (hb hby at_145) _ k) ?_
      show Go p e below _ (T_321.setTop (mkF m 147 #[vI p0, vI p1, vI p2, vI p3, vI 1, vR a_318, vI cc, vI 0, vU, vI 8, vU, vU] [(.int (2147483647 : Int32)), (.int p2)]))
      refine Go.step (fun _ k => XS.iand X_321.here hx rfl (hb hby at_147) rfl k) ?_
      show Go p e below _ (T_321.setTop (mkF m 148 #[vI p0, vI p1, vI p2, vI p3, vI 1, vR a_318, vI cc, vI 0, vU, vI 8, vU, vU] [(.int (p2 &&& (2147483647 : Int32)))]))
      refine Go.step (fun _ k => XS.iload X_321.here hx rfl (hb hby at_148) rfl  k) ?_
      refine Go.step (fun _ k => XS.iconst X_321.here hx rfl (hb hby at_150) k) ?_
      show Go p e below _ (T_321.setTop (mkF m 151 #[vI p0, vI p1, vI p2, vI p3, vI 1, vR a_318, vI cc, vI 0, vU, vI 8, vU, vU] [(.int (2 : Int32)), (.int (0 : Int32)), (.int (p2 &&& (2147483647 : Int32)))]))
      refine Go.step (fun _ k => XS.icmpYes X_321.here hx rfl (pc0 := 151) (pc' := 162) rfl (hb hby at_151) rfl (feq ((by decide) : ¬ ((0 : Int32) = (2 : Int32)))).2 (by decide) (by decide) k) ?_
      show Go p e below _ (T_321.setTop (mkF m 162 #[vI p0, vI p1, vI p2, vI p3, vI 1, vR a_318, vI cc, vI 0, vU, vI 8, vU, vU] [(.int (p2 &&& (2147483647 : Int32)))]))
      refine Go.step (fun _ k => XS.iload X_321.here hx rfl (hb hby at_162) rfl  k) ?_
      show Go p e below _ (T_321.setTop (mkF m 164 #[vI p0, vI p1, vI p2, vI p3, vI 1, vR a_318, vI cc, vI 0, vU, vI 8, vU, vU] [(.int (8 : Int32)), (.int (p2 &&& (2147483647 : Int32)))]))
      refine Go.step (fun _ k => iremM X_321 hx rfl (hb hby at_164) rfl (by decide) k) ?_
      show Go p e below _ (T_321.setTop (mkF m 165 #[vI p0, vI p1, vI p2, vI p3, vI 1, vR a_318, vI cc, vI 0, vU, vI 8, vU, vU] [(.int ((p2 &&& (2147483647 : Int32)) % (8 : Int32)))]))
      refine Go.step (fun _ k => XS.istore X_321.here hx rfl (hb hby at_165) rfl (l' := #[vI p0, vI p1, vI p2, vI p3, vI 1, vR a_318, vI cc, vI 0, vU, vI 8, vI ((p2 &&& (2147483647 : Int32)) % (8 : Int32)), vU]) rfl k) ?_
      show Go p e below _ (T_321.setTop (mkF m 167 #[vI p0, vI p1, vI p2, vI p3, vI 1, vR a_318, vI cc, vI 0, vU, vI 8, vI ((p2 &&& (2147483647 : Int32)) % (8 : Int32)), vU] []))
      obtain ⟨pp, h_pp⟩ : ∃ z, z = ((p2 &&& (2147483647 : Int32)) % (8 : Int32)) := ⟨_, rfl⟩
      rw [← h_pp]
      show Go p e below _ (T_321.setTop (mkF m 167 #[vI p0, vI p1, vI p2, vI p3, vI 1, vR a_318, vI cc, vI 0, vU, vI 8, vI pp, vU] []))
      have h_p : 0 ≤ pp.toInt ∧ pp.toInt < 8 := by rw [h_pp]; exact rem8 _
      show Go p e below _ (T_321.setTop (mkF m 167 #[vI p0, vI p1, vI p2, vI p3, vI 1, vR a_318, vI cc, vI 0, vU, vI 8, vI pp, vU] []))
      refine Go.step (fun _ k => XS.iload X_321.here hx rfl (hb hby at_167) rfl  k) ?_
      show Go p e below _ (T_321.setTop (mkF m 169 #[vI p0, vI p1, vI p2, vI p3, vI 1, vR a_318, vI cc, vI 0, vU, vI 8, vI pp, vU] [(.int (8 : Int32))]))
      obtain ⟨v_322, T_322, L_322, X_322, hQ_322, st_322⟩ := goS X_321 hx hZ_318 (y := Y_12) hown_318 (wd_22 hw) (wd_23 hw) (wd_24 hw) (wd_25 hw) (by decide) (backOf (W := 0) (rm_make8 l Z a0 hw zc vfm va kv ea eb ec ed wa wb wc wd h_318 n0 (Nat.le_trans Z0 KP_318.1) hSt O_318) hZ_318 (wd_25 hw) (wd_24 hw) (by decide) (by decide)) e_321 (g := (mkF m 169 #[vI p0, vI p1, vI p2, vI p3, vI 1, vR a_318, vI cc, vI 0, vU, vI 8, vI pp, vU] [(.int (8 : Int32))])) rfl (by rw [hml]; rfl) (argsL := [(.int (8 : Int32))]) (rest := []) rfl (lenOf pd_11 rfl) rfl (by show 2 * 0 + _ ≤ _; exact Nat.le_of_eq rfl) (hb hby at_169) (by decide) (by decide)
      obtain ⟨r_322, kr_322, rfl, Nq_322, K_322, u0_322, u1_322⟩ := hQ_322
      have N_322 := Fr.app N_321 Nq_322
      have C_322 := CHr.keep K_322 sf0 C_318.1
      have CR_322 := CHr.trans CR_318 C_322
      have le_322 : h_318.size ≤ T_322.heap.size := K_322.1
      have KP_322 := KP_318.trans K_322 all0
      have O_322 := O_318.keep K_322 all0
      have sz_r_322 : h0.size ≤ r_322 := Nat.le_trans le_318 u0_322
      have g_r_322 : n0 ≤ r_322 := Nat.le_trans Z0 sz_r_322
      have Sf_r_322 := Safe.keep K_322 sf0 C_318.1 (Safe.new u0_322)
      refine Go.step st_322 ?_
      show Go p e below _ (T_322.setTop (mkF m 172 #[vI p0, vI p1, vI p2, vI p3, vI 1, vR a_318, vI cc, vI 0, vU, vI 8, vI pp, vU] [(.ref r_322)]))
      refine Go.step (fun _ k => XS.astore X_322.here hx rfl (hb hby at_172) rfl rfl (l' := #[vI p0, vI p1, vI p2, vI p3, vI 1, vR a_318, vI cc, vI 0, vU, vI 8, vI pp, vR r_322]) rfl k) ?_
      show Go p e below _ (T_322.setTop (mkF m 174 #[vI p0, vI p1, vI p2, vI p3, vI 1, vR a_318, vI cc, vI 0, vU, vI 8, vI pp, vR r_322] []))
      have f323 : Str Z h_318.size T_322.heap a_318 ([(99 : Int32), (97 : Int32), (112 : Int32), (116 : Int32), (117 : Int32), (114 : Int32), (101 : Int32), (100 : Int32)] : List Int32) := (Sx_318.keep K_322 all0)
      refine sg_puts l Z a0 hw zc vfm va kv ea eb ec ed wa wb wc wd (p0) (p1) (p2) (p3) ((1 : Int32)) ((8 : Int32)) (r_322) (kr_322) ((8 : Int32)) (([(0 : Int32), (0 : Int32), (0 : Int32), (0 : Int32), (0 : Int32), (0 : Int32), (0 : Int32), (0 : Int32)] : List Int32)) (a_318) (([(99 : Int32), (97 : Int32), (112 : Int32), (116 : Int32), (117 : Int32), (114 : Int32), (101 : Int32), (100 : Int32)] : List Int32)) ((0 : Int32)) (pp) (cc) (h_318.size) T_322.heap n0 (Nat.le_trans Z0 KP_322.1) u1_322 g_r_322 f323 (Nat.le_trans (Nat.le_refl _) u0_322) rfl (by decide) (by decide) (fun i1 a b => by have a2 : 0 ≤ i1.toInt := Int.not_lt.mp (fun q => a (Int32.lt_iff_toInt_lt.mpr q)); have b2 : i1.toInt < 8 := Int32.lt_iff_toInt_lt.mp b; have hp := h_p; exact ⟨by decide, a2, hp.1, by show _ ≤ ((8 : Nat) : Int); omega, fun _ => by show _ < ((8 : Nat) : Int); omega, fun q => absurd q (by decide), fun a _ _ => absurd rfl a⟩) l_c hSt O_322 hx hby hml hZ_318 hown_318 X_322 rfl N_322 (by decide) (by decide) ?_
      intro T_324 L_324 vs2_324 X_324 hQ_324
      obtain ⟨N_324, K_324, u0_324, u1_324⟩ := hQ_324
      have C_324 := CHr.keep K_324 (sfS (Safe.arv hZ_318.alike u1_322 (by decide)) sf0) C_322.1
      have CR_324 := CHr.trans CR_322 C_324
      have le_324 : T_322.heap.size ≤ T_324.heap.size := K_324.1
      have KP_324 := KP_322.trans K_324 (allS (Or.inr sz_r_322) all0)
      have O_324 := O_322.keep K_324 (allS g_r_322 all0)
      have hv2_324 := u1_324
      show Go p e below _ (T_324.setTop (mkF m 303 #[vI p0, vI p1, vI p2, vI p3, vI 1, vR a_318, vI cc, vI 0, vU, vI 8, vI pp, vR r_322] []))
      have hL_324 : vs2_324.length = 8 := hv2_324.1
      show Go p e below _ (T_324.setTop (mkF m 303 #[vI p0, vI p1, vI p2, vI p3, vI 1, vR a_318, vI cc, vI 0, vU, vI 8, vI pp, vR r_322] []))
      obtain ⟨T_325, h_325, X_325, e_325, E_325, A_325, D_325, Un_325, st_325⟩ := newO X_324 hx hZ_318 hown_318 (wd_55 hw) (wd_2 hw) (wd_1 hw) rfl (g := (mkF m 303 #[vI p0, vI p1, vI p2, vI p3, vI 1, vR a_318, vI cc, vI 0, vU, vI 8, vI pp, vR r_322] [])) rfl (hb hby at_303) (by decide) (by decide)
      obtain ⟨b325, q_325⟩ : ∃ z, z = T_324.heap.size := ⟨_, rfl⟩
      rw [← q_325] at A_325 D_325 Un_325 st_325
      refine Go.step st_325 ?_
      have C_325 := CHr.ext E_325 C_324.1
      have CR_325 := CHr.trans CR_324 C_325
      have le_325 : T_324.heap.size ≤ h_325.size := E_325.1
      have KP_325 := KP_324.ext E_325
      have O_325 := O_324.ext E_325
      have ge_325 : T_324.heap.size ≤ b325 := Nat.le_of_eq q_325.symm
      have sz_b325 : h0.size ≤ b325 := Nat.le_trans (Nat.le_trans le_318 (Nat.le_trans le_322 le_324)) ge_325
      have g_b325 : n0 ≤ b325 := Nat.le_trans Z0 sz_b325
      have F_325_4 : Fld Z h_325 b325 "java/lang/String" "value" "[B" .null := D_325 (Or.inr (wd_4 hw)) (ty := (.array .byte)) pf_0
      have F_325_5 : Fld Z h_325 b325 "java/lang/String" "coder" "B" (.int (0 : Int32)) := D_325 (Or.inr (wd_5 hw)) (ty := .byte) pf_1
      have Sf_b325 := Safe.ext E_325 C_324.1 (Safe.new ge_325)
      show Go p e below _ (T_325.setTop (mkF m 306 #[vI p0, vI p1, vI p2, vI p3, vI 1, vR a_318, vI cc, vI 0, vU, vI 8, vI pp, vR r_322] [(.ref b325)]))
      refine Go.step (fun _ k => XS.dup X_325.here hx rfl (hb hby at_306) rfl rfl k) ?_
      refine Go.step (fun _ k => XS.aload X_325.here hx rfl (hb hby at_307) rfl rfl k) ?_
      show Go p e below _ (T_325.setTop (mkF m 309 #[vI p0, vI p1, vI p2, vI p3, vI 1, vR a_318, vI cc, vI 0, vU, vI 8, vI pp, vR r_322] [(.ref r_322), (.ref b325), (.ref b325)]))
      have f326 : Arv Z h_325 r_322 kr_322 .char (8 : Int32) (vs2_324.map Value.int) (.int (0 : Int32)) := (u0_324.ext E_325)
      obtain ⟨v_327, T_327, L_327, X_327, hQ_327, st_327⟩ := goC X_325 hx hZ_318 (y := Y_13) hown_318 rfl (wd_56 hw) (wd_57 hw) (wd_58 hw) (by decide) (StrChars.Road.backV (W := 1) hZ_318 (sw_words hw) (kI := 4) (wd_2 hw) (cs := vs2_324) (bs := vs2_324.map (fun c => c.toInt8.toInt32)) (n := 8) g_b325 (Nat.le_trans Z0 KP_325.1) A_325 F_325_4 F_325_5 f326 (S_cs.ext O_325.2) n_cs hL_324 rfl (by decide) (by decide) hv2_324.2 rfl (by decide) (by decide)) e_325 (g := (mkF m 309 #[vI p0, vI p1, vI p2, vI p3, vI 1, vR a_318, vI cc, vI 0, vU, vI 8, vI pp, vR r_322] [(.ref r_322), (.ref b325), (.ref b325)])) rfl (by rw [hml]; rfl) (a := b325) (argsL := [(.ref r_322)]) (rest := [(.ref b325)]) rfl (lenOf pd_12 rfl) rfl (by show 2 * 0 + _ ≤ _; exact Nat.le_of_eq rfl) (hb hby at_309) (by decide) (by decide)
      obtain ⟨rfl, Nq_327, K_327, Ex_327, Fc_327, t_327, kb_327, -, gt_327, -, Fv_327, Av_327⟩ := hQ_327
      have N_327 := Fr.app N_324 Nq_327
      have C_327 := CHr.keep K_327 (sfS Sf_b325 sf0) C_325.1
      have CR_327 := CHr.trans CR_325 C_327
      have le_327 : h_325.size ≤ T_327.heap.size := K_327.1
      have KP_327 := KP_325.trans K_327 (allS (Or.inr sz_b325) all0)
      have O_327 := O_325.keep K_327 (allS g_b325 all0)
      have Sx_327 : Str Z (T_327.heap).size (T_327.heap) b325 vs2_324 := ⟨t_327, kb_327, Ex_327.lt, Av_327.lt, Ex_327, Fv_327, Fc_327, by rw [show vs2_324.length = 8 from hL_324]; exact Av_327, hv2_324.2, by rw [show vs2_324.length = 8 from hL_324]; decide⟩
      refine Go.step st_327 ?_
      show Go p e below _ (T_327.setTop (mkF m 312 #[vI p0, vI p1, vI p2, vI p3, vI 1, vR a_318, vI cc, vI 0, vU, vI 8, vI pp, vR r_322] [(.ref b325)]))
      refine Go.step (fun _ k => XS.astore X_327.here hx rfl (hb hby at_312) rfl rfl (l' := #[vI p0, vI p1, vI p2, vI p3, vI 1, vR a_318, vI cc, vI 0, vR b325, vI 8, vI pp, vR r_322]) rfl k) ?_
      show Go p e below _ (T_327.setTop (mkF m 314 #[vI p0, vI p1, vI p2, vI p3, vI 1, vR a_318, vI cc, vI 0, vR b325, vI 8, vI pp, vR r_322] []))
      exact tg_tailS l Z a0 hw zc vfm va kv ea eb ec ed wa wb wc wd ((vI p0)) ((vI p1)) ((vI p2)) ((vI p3)) ((vI 1)) ((vR a_318)) ((vI cc)) ((vI 0)) ((vI 8)) ((vI pp)) ((vR r_322)) (b325) (vs2_324) T_327.heap n0 (Nat.le_trans Z0 KP_327.1) Sx_327 hSt O_327 hx hby hml hret hlk hZ_318 hown_318 X_327 rfl N_327 hS_318 (Nat.le_trans hk_318 (Nat.le_trans le_322 (Nat.le_trans le_324 (Nat.le_trans le_325 le_327)))) C_327.1 CR_327 hh0 (by decide) (by decide)
    · skip
      show Go p e below _ (T_318.setTop (mkF m 58 #[vI p0, vI p1, vI p2, vI p3, vI 1, vR a_318, vI cc, vI 1, vU, vU, vU, vU] []))
      refine Go.step (fun _ k => XS.iload X_318.here hx rfl (hb hby at_58) rfl  k) ?_
      refine Go.step (fun _ k => XS.iconst X_318.here hx rfl (hb hby at_60) k) ?_
      show Go p e below _ (T_318.setTop (mkF m 61 #[vI p0, vI p1, vI p2, vI p3, vI 1, vR a_318, vI cc, vI 1, vU, vU, vU, vU] [(.int (4 : Int32)), (.int (1 : Int32))]))
      refine Go.step (fun _ k => XS.icmpYes X_318.here hx rfl (pc0 := 61) (pc' := 74) rfl (hb hby at_61) rfl (feq ((by decide) : ¬ ((1 : Int32) = (4 : Int32)))).2 (by decide) (by decide) k) ?_
      show Go p e below _ (T_318.setTop (mkF m 74 #[vI p0, vI p1, vI p2, vI p3, vI 1, vR a_318, vI cc, vI 1, vU, vU, vU, vU] []))
      refine Go.step (fun _ k => XS.iload X_318.here hx rfl (hb hby at_74) rfl  k) ?_
      refine Go.step (fun _ k => XS.iconst X_318.here hx rfl (hb hby at_76) k) ?_
      show Go p e below _ (T_318.setTop (mkF m 77 #[vI p0, vI p1, vI p2, vI p3, vI 1, vR a_318, vI cc, vI 1, vU, vU, vU, vU] [(.int (5 : Int32)), (.int (1 : Int32))]))
      refine Go.step (fun _ k => XS.icmpYes X_318.here hx rfl (pc0 := 77) (pc' := 105) rfl (hb hby at_77) rfl (feq ((by decide) : ¬ ((1 : Int32) = (5 : Int32)))).2 (by decide) (by decide) k) ?_
      show Go p e below _ (T_318.setTop (mkF m 105 #[vI p0, vI p1, vI p2, vI p3, vI 1, vR a_318, vI cc, vI 1, vU, vU, vU, vU] []))
      refine Go.step (fun _ k => XS.iload X_318.here hx rfl (hb hby at_105) rfl  k) ?_
      refine Go.step (fun _ k => XS.iconst X_318.here hx rfl (hb hby at_107) k) ?_
      show Go p e below _ (T_318.setTop (mkF m 108 #[vI p0, vI p1, vI p2, vI p3, vI 1, vR a_318, vI cc, vI 1, vU, vU, vU, vU] [(.int (2 : Int32)), (.int (1 : Int32))]))
      refine Go.step (fun _ k => XS.icmpYes X_318.here hx rfl (pc0 := 108) (pc' := 121) rfl (hb hby at_108) rfl (feq ((by decide) : ¬ ((1 : Int32) = (2 : Int32)))).2 (by decide) (by decide) k) ?_
      show Go p e below _ (T_318.setTop (mkF m 121 #[vI p0, vI p1, vI p2, vI p3, vI 1, vR a_318, vI cc, vI 1, vU, vU, vU, vU] []))
      refine Go.step (fun _ k => XS.iload X_318.here hx rfl (hb hby at_121) rfl  k) ?_
      refine Go.step (fun _ k => XS.iconst X_318.here hx rfl (hb hby at_123) k) ?_
      show Go p e below _ (T_318.setTop (mkF m 124 #[vI p0, vI p1, vI p2, vI p3, vI 1, vR a_318, vI cc, vI 1, vU, vU, vU, vU] [(.int (3 : Int32)), (.int (1 : Int32))]))
      refine Go.step (fun _ k => XS.icmpYes X_318.here hx rfl (pc0 := 124) (pc' := 137) rfl (hb hby at_124) rfl (feq ((by decide) : ¬ ((1 : Int32) = (3 : Int32)))).2 (by decide) (by decide) k) ?_
      show Go p e below _ (T_318.setTop (mkF m 137 #[vI p0, vI p1, vI p2, vI p3, vI 1, vR a_318, vI cc, vI 1, vU, vU, vU, vU] []))
      refine Go.step (fun _ k => XS.aload X_318.here hx rfl (hb hby at_137) rfl rfl k) ?_
      show Go p e below _ (T_318.setTop (mkF m 139 #[vI p0, vI p1, vI p2, vI p3, vI 1, vR a_318, vI cc, vI 1, vU, vU, vU, vU] [(.ref a_318)]))
      have cp328 := Sx_318
      obtain ⟨t329, kb329, -, -, Ex329, Fv329, Fc329, Av329, hl329, hn329⟩ := cp328
      obtain ⟨v_330, T_330, L_330, X_330, hQ_330, st_330⟩ := goV X_318 hx hZ_318 (y := Y_11) (z := Y_11) (kc := 0) (ks := 0) (QQ := fun v h' L => v = some (.int (8 : Int32)) ∧ L = [] ∧ h' = h_318) hown_318 (wd_9 hw) (wd_10 hw) (notFace_of_selects (args := #[]) (mvT hZ_318 (wd_12 hw))) (wd_12 hw) (wd_11 hw) (by decide) (StrChars.Road.lenW (W := 0) hZ_318 (sw_wordsLen hw) (kI := 4) (wd_2 hw) Ex329 Fv329 Fc329 Av329 (StrChars.Road.codOf rfl (fun c hc => (hl329 c hc).2)) (up255 hl329) (S_cs.ext O_318.2) n_cs hn329 (by decide) (by decide)) e_318 Ex329 (g := (mkF m 139 #[vI p0, vI p1, vI p2, vI p3, vI 1, vR a_318, vI cc, vI 1, vU, vU, vU, vU] [(.ref a_318)])) rfl (by rw [hml]; rfl) (argsL := []) (rest := []) rfl (lenOf pd_10 rfl) rfl (by show 2 * 0 + _ ≤ _; exact Nat.le_of_eq rfl) (hb hby at_139) (by decide) (by decide)
      obtain ⟨rfl, rfl, e_330⟩ := hQ_330
      have N_330 := Fr.app N0 (Fr.nil n0)
      refine Go.step st_330 ?_
      show Go p e below _ (T_330.setTop (mkF m 142 #[vI p0, vI p1, vI p2, vI p3, vI 1, vR a_318, vI cc, vI 1, vU, vU, vU, vU] [(.int (8 : Int32))]))
      refine Go.step (fun _ k => XS.istore X_330.here hx rfl (hb hby at_142) rfl (l' := #[vI p0, vI p1, vI p2, vI p3, vI 1, vR a_318, vI cc, vI 1, vU, vI 8, vU, vU]) rfl k) ?_
      show Go p e below _ (T_330.setTop (mkF m 144 #[vI p0, vI p1, vI p2, vI p3, vI 1, vR a_318, vI cc, vI 1, vU, vI 8, vU, vU] []))
      refine Go.step (fun _ k => XS.iloadN X_330.here hx rfl (hb hby at_144) rfl  k) ?_
      show Go p e below _ (T_330.setTop (mkF m 145 #[vI p0, vI p1, vI p2, vI p3, vI 1, vR a_318, vI cc, vI 1, vU, vI 8, vU, vU] [(.int p2)]))
      refine Go.step (fun _ k => X_330.ldcInt hx hown_318 (mvT hZ_318 (wd_8 hw)) (g := (mkF m 145 #[vI p0, vI p1, vI p2, vI p3, vI 1, vR a_318, vI cc, vI 1, vU, vI 8, vU, vU] [(.int p2)])) rfl (hb hby at_145) _ k) ?_
      show Go p e below _ (T_330.setTop (mkF m 147 #[vI p0, vI p1, vI p2, vI p3, vI 1, vR a_318, vI cc, vI 1, vU, vI 8, vU, vU] [(.int (2147483647 : Int32)), (.int p2)]))
      refine Go.step (fun _ k => XS.iand X_330.here hx rfl (hb hby at_147) rfl k) ?_
      show Go p e below _ (T_330.setTop (mkF m 148 #[vI p0, vI p1, vI p2, vI p3, vI 1, vR a_318, vI cc, vI 1, vU, vI 8, vU, vU] [(.int (p2 &&& (2147483647 : Int32)))]))
      refine Go.step (fun _ k => XS.iload X_330.here hx rfl (hb hby at_148) rfl  k) ?_
      refine Go.step (fun _ k => XS.iconst X_330.here hx rfl (hb hby at_150) k) ?_
      show Go p e below _ (T_330.setTop (mkF m 151 #[vI p0, vI p1, vI p2, vI p3, vI 1, vR a_318, vI cc, vI 1, vU, vI 8, vU, vU] [(.int (2 : Int32)), (.int (1 : Int32)), (.int (p2 &&& (2147483647 : Int32)))]))
      refine Go.step (fun _ k => XS.icmpYes X_330.here hx rfl (pc0 := 151) (pc' := 162) rfl (hb hby at_151) rfl (feq ((by decide) : ¬ ((1 : Int32) = (2 : Int32)))).2 (by decide) (by decide) k) ?_
      show Go p e below _ (T_330.setTop (mkF m 162 #[vI p0, vI p1, vI p2, vI p3, vI 1, vR a_318, vI cc, vI 1, vU, vI 8, vU, vU] [(.int (p2 &&& (2147483647 : Int32)))]))
      refine Go.step (fun _ k => XS.iload X_330.here hx rfl (hb hby at_162) rfl  k) ?_
      show Go p e below _ (T_330.setTop (mkF m 164 #[vI p0, vI p1, vI p2, vI p3, vI 1, vR a_318, vI cc, vI 1, vU, vI 8, vU, vU] [(.int (8 : Int32)), (.int (p2 &&& (2147483647 : Int32)))]))
      refine Go.step (fun _ k => iremM X_330 hx rfl (hb hby at_164) rfl (by decide) k) ?_
      show Go p e below _ (T_330.setTop (mkF m 165 #[vI p0, vI p1, vI p2, vI p3, vI 1, vR a_318, vI cc, vI 1, vU, vI 8, vU, vU] [(.int ((p2 &&& (2147483647 : Int32)) % (8 : Int32)))]))
      refine Go.step (fun _ k => XS.istore X_330.here hx rfl (hb hby at_165) rfl (l' := #[vI p0, vI p1, vI p2, vI p3, vI 1, vR a_318, vI cc, vI 1, vU, vI 8, vI ((p2 &&& (2147483647 : Int32)) % (8 : Int32)), vU]) rfl k) ?_
      show Go p e below _ (T_330.setTop (mkF m 167 #[vI p0, vI p1, vI p2, vI p3, vI 1, vR a_318, vI cc, vI 1, vU, vI 8, vI ((p2 &&& (2147483647 : Int32)) % (8 : Int32)), vU] []))
      obtain ⟨pp, h_pp⟩ : ∃ z, z = ((p2 &&& (2147483647 : Int32)) % (8 : Int32)) := ⟨_, rfl⟩
      rw [← h_pp]
      show Go p e below _ (T_330.setTop (mkF m 167 #[vI p0, vI p1, vI p2, vI p3, vI 1, vR a_318, vI cc, vI 1, vU, vI 8, vI pp, vU] []))
      have h_p : 0 ≤ pp.toInt ∧ pp.toInt < 8 := by rw [h_pp]; exact rem8 _
      show Go p e below _ (T_330.setTop (mkF m 167 #[vI p0, vI p1, vI p2, vI p3, vI 1, vR a_318, vI cc, vI 1, vU, vI 8, vI pp, vU] []))
      refine Go.step (fun _ k => XS.iload X_330.here hx rfl (hb hby at_167) rfl  k) ?_
      show Go p e below _ (T_330.setTop (mkF m 169 #[vI p0, vI p1, vI p2, vI p3, vI 1, vR a_318, vI cc, vI 1, vU, vI 8, vI pp, vU] [(.int (8 : Int32))]))
      obtain ⟨v_331, T_331, L_331, X_331, hQ_331, st_331⟩ := goS X_330 hx hZ_318 (y := Y_12) hown_318 (wd_22 hw) (wd_23 hw) (wd_24 hw) (wd_25 hw) (by decide) (backOf (W := 0) (rm_make8 l Z a0 hw zc vfm va kv ea eb ec ed wa wb wc wd h_318 n0 (Nat.le_trans Z0 KP_318.1) hSt O_318) hZ_318 (wd_25 hw) (wd_24 hw) (by decide) (by decide)) e_330 (g := (mkF m 169 #[vI p0, vI p1, vI p2, vI p3, vI 1, vR a_318, vI cc, vI 1, vU, vI 8, vI pp, vU] [(.int (8 : Int32))])) rfl (by rw [hml]; rfl) (argsL := [(.int (8 : Int32))]) (rest := []) rfl (lenOf pd_11 rfl) rfl (by show 2 * 0 + _ ≤ _; exact Nat.le_of_eq rfl) (hb hby at_169) (by decide) (by decide)
      obtain ⟨r_331, kr_331, rfl, Nq_331, K_331, u0_331, u1_331⟩ := hQ_331
      have N_331 := Fr.app N_330 Nq_331
      have C_331 := CHr.keep K_331 sf0 C_318.1
      have CR_331 := CHr.trans CR_318 C_331
      have le_331 : h_318.size ≤ T_331.heap.size := K_331.1
      have KP_331 := KP_318.trans K_331 all0
      have O_331 := O_318.keep K_331 all0
      have sz_r_331 : h0.size ≤ r_331 := Nat.le_trans le_318 u0_331
      have g_r_331 : n0 ≤ r_331 := Nat.le_trans Z0 sz_r_331
      have Sf_r_331 := Safe.keep K_331 sf0 C_318.1 (Safe.new u0_331)
      refine Go.step st_331 ?_
      show Go p e below _ (T_331.setTop (mkF m 172 #[vI p0, vI p1, vI p2, vI p3, vI 1, vR a_318, vI cc, vI 1, vU, vI 8, vI pp, vU] [(.ref r_331)]))
      refine Go.step (fun _ k => XS.astore X_331.here hx rfl (hb hby at_172) rfl rfl (l' := #[vI p0, vI p1, vI p2, vI p3, vI 1, vR a_318, vI cc, vI 1, vU, vI 8, vI pp, vR r_331]) rfl k) ?_
      show Go p e below _ (T_331.setTop (mkF m 174 #[vI p0, vI p1, vI p2, vI p3, vI 1, vR a_318, vI cc, vI 1, vU, vI 8, vI pp, vR r_331] []))
      have f332 : Str Z h_318.size T_331.heap a_318 ([(99 : Int32), (97 : Int32), (112 : Int32), (116 : Int32), (117 : Int32), (114 : Int32), (101 : Int32), (100 : Int32)] : List Int32) := (Sx_318.keep K_331 all0)
      refine sg_puts l Z a0 hw zc vfm va kv ea eb ec ed wa wb wc wd (p0) (p1) (p2) (p3) ((1 : Int32)) ((8 : Int32)) (r_331) (kr_331) ((8 : Int32)) (([(0 : Int32), (0 : Int32), (0 : Int32), (0 : Int32), (0 : Int32), (0 : Int32), (0 : Int32), (0 : Int32)] : List Int32)) (a_318) (([(99 : Int32), (97 : Int32), (112 : Int32), (116 : Int32), (117 : Int32), (114 : Int32), (101 : Int32), (100 : Int32)] : List Int32)) ((1 : Int32)) (pp) (cc) (h_318.size) T_331.heap n0 (Nat.le_trans Z0 KP_331.1) u1_331 g_r_331 f332 (Nat.le_trans (Nat.le_refl _) u0_331) rfl (by decide) (by decide) (fun i1 a b => by have a2 : 0 ≤ i1.toInt := Int.not_lt.mp (fun q => a (Int32.lt_iff_toInt_lt.mpr q)); have b2 : i1.toInt < 8 := Int32.lt_iff_toInt_lt.mp b; have hp := h_p; exact ⟨by decide, a2, hp.1, by show _ ≤ ((8 : Nat) : Int); omega, fun _ => by show _ < ((8 : Nat) : Int); omega, fun q => absurd q (by decide), fun _ b _ => absurd rfl b⟩) l_c hSt O_331 hx hby hml hZ_318 hown_318 X_331 rfl N_331 (by decide) (by decide) ?_
      intro T_333 L_333 vs2_333 X_333 hQ_333
      obtain ⟨N_333, K_333, u0_333, u1_333⟩ := hQ_333
      have C_333 := CHr.keep K_333 (sfS (Safe.arv hZ_318.alike u1_331 (by decide)) sf0) C_331.1
      have CR_333 := CHr.trans CR_331 C_333
      have le_333 : T_331.heap.size ≤ T_333.heap.size := K_333.1
      have KP_333 := KP_331.trans K_333 (allS (Or.inr sz_r_331) all0)
      have O_333 := O_331.keep K_333 (allS g_r_331 all0)
      have hv2_333 := u1_333
      show Go p e below _ (T_333.setTop (mkF m 303 #[vI p0, vI p1, vI p2, vI p3, vI 1, vR a_318, vI cc, vI 1, vU, vI 8, vI pp, vR r_331] []))
      have hL_333 : vs2_333.length = 8 := hv2_333.1
      show Go p e below _ (T_333.setTop (mkF m 303 #[vI p0, vI p1, vI p2, vI p3, vI 1, vR a_318, vI cc, vI 1, vU, vI 8, vI pp, vR r_331] []))
      obtain ⟨T_334, h_334, X_334, e_334, E_334, A_334, D_334, Un_334, st_334⟩ := newO X_333 hx hZ_318 hown_318 (wd_55 hw) (wd_2 hw) (wd_1 hw) rfl (g := (mkF m 303 #[vI p0, vI p1, vI p2, vI p3, vI 1, vR a_318, vI cc, vI 1, vU, vI 8, vI pp, vR r_331] [])) rfl (hb hby at_303) (by decide) (by decide)
      obtain ⟨b334, q_334⟩ : ∃ z, z = T_333.heap.size := ⟨_, rfl⟩
      rw [← q_334] at A_334 D_334 Un_334 st_334
      refine Go.step st_334 ?_
      have C_334 := CHr.ext E_334 C_333.1
      have CR_334 := CHr.trans CR_333 C_334
      have le_334 : T_333.heap.size ≤ h_334.size := E_334.1
      have KP_334 := KP_333.ext E_334
      have O_334 := O_333.ext E_334
      have ge_334 : T_333.heap.size ≤ b334 := Nat.le_of_eq q_334.symm
      have sz_b334 : h0.size ≤ b334 := Nat.le_trans (Nat.le_trans le_318 (Nat.le_trans le_331 le_333)) ge_334
      have g_b334 : n0 ≤ b334 := Nat.le_trans Z0 sz_b334
      have F_334_4 : Fld Z h_334 b334 "java/lang/String" "value" "[B" .null := D_334 (Or.inr (wd_4 hw)) (ty := (.array .byte)) pf_0
      have F_334_5 : Fld Z h_334 b334 "java/lang/String" "coder" "B" (.int (0 : Int32)) := D_334 (Or.inr (wd_5 hw)) (ty := .byte) pf_1
      have Sf_b334 := Safe.ext E_334 C_333.1 (Safe.new ge_334)
      show Go p e below _ (T_334.setTop (mkF m 306 #[vI p0, vI p1, vI p2, vI p3, vI 1, vR a_318, vI cc, vI 1, vU, vI 8, vI pp, vR r_331] [(.ref b334)]))
      refine Go.step (fun _ k => XS.dup X_334.here hx rfl (hb hby at_306) rfl rfl k) ?_
      refine Go.step (fun _ k => XS.aload X_334.here hx rfl (hb hby at_307) rfl rfl k) ?_
      show Go p e below _ (T_334.setTop (mkF m 309 #[vI p0, vI p1, vI p2, vI p3, vI 1, vR a_318, vI cc, vI 1, vU, vI 8, vI pp, vR r_331] [(.ref r_331), (.ref b334), (.ref b334)]))
      have f335 : Arv Z h_334 r_331 kr_331 .char (8 : Int32) (vs2_333.map Value.int) (.int (0 : Int32)) := (u0_333.ext E_334)
      obtain ⟨v_336, T_336, L_336, X_336, hQ_336, st_336⟩ := goC X_334 hx hZ_318 (y := Y_13) hown_318 rfl (wd_56 hw) (wd_57 hw) (wd_58 hw) (by decide) (StrChars.Road.backV (W := 1) hZ_318 (sw_words hw) (kI := 4) (wd_2 hw) (cs := vs2_333) (bs := vs2_333.map (fun c => c.toInt8.toInt32)) (n := 8) g_b334 (Nat.le_trans Z0 KP_334.1) A_334 F_334_4 F_334_5 f335 (S_cs.ext O_334.2) n_cs hL_333 rfl (by decide) (by decide) hv2_333.2 rfl (by decide) (by decide)) e_334 (g := (mkF m 309 #[vI p0, vI p1, vI p2, vI p3, vI 1, vR a_318, vI cc, vI 1, vU, vI 8, vI pp, vR r_331] [(.ref r_331), (.ref b334), (.ref b334)])) rfl (by rw [hml]; rfl) (a := b334) (argsL := [(.ref r_331)]) (rest := [(.ref b334)]) rfl (lenOf pd_12 rfl) rfl (by show 2 * 0 + _ ≤ _; exact Nat.le_of_eq rfl) (hb hby at_309) (by decide) (by decide)
      obtain ⟨rfl, Nq_336, K_336, Ex_336, Fc_336, t_336, kb_336, -, gt_336, -, Fv_336, Av_336⟩ := hQ_336
      have N_336 := Fr.app N_333 Nq_336
      have C_336 := CHr.keep K_336 (sfS Sf_b334 sf0) C_334.1
      have CR_336 := CHr.trans CR_334 C_336
      have le_336 : h_334.size ≤ T_336.heap.size := K_336.1
      have KP_336 := KP_334.trans K_336 (allS (Or.inr sz_b334) all0)
      have O_336 := O_334.keep K_336 (allS g_b334 all0)
      have Sx_336 : Str Z (T_336.heap).size (T_336.heap) b334 vs2_333 := ⟨t_336, kb_336, Ex_336.lt, Av_336.lt, Ex_336, Fv_336, Fc_336, by rw [show vs2_333.length = 8 from hL_333]; exact Av_336, hv2_333.2, by rw [show vs2_333.length = 8 from hL_333]; decide⟩
      refine Go.step st_336 ?_
      show Go p e below _ (T_336.setTop (mkF m 312 #[vI p0, vI p1, vI p2, vI p3, vI 1, vR a_318, vI cc, vI 1, vU, vI 8, vI pp, vR r_331] [(.ref b334)]))
      refine Go.step (fun _ k => XS.astore X_336.here hx rfl (hb hby at_312) rfl rfl (l' := #[vI p0, vI p1, vI p2, vI p3, vI 1, vR a_318, vI cc, vI 1, vR b334, vI 8, vI pp, vR r_331]) rfl k) ?_
      show Go p e below _ (T_336.setTop (mkF m 314 #[vI p0, vI p1, vI p2, vI p3, vI 1, vR a_318, vI cc, vI 1, vR b334, vI 8, vI pp, vR r_331] []))
      exact tg_tailS l Z a0 hw zc vfm va kv ea eb ec ed wa wb wc wd ((vI p0)) ((vI p1)) ((vI p2)) ((vI p3)) ((vI 1)) ((vR a_318)) ((vI cc)) ((vI 1)) ((vI 8)) ((vI pp)) ((vR r_331)) (b334) (vs2_333) T_336.heap n0 (Nat.le_trans Z0 KP_336.1) Sx_336 hSt O_336 hx hby hml hret hlk hZ_318 hown_318 X_336 rfl N_336 hS_318 (Nat.le_trans hk_318 (Nat.le_trans le_331 (Nat.le_trans le_333 (Nat.le_trans le_334 le_336)))) C_336.1 CR_336 hh0 (by decide) (by decide)
    · skip
      show Go p e below _ (T_318.setTop (mkF m 58 #[vI p0, vI p1, vI p2, vI p3, vI 1, vR a_318, vI cc, vI 2, vU, vU, vU, vU] []))
      refine Go.step (fun _ k => XS.iload X_318.here hx rfl (hb hby at_58) rfl  k) ?_
      refine Go.step (fun _ k => XS.iconst X_318.here hx rfl (hb hby at_60) k) ?_
      show Go p e below _ (T_318.setTop (mkF m 61 #[vI p0, vI p1, vI p2, vI p3, vI 1, vR a_318, vI cc, vI 2, vU, vU, vU, vU] [(.int (4 : Int32)), (.int (2 : Int32))]))
      refine Go.step (fun _ k => XS.icmpYes X_318.here hx rfl (pc0 := 61) (pc' := 74) rfl (hb hby at_61) rfl (feq ((by decide) : ¬ ((2 : Int32) = (4 : Int32)))).2 (by decide) (by decide) k) ?_
      show Go p e below _ (T_318.setTop (mkF m 74 #[vI p0, vI p1, vI p2, vI p3, vI 1, vR a_318, vI cc, vI 2, vU, vU, vU, vU] []))
      refine Go.step (fun _ k => XS.iload X_318.here hx rfl (hb hby at_74) rfl  k) ?_
      refine Go.step (fun _ k => XS.iconst X_318.here hx rfl (hb hby at_76) k) ?_
      show Go p e below _ (T_318.setTop (mkF m 77 #[vI p0, vI p1, vI p2, vI p3, vI 1, vR a_318, vI cc, vI 2, vU, vU, vU, vU] [(.int (5 : Int32)), (.int (2 : Int32))]))
      refine Go.step (fun _ k => XS.icmpYes X_318.here hx rfl (pc0 := 77) (pc' := 105) rfl (hb hby at_77) rfl (feq ((by decide) : ¬ ((2 : Int32) = (5 : Int32)))).2 (by decide) (by decide) k) ?_
      show Go p e below _ (T_318.setTop (mkF m 105 #[vI p0, vI p1, vI p2, vI p3, vI 1, vR a_318, vI cc, vI 2, vU, vU, vU, vU] []))
      refine Go.step (fun _ k => XS.iload X_318.here hx rfl (hb hby at_105) rfl  k) ?_
      refine Go.step (fun _ k => XS.iconst X_318.here hx rfl (hb hby at_107) k) ?_
      show Go p e below _ (T_318.setTop (mkF m 108 #[vI p0, vI p1, vI p2, vI p3, vI 1, vR a_318, vI cc, vI 2, vU, vU, vU, vU] [(.int (2 : Int32)), (.int (2 : Int32))]))
      refine Go.step (fun _ k => XS.icmpNo X_318.here hx rfl (hb hby at_108) rfl (teq ((by decide) : (2 : Int32) = (2 : Int32))).2 k) ?_
      show Go p e below _ (T_318.setTop (mkF m 111 #[vI p0, vI p1, vI p2, vI p3, vI 1, vR a_318, vI cc, vI 2, vU, vU, vU, vU] []))
      refine Go.step (fun _ k => XS.aload X_318.here hx rfl (hb hby at_111) rfl rfl k) ?_
      show Go p e below _ (T_318.setTop (mkF m 113 #[vI p0, vI p1, vI p2, vI p3, vI 1, vR a_318, vI cc, vI 2, vU, vU, vU, vU] [(.ref a_318)]))
      have cp337 := Sx_318
      obtain ⟨t338, kb338, -, -, Ex338, Fv338, Fc338, Av338, hl338, hn338⟩ := cp337
      obtain ⟨v_339, T_339, L_339, X_339, hQ_339, st_339⟩ := goV X_318 hx hZ_318 (y := Y_11) (z := Y_11) (kc := 0) (ks := 0) (QQ := fun v h' L => v = some (.int (8 : Int32)) ∧ L = [] ∧ h' = h_318) hown_318 (wd_9 hw) (wd_10 hw) (notFace_of_selects (args := #[]) (mvT hZ_318 (wd_12 hw))) (wd_12 hw) (wd_11 hw) (by decide) (StrChars.Road.lenW (W := 0) hZ_318 (sw_wordsLen hw) (kI := 4) (wd_2 hw) Ex338 Fv338 Fc338 Av338 (StrChars.Road.codOf rfl (fun c hc => (hl338 c hc).2)) (up255 hl338) (S_cs.ext O_318.2) n_cs hn338 (by decide) (by decide)) e_318 Ex338 (g := (mkF m 113 #[vI p0, vI p1, vI p2, vI p3, vI 1, vR a_318, vI cc, vI 2, vU, vU, vU, vU] [(.ref a_318)])) rfl (by rw [hml]; rfl) (argsL := []) (rest := []) rfl (lenOf pd_10 rfl) rfl (by show 2 * 0 + _ ≤ _; exact Nat.le_of_eq rfl) (hb hby at_113) (by decide) (by decide)
      obtain ⟨rfl, rfl, e_339⟩ := hQ_339
      have N_339 := Fr.app N0 (Fr.nil n0)
      refine Go.step st_339 ?_
      show Go p e below _ (T_339.setTop (mkF m 116 #[vI p0, vI p1, vI p2, vI p3, vI 1, vR a_318, vI cc, vI 2, vU, vU, vU, vU] [(.int (8 : Int32))]))
      refine Go.step (fun _ k => XS.iconst X_339.here hx rfl (hb hby at_116) k) ?_
      show Go p e below _ (T_339.setTop (mkF m 117 #[vI p0, vI p1, vI p2, vI p3, vI 1, vR a_318, vI cc, vI 2, vU, vU, vU, vU] [(.int (1 : Int32)), (.int (8 : Int32))]))
      refine Go.step (fun _ k => XS.isub X_339.here hx rfl (hb hby at_117) rfl k) ?_
      show Go p e below _ (T_339.setTop (mkF m 118 #[vI p0, vI p1, vI p2, vI p3, vI 1, vR a_318, vI cc, vI 2, vU, vU, vU, vU] [(.int ((8 : Int32) - (1 : Int32)))]))
      refine own_top (congrArg Value.int (show ((8 : Int32) - (1 : Int32)) = (7 : Int32) from by decide)) ?_
      show Go p e below _ (T_339.setTop (mkF m 118 #[vI p0, vI p1, vI p2, vI p3, vI 1, vR a_318, vI cc, vI 2, vU, vU, vU, vU] [(.int (7 : Int32))]))
      refine Go.step (fun _ k => XS.goto X_339.here hx rfl (pc0 := 118) (pc' := 142) rfl (hb hby at_118) (by decide) (by decide) k) ?_
      show Go p e below _ (T_339.setTop (mkF m 142 #[vI p0, vI p1, vI p2, vI p3, vI 1, vR a_318, vI cc, vI 2, vU, vU, vU, vU] [(.int (7 : Int32))]))
      refine Go.step (fun _ k => XS.istore X_339.here hx rfl (hb hby at_142) rfl (l' := #[vI p0, vI p1, vI p2, vI p3, vI 1, vR a_318, vI cc, vI 2, vU, vI 7, vU, vU]) rfl k) ?_
      show Go p e below _ (T_339.setTop (mkF m 144 #[vI p0, vI p1, vI p2, vI p3, vI 1, vR a_318, vI cc, vI 2, vU, vI 7, vU, vU] []))
      refine Go.step (fun _ k => XS.iloadN X_339.here hx rfl (hb hby at_144) rfl  k) ?_
      show Go p e below _ (T_339.setTop (mkF m 145 #[vI p0, vI p1, vI p2, vI p3, vI 1, vR a_318, vI cc, vI 2, vU, vI 7, vU, vU] [(.int p2)]))
      refine Go.step (fun _ k => X_339.ldcInt hx hown_318 (mvT hZ_318 (wd_8 hw)) (g := (mkF m 145 #[vI p0, vI p1, vI p2, vI p3, vI 1, vR a_318, vI cc, vI 2, vU, vI 7, vU, vU] [(.int p2)])) rfl (hb hby at_145) _ k) ?_
      show Go p e below _ (T_339.setTop (mkF m 147 #[vI p0, vI p1, vI p2, vI p3, vI 1, vR a_318, vI cc, vI 2, vU, vI 7, vU, vU] [(.int (2147483647 : Int32)), (.int p2)]))
      refine Go.step (fun _ k => XS.iand X_339.here hx rfl (hb hby at_147) rfl k) ?_
      show Go p e below _ (T_339.setTop (mkF m 148 #[vI p0, vI p1, vI p2, vI p3, vI 1, vR a_318, vI cc, vI 2, vU, vI 7, vU, vU] [(.int (p2 &&& (2147483647 : Int32)))]))
      refine Go.step (fun _ k => XS.iload X_339.here hx rfl (hb hby at_148) rfl  k) ?_
      refine Go.step (fun _ k => XS.iconst X_339.here hx rfl (hb hby at_150) k) ?_
      show Go p e below _ (T_339.setTop (mkF m 151 #[vI p0, vI p1, vI p2, vI p3, vI 1, vR a_318, vI cc, vI 2, vU, vI 7, vU, vU] [(.int (2 : Int32)), (.int (2 : Int32)), (.int (p2 &&& (2147483647 : Int32)))]))
      refine Go.step (fun _ k => XS.icmpNo X_339.here hx rfl (hb hby at_151) rfl (teq ((by decide) : (2 : Int32) = (2 : Int32))).2 k) ?_
      show Go p e below _ (T_339.setTop (mkF m 154 #[vI p0, vI p1, vI p2, vI p3, vI 1, vR a_318, vI cc, vI 2, vU, vI 7, vU, vU] [(.int (p2 &&& (2147483647 : Int32)))]))
      refine Go.step (fun _ k => XS.aload X_339.here hx rfl (hb hby at_154) rfl rfl k) ?_
      show Go p e below _ (T_339.setTop (mkF m 156 #[vI p0, vI p1, vI p2, vI p3, vI 1, vR a_318, vI cc, vI 2, vU, vI 7, vU, vU] [(.ref a_318), (.int (p2 &&& (2147483647 : Int32)))]))
      have cp340 := Sx_318
      obtain ⟨t341, kb341, -, -, Ex341, Fv341, Fc341, Av341, hl341, hn341⟩ := cp340
      obtain ⟨v_342, T_342, L_342, X_342, hQ_342, st_342⟩ := goV X_339 hx hZ_318 (y := Y_11) (z := Y_11) (kc := 0) (ks := 0) (QQ := fun v h' L => v = some (.int (8 : Int32)) ∧ L = [] ∧ h' = h_318) hown_318 (wd_9 hw) (wd_10 hw) (notFace_of_selects (args := #[]) (mvT hZ_318 (wd_12 hw))) (wd_12 hw) (wd_11 hw) (by decide) (StrChars.Road.lenW (W := 1) hZ_318 (sw_wordsLen hw) (kI := 4) (wd_2 hw) Ex341 Fv341 Fc341 Av341 (StrChars.Road.codOf rfl (fun c hc => (hl341 c hc).2)) (up255 hl341) (S_cs.ext O_318.2) n_cs hn341 (by decide) (by decide)) e_339 Ex341 (g := (mkF m 156 #[vI p0, vI p1, vI p2, vI p3, vI 1, vR a_318, vI cc, vI 2, vU, vI 7, vU, vU] [(.ref a_318), (.int (p2 &&& (2147483647 : Int32)))])) rfl (by rw [hml]; rfl) (argsL := []) (rest := [(.int (p2 &&& (2147483647 : Int32)))]) rfl (lenOf pd_10 rfl) rfl (by show 2 * 0 + _ ≤ _; exact Nat.le_of_eq rfl) (hb hby at_156) (by decide) (by decide)
      obtain ⟨rfl, rfl, e_342⟩ := hQ_342
      have N_342 := Fr.app N_339 (Fr.nil n0)
      refine Go.step st_342 ?_
      show Go p e below _ (T_342.setTop (mkF m 159 #[vI p0, vI p1, vI p2, vI p3, vI 1, vR a_318, vI cc, vI 2, vU, vI 7, vU, vU] [(.int (8 : Int32)), (.int (p2 &&& (2147483647 : Int32)))]))
      refine Go.step (fun _ k => XS.goto X_342.here hx rfl (pc0 := 159) (pc' := 164) rfl (hb hby at_159) (by decide) (by decide) k) ?_
      show Go p e below _ (T_342.setTop (mkF m 164 #[vI p0, vI p1, vI p2, vI p3, vI 1, vR a_318, vI cc, vI 2, vU, vI 7, vU, vU] [(.int (8 : Int32)), (.int (p2 &&& (2147483647 : Int32)))]))
      refine Go.step (fun _ k => iremM X_342 hx rfl (hb hby at_164) rfl (by decide) k) ?_
      show Go p e below _ (T_342.setTop (mkF m 165 #[vI p0, vI p1, vI p2, vI p3, vI 1, vR a_318, vI cc, vI 2, vU, vI 7, vU, vU] [(.int ((p2 &&& (2147483647 : Int32)) % (8 : Int32)))]))
      refine Go.step (fun _ k => XS.istore X_342.here hx rfl (hb hby at_165) rfl (l' := #[vI p0, vI p1, vI p2, vI p3, vI 1, vR a_318, vI cc, vI 2, vU, vI 7, vI ((p2 &&& (2147483647 : Int32)) % (8 : Int32)), vU]) rfl k) ?_
      show Go p e below _ (T_342.setTop (mkF m 167 #[vI p0, vI p1, vI p2, vI p3, vI 1, vR a_318, vI cc, vI 2, vU, vI 7, vI ((p2 &&& (2147483647 : Int32)) % (8 : Int32)), vU] []))
      obtain ⟨pp, h_pp⟩ : ∃ z, z = ((p2 &&& (2147483647 : Int32)) % (8 : Int32)) := ⟨_, rfl⟩
      rw [← h_pp]
      show Go p e below _ (T_342.setTop (mkF m 167 #[vI p0, vI p1, vI p2, vI p3, vI 1, vR a_318, vI cc, vI 2, vU, vI 7, vI pp, vU] []))
      have h_p : 0 ≤ pp.toInt ∧ pp.toInt < 8 := by rw [h_pp]; exact rem8 _
      show Go p e below _ (T_342.setTop (mkF m 167 #[vI p0, vI p1, vI p2, vI p3, vI 1, vR a_318, vI cc, vI 2, vU, vI 7, vI pp, vU] []))
      refine Go.step (fun _ k => XS.iload X_342.here hx rfl (hb hby at_167) rfl  k) ?_
      show Go p e below _ (T_342.setTop (mkF m 169 #[vI p0, vI p1, vI p2, vI p3, vI 1, vR a_318, vI cc, vI 2, vU, vI 7, vI pp, vU] [(.int (7 : Int32))]))
      obtain ⟨v_343, T_343, L_343, X_343, hQ_343, st_343⟩ := goS X_342 hx hZ_318 (y := Y_12) hown_318 (wd_22 hw) (wd_23 hw) (wd_24 hw) (wd_25 hw) (by decide) (backOf (W := 0) (rm_make7 l Z a0 hw zc vfm va kv ea eb ec ed wa wb wc wd h_318 n0 (Nat.le_trans Z0 KP_318.1) hSt O_318) hZ_318 (wd_25 hw) (wd_24 hw) (by decide) (by decide)) e_342 (g := (mkF m 169 #[vI p0, vI p1, vI p2, vI p3, vI 1, vR a_318, vI cc, vI 2, vU, vI 7, vI pp, vU] [(.int (7 : Int32))])) rfl (by rw [hml]; rfl) (argsL := [(.int (7 : Int32))]) (rest := []) rfl (lenOf pd_11 rfl) rfl (by show 2 * 0 + _ ≤ _; exact Nat.le_of_eq rfl) (hb hby at_169) (by decide) (by decide)
      obtain ⟨r_343, kr_343, rfl, Nq_343, K_343, u0_343, u1_343⟩ := hQ_343
      have N_343 := Fr.app N_342 Nq_343
      have C_343 := CHr.keep K_343 sf0 C_318.1
      have CR_343 := CHr.trans CR_318 C_343
      have le_343 : h_318.size ≤ T_343.heap.size := K_343.1
      have KP_343 := KP_318.trans K_343 all0
      have O_343 := O_318.keep K_343 all0
      have sz_r_343 : h0.size ≤ r_343 := Nat.le_trans le_318 u0_343
      have g_r_343 : n0 ≤ r_343 := Nat.le_trans Z0 sz_r_343
      have Sf_r_343 := Safe.keep K_343 sf0 C_318.1 (Safe.new u0_343)
      refine Go.step st_343 ?_
      show Go p e below _ (T_343.setTop (mkF m 172 #[vI p0, vI p1, vI p2, vI p3, vI 1, vR a_318, vI cc, vI 2, vU, vI 7, vI pp, vU] [(.ref r_343)]))
      refine Go.step (fun _ k => XS.astore X_343.here hx rfl (hb hby at_172) rfl rfl (l' := #[vI p0, vI p1, vI p2, vI p3, vI 1, vR a_318, vI cc, vI 2, vU, vI 7, vI pp, vR r_343]) rfl k) ?_
      show Go p e below _ (T_343.setTop (mkF m 174 #[vI p0, vI p1, vI p2, vI p3, vI 1, vR a_318, vI cc, vI 2, vU, vI 7, vI pp, vR r_343] []))
      have f344 : Str Z h_318.size T_343.heap a_318 ([(99 : Int32), (97 : Int32), (112 : Int32), (116 : Int32), (117 : Int32), (114 : Int32), (101 : Int32), (100 : Int32)] : List Int32) := (Sx_318.keep K_343 all0)
      refine sg_puts l Z a0 hw zc vfm va kv ea eb ec ed wa wb wc wd (p0) (p1) (p2) (p3) ((1 : Int32)) ((7 : Int32)) (r_343) (kr_343) ((7 : Int32)) (([(0 : Int32), (0 : Int32), (0 : Int32), (0 : Int32), (0 : Int32), (0 : Int32), (0 : Int32)] : List Int32)) (a_318) (([(99 : Int32), (97 : Int32), (112 : Int32), (116 : Int32), (117 : Int32), (114 : Int32), (101 : Int32), (100 : Int32)] : List Int32)) ((2 : Int32)) (pp) (cc) (h_318.size) T_343.heap n0 (Nat.le_trans Z0 KP_343.1) u1_343 g_r_343 f344 (Nat.le_trans (Nat.le_refl _) u0_343) rfl (by decide) (by decide) (fun i1 a b => by have a2 : 0 ≤ i1.toInt := Int.not_lt.mp (fun q => a (Int32.lt_iff_toInt_lt.mpr q)); have b2 : i1.toInt < 7 := Int32.lt_iff_toInt_lt.mp b; have hp := h_p; exact ⟨by decide, a2, hp.1, by show _ ≤ ((8 : Nat) : Int); omega, fun q => absurd q (by decide), fun _ => by show _ < ((8 : Nat) : Int); omega, fun _ _ c => absurd rfl c⟩) l_c hSt O_343 hx hby hml hZ_318 hown_318 X_343 rfl N_343 (by decide) (by decide) ?_
      intro T_345 L_345 vs2_345 X_345 hQ_345
      obtain ⟨N_345, K_345, u0_345, u1_345⟩ := hQ_345
      have C_345 := CHr.keep K_345 (sfS (Safe.arv hZ_318.alike u1_343 (by decide)) sf0) C_343.1
      have CR_345 := CHr.trans CR_343 C_345
      have le_345 : T_343.heap.size ≤ T_345.heap.size := K_345.1
      have KP_345 := KP_343.trans K_345 (allS (Or.inr sz_r_343) all0)
      have O_345 := O_343.keep K_345 (allS g_r_343 all0)
      have hv2_345 := u1_345
      show Go p e below _ (T_345.setTop (mkF m 303 #[vI p0, vI p1, vI p2, vI p3, vI 1, vR a_318, vI cc, vI 2, vU, vI 7, vI pp, vR r_343] []))
      have hL_345 : vs2_345.length = 7 := hv2_345.1
      show Go p e below _ (T_345.setTop (mkF m 303 #[vI p0, vI p1, vI p2, vI p3, vI 1, vR a_318, vI cc, vI 2, vU, vI 7, vI pp, vR r_343] []))
      obtain ⟨T_346, h_346, X_346, e_346, E_346, A_346, D_346, Un_346, st_346⟩ := newO X_345 hx hZ_318 hown_318 (wd_55 hw) (wd_2 hw) (wd_1 hw) rfl (g := (mkF m 303 #[vI p0, vI p1, vI p2, vI p3, vI 1, vR a_318, vI cc, vI 2, vU, vI 7, vI pp, vR r_343] [])) rfl (hb hby at_303) (by decide) (by decide)
      obtain ⟨b346, q_346⟩ : ∃ z, z = T_345.heap.size := ⟨_, rfl⟩
      rw [← q_346] at A_346 D_346 Un_346 st_346
      refine Go.step st_346 ?_
      have C_346 := CHr.ext E_346 C_345.1
      have CR_346 := CHr.trans CR_345 C_346
      have le_346 : T_345.heap.size ≤ h_346.size := E_346.1
      have KP_346 := KP_345.ext E_346
      have O_346 := O_345.ext E_346
      have ge_346 : T_345.heap.size ≤ b346 := Nat.le_of_eq q_346.symm
      have sz_b346 : h0.size ≤ b346 := Nat.le_trans (Nat.le_trans le_318 (Nat.le_trans le_343 le_345)) ge_346
      have g_b346 : n0 ≤ b346 := Nat.le_trans Z0 sz_b346
      have F_346_4 : Fld Z h_346 b346 "java/lang/String" "value" "[B" .null := D_346 (Or.inr (wd_4 hw)) (ty := (.array .byte)) pf_0
      have F_346_5 : Fld Z h_346 b346 "java/lang/String" "coder" "B" (.int (0 : Int32)) := D_346 (Or.inr (wd_5 hw)) (ty := .byte) pf_1
      have Sf_b346 := Safe.ext E_346 C_345.1 (Safe.new ge_346)
      show Go p e below _ (T_346.setTop (mkF m 306 #[vI p0, vI p1, vI p2, vI p3, vI 1, vR a_318, vI cc, vI 2, vU, vI 7, vI pp, vR r_343] [(.ref b346)]))
      refine Go.step (fun _ k => XS.dup X_346.here hx rfl (hb hby at_306) rfl rfl k) ?_
      refine Go.step (fun _ k => XS.aload X_346.here hx rfl (hb hby at_307) rfl rfl k) ?_
      show Go p e below _ (T_346.setTop (mkF m 309 #[vI p0, vI p1, vI p2, vI p3, vI 1, vR a_318, vI cc, vI 2, vU, vI 7, vI pp, vR r_343] [(.ref r_343), (.ref b346), (.ref b346)]))
      have f347 : Arv Z h_346 r_343 kr_343 .char (7 : Int32) (vs2_345.map Value.int) (.int (0 : Int32)) := (u0_345.ext E_346)
      obtain ⟨v_348, T_348, L_348, X_348, hQ_348, st_348⟩ := goC X_346 hx hZ_318 (y := Y_13) hown_318 rfl (wd_56 hw) (wd_57 hw) (wd_58 hw) (by decide) (StrChars.Road.backV (W := 1) hZ_318 (sw_words hw) (kI := 4) (wd_2 hw) (cs := vs2_345) (bs := vs2_345.map (fun c => c.toInt8.toInt32)) (n := 7) g_b346 (Nat.le_trans Z0 KP_346.1) A_346 F_346_4 F_346_5 f347 (S_cs.ext O_346.2) n_cs hL_345 rfl (by decide) (by decide) hv2_345.2 rfl (by decide) (by decide)) e_346 (g := (mkF m 309 #[vI p0, vI p1, vI p2, vI p3, vI 1, vR a_318, vI cc, vI 2, vU, vI 7, vI pp, vR r_343] [(.ref r_343), (.ref b346), (.ref b346)])) rfl (by rw [hml]; rfl) (a := b346) (argsL := [(.ref r_343)]) (rest := [(.ref b346)]) rfl (lenOf pd_12 rfl) rfl (by show 2 * 0 + _ ≤ _; exact Nat.le_of_eq rfl) (hb hby at_309) (by decide) (by decide)
      obtain ⟨rfl, Nq_348, K_348, Ex_348, Fc_348, t_348, kb_348, -, gt_348, -, Fv_348, Av_348⟩ := hQ_348
      have N_348 := Fr.app N_345 Nq_348
      have C_348 := CHr.keep K_348 (sfS Sf_b346 sf0) C_346.1
      have CR_348 := CHr.trans CR_346 C_348
      have le_348 : h_346.size ≤ T_348.heap.size := K_348.1
      have KP_348 := KP_346.trans K_348 (allS (Or.inr sz_b346) all0)
      have O_348 := O_346.keep K_348 (allS g_b346 all0)
      have Sx_348 : Str Z (T_348.heap).size (T_348.heap) b346 vs2_345 := ⟨t_348, kb_348, Ex_348.lt, Av_348.lt, Ex_348, Fv_348, Fc_348, by rw [show vs2_345.length = 7 from hL_345]; exact Av_348, hv2_345.2, by rw [show vs2_345.length = 7 from hL_345]; decide⟩
      refine Go.step st_348 ?_
      show Go p e below _ (T_348.setTop (mkF m 312 #[vI p0, vI p1, vI p2, vI p3, vI 1, vR a_318, vI cc, vI 2, vU, vI 7, vI pp, vR r_343] [(.ref b346)]))
      refine Go.step (fun _ k => XS.astore X_348.here hx rfl (hb hby at_312) rfl rfl (l' := #[vI p0, vI p1, vI p2, vI p3, vI 1, vR a_318, vI cc, vI 2, vR b346, vI 7, vI pp, vR r_343]) rfl k) ?_
      show Go p e below _ (T_348.setTop (mkF m 314 #[vI p0, vI p1, vI p2, vI p3, vI 1, vR a_318, vI cc, vI 2, vR b346, vI 7, vI pp, vR r_343] []))
      exact tg_tailS l Z a0 hw zc vfm va kv ea eb ec ed wa wb wc wd ((vI p0)) ((vI p1)) ((vI p2)) ((vI p3)) ((vI 1)) ((vR a_318)) ((vI cc)) ((vI 2)) ((vI 7)) ((vI pp)) ((vR r_343)) (b346) (vs2_345) T_348.heap n0 (Nat.le_trans Z0 KP_348.1) Sx_348 hSt O_348 hx hby hml hret hlk hZ_318 hown_318 X_348 rfl N_348 hS_318 (Nat.le_trans hk_318 (Nat.le_trans le_343 (Nat.le_trans le_345 (Nat.le_trans le_346 le_348)))) C_348.1 CR_348 hh0 (by decide) (by decide)
    · skip
      show Go p e below _ (T_318.setTop (mkF m 58 #[vI p0, vI p1, vI p2, vI p3, vI 1, vR a_318, vI cc, vI 3, vU, vU, vU, vU] []))
      refine Go.step (fun _ k => XS.iload X_318.here hx rfl (hb hby at_58) rfl  k) ?_
      refine Go.step (fun _ k => XS.iconst X_318.here hx rfl (hb hby at_60) k) ?_
      show Go p e below _ (T_318.setTop (mkF m 61 #[vI p0, vI p1, vI p2, vI p3, vI 1, vR a_318, vI cc, vI 3, vU, vU, vU, vU] [(.int (4 : Int32)), (.int (3 : Int32))]))
      refine Go.step (fun _ k => XS.icmpYes X_318.here hx rfl (pc0 := 61) (pc' := 74) rfl (hb hby at_61) rfl (feq ((by decide) : ¬ ((3 : Int32) = (4 : Int32)))).2 (by decide) (by decide) k) ?_
      show Go p e below _ (T_318.setTop (mkF m 74 #[vI p0, vI p1, vI p2, vI p3, vI 1, vR a_318, vI cc, vI 3, vU, vU, vU, vU] []))
      refine Go.step (fun _ k => XS.iload X_318.here hx rfl (hb hby at_74) rfl  k) ?_
      refine Go.step (fun _ k => XS.iconst X_318.here hx rfl (hb hby at_76) k) ?_
      show Go p e below _ (T_318.setTop (mkF m 77 #[vI p0, vI p1, vI p2, vI p3, vI 1, vR a_318, vI cc, vI 3, vU, vU, vU, vU] [(.int (5 : Int32)), (.int (3 : Int32))]))
      refine Go.step (fun _ k => XS.icmpYes X_318.here hx rfl (pc0 := 77) (pc' := 105) rfl (hb hby at_77) rfl (feq ((by decide) : ¬ ((3 : Int32) = (5 : Int32)))).2 (by decide) (by decide) k) ?_
      show Go p e below _ (T_318.setTop (mkF m 105 #[vI p0, vI p1, vI p2, vI p3, vI 1, vR a_318, vI cc, vI 3, vU, vU, vU, vU] []))
      refine Go.step (fun _ k => XS.iload X_318.here hx rfl (hb hby at_105) rfl  k) ?_
      refine Go.step (fun _ k => XS.iconst X_318.here hx rfl (hb hby at_107) k) ?_
      show Go p e below _ (T_318.setTop (mkF m 108 #[vI p0, vI p1, vI p2, vI p3, vI 1, vR a_318, vI cc, vI 3, vU, vU, vU, vU] [(.int (2 : Int32)), (.int (3 : Int32))]))
      refine Go.step (fun _ k => XS.icmpYes X_318.here hx rfl (pc0 := 108) (pc' := 121) rfl (hb hby at_108) rfl (feq ((by decide) : ¬ ((3 : Int32) = (2 : Int32)))).2 (by decide) (by decide) k) ?_
      show Go p e below _ (T_318.setTop (mkF m 121 #[vI p0, vI p1, vI p2, vI p3, vI 1, vR a_318, vI cc, vI 3, vU, vU, vU, vU] []))
      refine Go.step (fun _ k => XS.iload X_318.here hx rfl (hb hby at_121) rfl  k) ?_
      refine Go.step (fun _ k => XS.iconst X_318.here hx rfl (hb hby at_123) k) ?_
      show Go p e below _ (T_318.setTop (mkF m 124 #[vI p0, vI p1, vI p2, vI p3, vI 1, vR a_318, vI cc, vI 3, vU, vU, vU, vU] [(.int (3 : Int32)), (.int (3 : Int32))]))
      refine Go.step (fun _ k => XS.icmpNo X_318.here hx rfl (hb hby at_124) rfl (teq ((by decide) : (3 : Int32) = (3 : Int32))).2 k) ?_
      show Go p e below _ (T_318.setTop (mkF m 127 #[vI p0, vI p1, vI p2, vI p3, vI 1, vR a_318, vI cc, vI 3, vU, vU, vU, vU] []))
      refine Go.step (fun _ k => XS.aload X_318.here hx rfl (hb hby at_127) rfl rfl k) ?_
      show Go p e below _ (T_318.setTop (mkF m 129 #[vI p0, vI p1, vI p2, vI p3, vI 1, vR a_318, vI cc, vI 3, vU, vU, vU, vU] [(.ref a_318)]))
      have cp349 := Sx_318
      obtain ⟨t350, kb350, -, -, Ex350, Fv350, Fc350, Av350, hl350, hn350⟩ := cp349
      obtain ⟨v_351, T_351, L_351, X_351, hQ_351, st_351⟩ := goV X_318 hx hZ_318 (y := Y_11) (z := Y_11) (kc := 0) (ks := 0) (QQ := fun v h' L => v = some (.int (8 : Int32)) ∧ L = [] ∧ h' = h_318) hown_318 (wd_9 hw) (wd_10 hw) (notFace_of_selects (args := #[]) (mvT hZ_318 (wd_12 hw))) (wd_12 hw) (wd_11 hw) (by decide) (StrChars.Road.lenW (W := 0) hZ_318 (sw_wordsLen hw) (kI := 4) (wd_2 hw) Ex350 Fv350 Fc350 Av350 (StrChars.Road.codOf rfl (fun c hc => (hl350 c hc).2)) (up255 hl350) (S_cs.ext O_318.2) n_cs hn350 (by decide) (by decide)) e_318 Ex350 (g := (mkF m 129 #[vI p0, vI p1, vI p2, vI p3, vI 1, vR a_318, vI cc, vI 3, vU, vU, vU, vU] [(.ref a_318)])) rfl (by rw [hml]; rfl) (argsL := []) (rest := []) rfl (lenOf pd_10 rfl) rfl (by show 2 * 0 + _ ≤ _; exact Nat.le_of_eq rfl) (hb hby at_129) (by decide) (by decide)
      obtain ⟨rfl, rfl, e_351⟩ := hQ_351
      have N_351 := Fr.app N0 (Fr.nil n0)
      refine Go.step st_351 ?_
      show Go p e below _ (T_351.setTop (mkF m 132 #[vI p0, vI p1, vI p2, vI p3, vI 1, vR a_318, vI cc, vI 3, vU, vU, vU, vU] [(.int (8 : Int32))]))
      refine Go.step (fun _ k => XS.iconst X_351.here hx rfl (hb hby at_132) k) ?_
      show Go p e below _ (T_351.setTop (mkF m 133 #[vI p0, vI p1, vI p2, vI p3, vI 1, vR a_318, vI cc, vI 3, vU, vU, vU, vU] [(.int (1 : Int32)), (.int (8 : Int32))]))
      refine Go.step (fun _ k => XS.iadd X_351.here hx rfl (hb hby at_133) rfl k) ?_
      show Go p e below _ (T_351.setTop (mkF m 134 #[vI p0, vI p1, vI p2, vI p3, vI 1, vR a_318, vI cc, vI 3, vU, vU, vU, vU] [(.int ((8 : Int32) + (1 : Int32)))]))
      refine own_top (congrArg Value.int (show ((8 : Int32) + (1 : Int32)) = (9 : Int32) from by decide)) ?_
      show Go p e below _ (T_351.setTop (mkF m 134 #[vI p0, vI p1, vI p2, vI p3, vI 1, vR a_318, vI cc, vI 3, vU, vU, vU, vU] [(.int (9 : Int32))]))
      refine Go.step (fun _ k => XS.goto X_351.here hx rfl (pc0 := 134) (pc' := 142) rfl (hb hby at_134) (by decide) (by decide) k) ?_
      show Go p e below _ (T_351.setTop (mkF m 142 #[vI p0, vI p1, vI p2, vI p3, vI 1, vR a_318, vI cc, vI 3, vU, vU, vU, vU] [(.int (9 : Int32))]))
      refine Go.step (fun _ k => XS.istore X_351.here hx rfl (hb hby at_142) rfl (l' := #[vI p0, vI p1, vI p2, vI p3, vI 1, vR a_318, vI cc, vI 3, vU, vI 9, vU, vU]) rfl k) ?_
      show Go p e below _ (T_351.setTop (mkF m 144 #[vI p0, vI p1, vI p2, vI p3, vI 1, vR a_318, vI cc, vI 3, vU, vI 9, vU, vU] []))
      refine Go.step (fun _ k => XS.iloadN X_351.here hx rfl (hb hby at_144) rfl  k) ?_
      show Go p e below _ (T_351.setTop (mkF m 145 #[vI p0, vI p1, vI p2, vI p3, vI 1, vR a_318, vI cc, vI 3, vU, vI 9, vU, vU] [(.int p2)]))
      refine Go.step (fun _ k => X_351.ldcInt hx hown_318 (mvT hZ_318 (wd_8 hw)) (g := (mkF m 145 #[vI p0, vI p1, vI p2, vI p3, vI 1, vR a_318, vI cc, vI 3, vU, vI 9, vU, vU] [(.int p2)])) rfl (hb hby at_145) _ k) ?_
      show Go p e below _ (T_351.setTop (mkF m 147 #[vI p0, vI p1, vI p2, vI p3, vI 1, vR a_318, vI cc, vI 3, vU, vI 9, vU, vU] [(.int (2147483647 : Int32)), (.int p2)]))
      refine Go.step (fun _ k => XS.iand X_351.here hx rfl (hb hby at_147) rfl k) ?_
      show Go p e below _ (T_351.setTop (mkF m 148 #[vI p0, vI p1, vI p2, vI p3, vI 1, vR a_318, vI cc, vI 3, vU, vI 9, vU, vU] [(.int (p2 &&& (2147483647 : Int32)))]))
      refine Go.step (fun _ k => XS.iload X_351.here hx rfl (hb hby at_148) rfl  k) ?_
      refine Go.step (fun _ k => XS.iconst X_351.here hx rfl (hb hby at_150) k) ?_
      show Go p e below _ (T_351.setTop (mkF m 151 #[vI p0, vI p1, vI p2, vI p3, vI 1, vR a_318, vI cc, vI 3, vU, vI 9, vU, vU] [(.int (2 : Int32)), (.int (3 : Int32)), (.int (p2 &&& (2147483647 : Int32)))]))
      refine Go.step (fun _ k => XS.icmpYes X_351.here hx rfl (pc0 := 151) (pc' := 162) rfl (hb hby at_151) rfl (feq ((by decide) : ¬ ((3 : Int32) = (2 : Int32)))).2 (by decide) (by decide) k) ?_
      show Go p e below _ (T_351.setTop (mkF m 162 #[vI p0, vI p1, vI p2, vI p3, vI 1, vR a_318, vI cc, vI 3, vU, vI 9, vU, vU] [(.int (p2 &&& (2147483647 : Int32)))]))
      refine Go.step (fun _ k => XS.iload X_351.here hx rfl (hb hby at_162) rfl  k) ?_
      show Go p e below _ (T_351.setTop (mkF m 164 #[vI p0, vI p1, vI p2, vI p3, vI 1, vR a_318, vI cc, vI 3, vU, vI 9, vU, vU] [(.int (9 : Int32)), (.int (p2 &&& (2147483647 : Int32)))]))
      refine Go.step (fun _ k => iremM X_351 hx rfl (hb hby at_164) rfl (by decide) k) ?_
      show Go p e below _ (T_351.setTop (mkF m 165 #[vI p0, vI p1, vI p2, vI p3, vI 1, vR a_318, vI cc, vI 3, vU, vI 9, vU, vU] [(.int ((p2 &&& (2147483647 : Int32)) % (9 : Int32)))]))
      refine Go.step (fun _ k => XS.istore X_351.here hx rfl (hb hby at_165) rfl (l' := #[vI p0, vI p1, vI p2, vI p3, vI 1, vR a_318, vI cc, vI 3, vU, vI 9, vI ((p2 &&& (2147483647 : Int32)) % (9 : Int32)), vU]) rfl k) ?_
      show Go p e below _ (T_351.setTop (mkF m 167 #[vI p0, vI p1, vI p2, vI p3, vI 1, vR a_318, vI cc, vI 3, vU, vI 9, vI ((p2 &&& (2147483647 : Int32)) % (9 : Int32)), vU] []))
      obtain ⟨pp, h_pp⟩ : ∃ z, z = ((p2 &&& (2147483647 : Int32)) % (9 : Int32)) := ⟨_, rfl⟩
      rw [← h_pp]
      show Go p e below _ (T_351.setTop (mkF m 167 #[vI p0, vI p1, vI p2, vI p3, vI 1, vR a_318, vI cc, vI 3, vU, vI 9, vI pp, vU] []))
      have h_p : 0 ≤ pp.toInt ∧ pp.toInt < 9 := by rw [h_pp]; exact rem9 _
      show Go p e below _ (T_351.setTop (mkF m 167 #[vI p0, vI p1, vI p2, vI p3, vI 1, vR a_318, vI cc, vI 3, vU, vI 9, vI pp, vU] []))
      refine Go.step (fun _ k => XS.iload X_351.here hx rfl (hb hby at_167) rfl  k) ?_
      show Go p e below _ (T_351.setTop (mkF m 169 #[vI p0, vI p1, vI p2, vI p3, vI 1, vR a_318, vI cc, vI 3, vU, vI 9, vI pp, vU] [(.int (9 : Int32))]))
      obtain ⟨v_352, T_352, L_352, X_352, hQ_352, st_352⟩ := goS X_351 hx hZ_318 (y := Y_12) hown_318 (wd_22 hw) (wd_23 hw) (wd_24 hw) (wd_25 hw) (by decide) (backOf (W := 0) (rm_make9 l Z a0 hw zc vfm va kv ea eb ec ed wa wb wc wd h_318 n0 (Nat.le_trans Z0 KP_318.1) hSt O_318) hZ_318 (wd_25 hw) (wd_24 hw) (by decide) (by decide)) e_351 (g := (mkF m 169 #[vI p0, vI p1, vI p2, vI p3, vI 1, vR a_318, vI cc, vI 3, vU, vI 9, vI pp, vU] [(.int (9 : Int32))])) rfl (by rw [hml]; rfl) (argsL := [(.int (9 : Int32))]) (rest := []) rfl (lenOf pd_11 rfl) rfl (by show 2 * 0 + _ ≤ _; exact Nat.le_of_eq rfl) (hb hby at_169) (by decide) (by decide)
      obtain ⟨r_352, kr_352, rfl, Nq_352, K_352, u0_352, u1_352⟩ := hQ_352
      have N_352 := Fr.app N_351 Nq_352
      have C_352 := CHr.keep K_352 sf0 C_318.1
      have CR_352 := CHr.trans CR_318 C_352
      have le_352 : h_318.size ≤ T_352.heap.size := K_352.1
      have KP_352 := KP_318.trans K_352 all0
      have O_352 := O_318.keep K_352 all0
      have sz_r_352 : h0.size ≤ r_352 := Nat.le_trans le_318 u0_352
      have g_r_352 : n0 ≤ r_352 := Nat.le_trans Z0 sz_r_352
      have Sf_r_352 := Safe.keep K_352 sf0 C_318.1 (Safe.new u0_352)
      refine Go.step st_352 ?_
      show Go p e below _ (T_352.setTop (mkF m 172 #[vI p0, vI p1, vI p2, vI p3, vI 1, vR a_318, vI cc, vI 3, vU, vI 9, vI pp, vU] [(.ref r_352)]))
      refine Go.step (fun _ k => XS.astore X_352.here hx rfl (hb hby at_172) rfl rfl (l' := #[vI p0, vI p1, vI p2, vI p3, vI 1, vR a_318, vI cc, vI 3, vU, vI 9, vI pp, vR r_352]) rfl k) ?_
      show Go p e below _ (T_352.setTop (mkF m 174 #[vI p0, vI p1, vI p2, vI p3, vI 1, vR a_318, vI cc, vI 3, vU, vI 9, vI pp, vR r_352] []))
      have f353 : Str Z h_318.size T_352.heap a_318 ([(99 : Int32), (97 : Int32), (112 : Int32), (116 : Int32), (117 : Int32), (114 : Int32), (101 : Int32), (100 : Int32)] : List Int32) := (Sx_318.keep K_352 all0)
      refine sg_puts l Z a0 hw zc vfm va kv ea eb ec ed wa wb wc wd (p0) (p1) (p2) (p3) ((1 : Int32)) ((9 : Int32)) (r_352) (kr_352) ((9 : Int32)) (([(0 : Int32), (0 : Int32), (0 : Int32), (0 : Int32), (0 : Int32), (0 : Int32), (0 : Int32), (0 : Int32), (0 : Int32)] : List Int32)) (a_318) (([(99 : Int32), (97 : Int32), (112 : Int32), (116 : Int32), (117 : Int32), (114 : Int32), (101 : Int32), (100 : Int32)] : List Int32)) ((3 : Int32)) (pp) (cc) (h_318.size) T_352.heap n0 (Nat.le_trans Z0 KP_352.1) u1_352 g_r_352 f353 (Nat.le_trans (Nat.le_refl _) u0_352) rfl (by decide) (by decide) (fun i1 a b => by have a2 : 0 ≤ i1.toInt := Int.not_lt.mp (fun q => a (Int32.lt_iff_toInt_lt.mpr q)); have b2 : i1.toInt < 9 := Int32.lt_iff_toInt_lt.mp b; have hp := h_p; exact ⟨by decide, a2, hp.1, by show _ ≤ ((8 : Nat) : Int); omega, fun q => absurd q (by decide), fun q => absurd q (by decide), fun _ _ _ => by show _ ≤ ((8 : Nat) : Int); omega⟩) l_c hSt O_352 hx hby hml hZ_318 hown_318 X_352 rfl N_352 (by decide) (by decide) ?_
      intro T_354 L_354 vs2_354 X_354 hQ_354
      obtain ⟨N_354, K_354, u0_354, u1_354⟩ := hQ_354
      have C_354 := CHr.keep K_354 (sfS (Safe.arv hZ_318.alike u1_352 (by decide)) sf0) C_352.1
      have CR_354 := CHr.trans CR_352 C_354
      have le_354 : T_352.heap.size ≤ T_354.heap.size := K_354.1
      have KP_354 := KP_352.trans K_354 (allS (Or.inr sz_r_352) all0)
      have O_354 := O_352.keep K_354 (allS g_r_352 all0)
      have hv2_354 := u1_354
      show Go p e below _ (T_354.setTop (mkF m 303 #[vI p0, vI p1, vI p2, vI p3, vI 1, vR a_318, vI cc, vI 3, vU, vI 9, vI pp, vR r_352] []))
      have hL_354 : vs2_354.length = 9 := hv2_354.1
      show Go p e below _ (T_354.setTop (mkF m 303 #[vI p0, vI p1, vI p2, vI p3, vI 1, vR a_318, vI cc, vI 3, vU, vI 9, vI pp, vR r_352] []))
      obtain ⟨T_355, h_355, X_355, e_355, E_355, A_355, D_355, Un_355, st_355⟩ := newO X_354 hx hZ_318 hown_318 (wd_55 hw) (wd_2 hw) (wd_1 hw) rfl (g := (mkF m 303 #[vI p0, vI p1, vI p2, vI p3, vI 1, vR a_318, vI cc, vI 3, vU, vI 9, vI pp, vR r_352] [])) rfl (hb hby at_303) (by decide) (by decide)
      obtain ⟨b355, q_355⟩ : ∃ z, z = T_354.heap.size := ⟨_, rfl⟩
      rw [← q_355] at A_355 D_355 Un_355 st_355
      refine Go.step st_355 ?_
      have C_355 := CHr.ext E_355 C_354.1
      have CR_355 := CHr.trans CR_354 C_355
      have le_355 : T_354.heap.size ≤ h_355.size := E_355.1
      have KP_355 := KP_354.ext E_355
      have O_355 := O_354.ext E_355
      have ge_355 : T_354.heap.size ≤ b355 := Nat.le_of_eq q_355.symm
      have sz_b355 : h0.size ≤ b355 := Nat.le_trans (Nat.le_trans le_318 (Nat.le_trans le_352 le_354)) ge_355
      have g_b355 : n0 ≤ b355 := Nat.le_trans Z0 sz_b355
      have F_355_4 : Fld Z h_355 b355 "java/lang/String" "value" "[B" .null := D_355 (Or.inr (wd_4 hw)) (ty := (.array .byte)) pf_0
      have F_355_5 : Fld Z h_355 b355 "java/lang/String" "coder" "B" (.int (0 : Int32)) := D_355 (Or.inr (wd_5 hw)) (ty := .byte) pf_1
      have Sf_b355 := Safe.ext E_355 C_354.1 (Safe.new ge_355)
      show Go p e below _ (T_355.setTop (mkF m 306 #[vI p0, vI p1, vI p2, vI p3, vI 1, vR a_318, vI cc, vI 3, vU, vI 9, vI pp, vR r_352] [(.ref b355)]))
      refine Go.step (fun _ k => XS.dup X_355.here hx rfl (hb hby at_306) rfl rfl k) ?_
      refine Go.step (fun _ k => XS.aload X_355.here hx rfl (hb hby at_307) rfl rfl k) ?_
      show Go p e below _ (T_355.setTop (mkF m 309 #[vI p0, vI p1, vI p2, vI p3, vI 1, vR a_318, vI cc, vI 3, vU, vI 9, vI pp, vR r_352] [(.ref r_352), (.ref b355), (.ref b355)]))
      have f356 : Arv Z h_355 r_352 kr_352 .char (9 : Int32) (vs2_354.map Value.int) (.int (0 : Int32)) := (u0_354.ext E_355)
      obtain ⟨v_357, T_357, L_357, X_357, hQ_357, st_357⟩ := goC X_355 hx hZ_318 (y := Y_13) hown_318 rfl (wd_56 hw) (wd_57 hw) (wd_58 hw) (by decide) (StrChars.Road.backV (W := 1) hZ_318 (sw_words hw) (kI := 4) (wd_2 hw) (cs := vs2_354) (bs := vs2_354.map (fun c => c.toInt8.toInt32)) (n := 9) g_b355 (Nat.le_trans Z0 KP_355.1) A_355 F_355_4 F_355_5 f356 (S_cs.ext O_355.2) n_cs hL_354 rfl (by decide) (by decide) hv2_354.2 rfl (by decide) (by decide)) e_355 (g := (mkF m 309 #[vI p0, vI p1, vI p2, vI p3, vI 1, vR a_318, vI cc, vI 3, vU, vI 9, vI pp, vR r_352] [(.ref r_352), (.ref b355), (.ref b355)])) rfl (by rw [hml]; rfl) (a := b355) (argsL := [(.ref r_352)]) (rest := [(.ref b355)]) rfl (lenOf pd_12 rfl) rfl (by show 2 * 0 + _ ≤ _; exact Nat.le_of_eq rfl) (hb hby at_309) (by decide) (by decide)
      obtain ⟨rfl, Nq_357, K_357, Ex_357, Fc_357, t_357, kb_357, -, gt_357, -, Fv_357, Av_357⟩ := hQ_357
      have N_357 := Fr.app N_354 Nq_357
      have C_357 := CHr.keep K_357 (sfS Sf_b355 sf0) C_355.1
      have CR_357 := CHr.trans CR_355 C_357
      have le_357 : h_355.size ≤ T_357.heap.size := K_357.1
      have KP_357 := KP_355.trans K_357 (allS (Or.inr sz_b355) all0)
      have O_357 := O_355.keep K_357 (allS g_b355 all0)
      have Sx_357 : Str Z (T_357.heap).size (T_357.heap) b355 vs2_354 := ⟨t_357, kb_357, Ex_357.lt, Av_357.lt, Ex_357, Fv_357, Fc_357, by rw [show vs2_354.length = 9 from hL_354]; exact Av_357, hv2_354.2, by rw [show vs2_354.length = 9 from hL_354]; decide⟩
      refine Go.step st_357 ?_
      show Go p e below _ (T_357.setTop (mkF m 312 #[vI p0, vI p1, vI p2, vI p3, vI 1, vR a_318, vI cc, vI 3, vU, vI 9, vI pp, vR r_352] [(.ref b355)]))
      refine Go.step (fun _ k => XS.astore X_357.here hx rfl (hb hby at_312) rfl rfl (l' := #[vI p0, vI p1, vI p2, vI p3, vI 1, vR a_318, vI cc, vI 3, vR b355, vI 9, vI pp, vR r_352]) rfl k) ?_
      show Go p e below _ (T_357.setTop (mkF m 314 #[vI p0, vI p1, vI p2, vI p3, vI 1, vR a_318, vI cc, vI 3, vR b355, vI 9, vI pp, vR r_352] []))
      exact tg_tailS l Z a0 hw zc vfm va kv ea eb ec ed wa wb wc wd ((vI p0)) ((vI p1)) ((vI p2)) ((vI p3)) ((vI 1)) ((vR a_318)) ((vI cc)) ((vI 3)) ((vI 9)) ((vI pp)) ((vR r_352)) (b355) (vs2_354) T_357.heap n0 (Nat.le_trans Z0 KP_357.1) Sx_357 hSt O_357 hx hby hml hret hlk hZ_318 hown_318 X_357 rfl N_357 hS_318 (Nat.le_trans hk_318 (Nat.le_trans le_352 (Nat.le_trans le_354 (Nat.le_trans le_355 le_357)))) C_357.1 CR_357 hh0 (by decide) (by decide)
    · skip
      show Go p e below _ (T_318.setTop (mkF m 58 #[vI p0, vI p1, vI p2, vI p3, vI 1, vR a_318, vI cc, vI 4, vU, vU, vU, vU] []))
      refine Go.step (fun _ k => XS.iload X_318.here hx rfl (hb hby at_58) rfl  k) ?_
      refine Go.step (fun _ k => XS.iconst X_318.here hx rfl (hb hby at_60) k) ?_
      show Go p e below _ (T_318.setTop (mkF m 61 #[vI p0, vI p1, vI p2, vI p3, vI 1, vR a_318, vI cc, vI 4, vU, vU, vU, vU] [(.int (4 : Int32)), (.int (4 : Int32))]))
      refine Go.step (fun _ k => XS.icmpNo X_318.here hx rfl (hb hby at_61) rfl (teq ((by decide) : (4 : Int32) = (4 : Int32))).2 k) ?_
      show Go p e below _ (T_318.setTop (mkF m 64 #[vI p0, vI p1, vI p2, vI p3, vI 1, vR a_318, vI cc, vI 4, vU, vU, vU, vU] []))
      refine Go.step (fun _ k => XS.iload X_318.here hx rfl (hb hby at_64) rfl  k) ?_
      show Go p e below _ (T_318.setTop (mkF m 66 #[vI p0, vI p1, vI p2, vI p3, vI 1, vR a_318, vI cc, vI 4, vU, vU, vU, vU] [(.int cc)]))
      obtain ⟨v_358, T_358, L_358, X_358, hQ_358, st_358⟩ := goS X_318 hx hZ_318 (y := Y_14) hown_318 (wd_117 hw) (wd_118 hw) (wd_1 hw) (wd_119 hw) (by decide) (backOf (W := 0) (rm_valueOf l Z a0 hw zc vfm va kv ea eb ec ed wa wb wc wd (cc) h_318 n0 (Nat.le_trans Z0 KP_318.1) l_c hSt O_318) hZ_318 (wd_119 hw) (wd_1 hw) (by decide) (by decide)) e_318 (g := (mkF m 66 #[vI p0, vI p1, vI p2, vI p3, vI 1, vR a_318, vI cc, vI 4, vU, vU, vU, vU] [(.int cc)])) rfl (by rw [hml]; rfl) (argsL := [(.int cc)]) (rest := []) rfl (lenOf pd_13 rfl) rfl (by show 2 * 0 + _ ≤ _; exact Nat.le_of_eq rfl) (hb hby at_66) (by decide) (by decide)
      obtain ⟨r_358, rfl, Nq_358, K_358, u0_358, u1_358⟩ := hQ_358
      have N_358 := Fr.app N0 Nq_358
      have C_358 := CHr.keep K_358 sf0 C_318.1
      have CR_358 := CHr.trans CR_318 C_358
      have le_358 : h_318.size ≤ T_358.heap.size := K_358.1
      have KP_358 := KP_318.trans K_358 all0
      have O_358 := O_318.keep K_358 all0
      have sz_r_358 : h0.size ≤ r_358 := Nat.le_trans le_318 u0_358
      have g_r_358 : n0 ≤ r_358 := Nat.le_trans Z0 sz_r_358
      have Sf_r_358 := Safe.keep K_358 sf0 C_318.1 (Safe.new u0_358)
      refine Go.step st_358 ?_
      show Go p e below _ (T_358.setTop (mkF m 69 #[vI p0, vI p1, vI p2, vI p3, vI 1, vR a_318, vI cc, vI 4, vU, vU, vU, vU] [(.ref r_358)]))
      refine Go.step (fun _ k => XS.astore X_358.here hx rfl (hb hby at_69) rfl rfl (l' := #[vI p0, vI p1, vI p2, vI p3, vI 1, vR a_318, vI cc, vI 4, vR r_358, vU, vU, vU]) rfl k) ?_
      show Go p e below _ (T_358.setTop (mkF m 71 #[vI p0, vI p1, vI p2, vI p3, vI 1, vR a_318, vI cc, vI 4, vR r_358, vU, vU, vU] []))
      refine Go.step (fun _ k => XS.goto X_358.here hx rfl (pc0 := 71) (pc' := 314) rfl (hb hby at_71) (by decide) (by decide) k) ?_
      show Go p e below _ (T_358.setTop (mkF m 314 #[vI p0, vI p1, vI p2, vI p3, vI 1, vR a_318, vI cc, vI 4, vR r_358, vU, vU, vU] []))
      exact tg_tailS l Z a0 hw zc vfm va kv ea eb ec ed wa wb wc wd ((vI p0)) ((vI p1)) ((vI p2)) ((vI p3)) ((vI 1)) ((vR a_318)) ((vI cc)) ((vI 4)) ((vU)) ((vU)) ((vU)) (r_358) (([cc] : List Int32)) T_358.heap n0 (Nat.le_trans Z0 KP_358.1) u1_358 hSt O_358 hx hby hml hret hlk hZ_318 hown_318 X_358 rfl N_358 hS_318 (Nat.le_trans hk_318 le_358) C_358.1 CR_358 hh0 (by decide) (by decide)
    · skip
      show Go p e below _ (T_318.setTop (mkF m 58 #[vI p0, vI p1, vI p2, vI p3, vI 1, vR a_318, vI cc, vI 5, vU, vU, vU, vU] []))
      refine Go.step (fun _ k => XS.iload X_318.here hx rfl (hb hby at_58) rfl  k) ?_
      refine Go.step (fun _ k => XS.iconst X_318.here hx rfl (hb hby at_60) k) ?_
      show Go p e below _ (T_318.setTop (mkF m 61 #[vI p0, vI p1, vI p2, vI p3, vI 1, vR a_318, vI cc, vI 5, vU, vU, vU, vU] [(.int (4 : Int32)), (.int (5 : Int32))]))
      refine Go.step (fun _ k => XS.icmpYes X_318.here hx rfl (pc0 := 61) (pc' := 74) rfl (hb hby at_61) rfl (feq ((by decide) : ¬ ((5 : Int32) = (4 : Int32)))).2 (by decide) (by decide) k) ?_
      show Go p e below _ (T_318.setTop (mkF m 74 #[vI p0, vI p1, vI p2, vI p3, vI 1, vR a_318, vI cc, vI 5, vU, vU, vU, vU] []))
      refine Go.step (fun _ k => XS.iload X_318.here hx rfl (hb hby at_74) rfl  k) ?_
      refine Go.step (fun _ k => XS.iconst X_318.here hx rfl (hb hby at_76) k) ?_
      show Go p e below _ (T_318.setTop (mkF m 77 #[vI p0, vI p1, vI p2, vI p3, vI 1, vR a_318, vI cc, vI 5, vU, vU, vU, vU] [(.int (5 : Int32)), (.int (5 : Int32))]))
      refine Go.step (fun _ k => XS.icmpNo X_318.here hx rfl (hb hby at_77) rfl (teq ((by decide) : (5 : Int32) = (5 : Int32))).2 k) ?_
      show Go p e below _ (T_318.setTop (mkF m 80 #[vI p0, vI p1, vI p2, vI p3, vI 1, vR a_318, vI cc, vI 5, vU, vU, vU, vU] []))
      refine Go.step (fun _ k => XS.iloadN X_318.here hx rfl (hb hby at_80) rfl  k) ?_
      refine Go.step (fun _ k => XS.iconst X_318.here hx rfl (hb hby at_81) k) ?_
      show Go p e below _ (T_318.setTop (mkF m 82 #[vI p0, vI p1, vI p2, vI p3, vI 1, vR a_318, vI cc, vI 5, vU, vU, vU, vU] [(.int (1 : Int32)), (.int p2)]))
      refine Go.step (fun _ k => XS.iand X_318.here hx rfl (hb hby at_82) rfl k) ?_
      show Go p e below _ (T_318.setTop (mkF m 83 #[vI p0, vI p1, vI p2, vI p3, vI 1, vR a_318, vI cc, vI 5, vU, vU, vU, vU] [(.int (p2 &&& (1 : Int32)))]))
      by_cases hp0 : (p2 &&& (1 : Int32)) = (0 : Int32)
      · skip
        refine Go.step (fun _ k => XS.ifNo X_318.here hx rfl (hb hby at_83) rfl ((if0 _ _).trans (teq hp0).2) k) ?_
        show Go p e below _ (T_318.setTop (mkF m 86 #[vI p0, vI p1, vI p2, vI p3, vI 1, vR a_318, vI cc, vI 5, vU, vU, vU, vU] []))
        refine Go.step (fun _ k => XS.aconstNull X_318.here hx rfl (hb hby at_86) k) ?_
        show Go p e below _ (T_318.setTop (mkF m 87 #[vI p0, vI p1, vI p2, vI p3, vI 1, vR a_318, vI cc, vI 5, vU, vU, vU, vU] [.null]))
        refine Go.step (fun _ k => XS.goto X_318.here hx rfl (pc0 := 87) (pc' := 100) rfl (hb hby at_87) (by decide) (by decide) k) ?_
        show Go p e below _ (T_318.setTop (mkF m 100 #[vI p0, vI p1, vI p2, vI p3, vI 1, vR a_318, vI cc, vI 5, vU, vU, vU, vU] [.null]))
        refine Go.step (fun _ k => XS.astore X_318.here hx rfl (hb hby at_100) rfl rfl (l' := #[vI p0, vI p1, vI p2, vI p3, vI 1, vR a_318, vI cc, vI 5, .val .null, vU, vU, vU]) rfl k) ?_
        show Go p e below _ (T_318.setTop (mkF m 102 #[vI p0, vI p1, vI p2, vI p3, vI 1, vR a_318, vI cc, vI 5, .val .null, vU, vU, vU] []))
        refine Go.step (fun _ k => XS.goto X_318.here hx rfl (pc0 := 102) (pc' := 314) rfl (hb hby at_102) (by decide) (by decide) k) ?_
        show Go p e below _ (T_318.setTop (mkF m 314 #[vI p0, vI p1, vI p2, vI p3, vI 1, vR a_318, vI cc, vI 5, .val .null, vU, vU, vU] []))
        exact tg_tailN l Z a0 hw zc vfm va kv ea eb ec ed wa wb wc wd ((vI p0)) ((vI p1)) ((vI p2)) ((vI p3)) ((vI 1)) ((vR a_318)) ((vI cc)) ((vI 5)) ((vU)) ((vU)) ((vU)) h_318 n0 (Nat.le_trans Z0 KP_318.1) hSt O_318 hx hby hml hret hlk hZ_318 hown_318 X_318 e_318 N0 hS_318 hk_318 C_318.1 CR_318 hh0 (by decide) (by decide)
      · skip
        refine Go.step (fun _ k => XS.ifYes X_318.here hx rfl (pc0 := 83) (pc' := 90) rfl (hb hby at_83) rfl ((if0 _ _).trans (feq hp0).2) (by decide) (by decide) k) ?_
        show Go p e below _ (T_318.setTop (mkF m 90 #[vI p0, vI p1, vI p2, vI p3, vI 1, vR a_318, vI cc, vI 5, vU, vU, vU, vU] []))
        obtain ⟨T_359, h_359, X_359, e_359, E_359, A_359, D_359, Un_359, st_359⟩ := newO X_318 hx hZ_318 hown_318 (wd_55 hw) (wd_2 hw) (wd_1 hw) e_318 (g := (mkF m 90 #[vI p0, vI p1, vI p2, vI p3, vI 1, vR a_318, vI cc, vI 5, vU, vU, vU, vU] [])) rfl (hb hby at_90) (by decide) (by decide)
        obtain ⟨b359, q_359⟩ : ∃ z, z = h_318.size := ⟨_, rfl⟩
        rw [← q_359] at A_359 D_359 Un_359 st_359
        refine Go.step st_359 ?_
        have C_359 := CHr.ext E_359 C_318.1
        have CR_359 := CHr.trans CR_318 C_359
        have le_359 : h_318.size ≤ h_359.size := E_359.1
        have KP_359 := KP_318.ext E_359
        have O_359 := O_318.ext E_359
        have ge_359 : h_318.size ≤ b359 := Nat.le_of_eq q_359.symm
        have sz_b359 : h0.size ≤ b359 := Nat.le_trans le_318 ge_359
        have g_b359 : n0 ≤ b359 := Nat.le_trans Z0 sz_b359
        have F_359_4 : Fld Z h_359 b359 "java/lang/String" "value" "[B" .null := D_359 (Or.inr (wd_4 hw)) (ty := (.array .byte)) pf_0
        have F_359_5 : Fld Z h_359 b359 "java/lang/String" "coder" "B" (.int (0 : Int32)) := D_359 (Or.inr (wd_5 hw)) (ty := .byte) pf_1
        have Sf_b359 := Safe.ext E_359 C_318.1 (Safe.new ge_359)
        show Go p e below _ (T_359.setTop (mkF m 93 #[vI p0, vI p1, vI p2, vI p3, vI 1, vR a_318, vI cc, vI 5, vU, vU, vU, vU] [(.ref b359)]))
        refine Go.step (fun _ k => XS.dup X_359.here hx rfl (hb hby at_93) rfl rfl k) ?_
        refine Go.step (fun _ k => XS.iconst X_359.here hx rfl (hb hby at_94) k) ?_
        show Go p e below _ (T_359.setTop (mkF m 95 #[vI p0, vI p1, vI p2, vI p3, vI 1, vR a_318, vI cc, vI 5, vU, vU, vU, vU] [(.int (0 : Int32)), (.ref b359), (.ref b359)]))
        obtain ⟨T_360, h_360, k_360, X_360, e_360, E_360, A_360, st_360⟩ := newP X_359 hx hZ_318 (aty := .char) (wd_26 hw) e_359 (g := (mkF m 95 #[vI p0, vI p1, vI p2, vI p3, vI 1, vR a_318, vI cc, vI 5, vU, vU, vU, vU] [(.int (0 : Int32)), (.ref b359), (.ref b359)])) rfl (hb hby at_95) rfl (by decide) (cap := 0) (by decide) (by decide) (by decide) (by decide)
        obtain ⟨b360, q_360⟩ : ∃ z, z = h_359.size := ⟨_, rfl⟩
        rw [← q_360] at A_360 st_360
        refine Go.step st_360 ?_
        have C_360 := CHr.ext E_360 C_359.1
        have CR_360 := CHr.trans CR_359 C_360
        have le_360 : h_359.size ≤ h_360.size := E_360.1
        have KP_360 := KP_359.ext E_360
        have O_360 := O_359.ext E_360
        have ge_360 : h_359.size ≤ b360 := Nat.le_of_eq q_360.symm
        have sz_b360 : h0.size ≤ b360 := Nat.le_trans (Nat.le_trans le_318 le_359) ge_360
        have g_b360 : n0 ≤ b360 := Nat.le_trans Z0 sz_b360
        have V_360 : Arv Z h_360 b360 k_360 .char (0 : Int32) [] (.int (0 : Int32)) := Arv.new A_360 (by decide)
        have Sf_b360 := Safe.ext E_360 C_359.1 (Safe.new ge_360)
        show Go p e below _ (T_360.setTop (mkF m 97 #[vI p0, vI p1, vI p2, vI p3, vI 1, vR a_318, vI cc, vI 5, vU, vU, vU, vU] [(.ref b360), (.ref b359), (.ref b359)]))
        have f361 : Exa Z h_360 b359 "java/lang/String" := (A_359.ext E_360)
        have f362 : Fld Z h_360 b359 "java/lang/String" "value" "[B" .null := (F_359_4.ext E_360)
        have f363 : Fld Z h_360 b359 "java/lang/String" "coder" "B" (.int (0 : Int32)) := (F_359_5.ext E_360)
        obtain ⟨v_364, T_364, L_364, X_364, hQ_364, hS_364, hZ_364, hown_364, C_364, st_364⟩ := goCW X_360 hx hZ_318 (y := Y_13) hown_318 hS_318 (Nat.le_trans hk_318 (Nat.le_trans le_359 le_360)) rfl (wd_56 hw) (wd_57 hw) (wd_58 hw) (by decide) (backOfSH (W := 1) (rm_init1e l Z a0 hw zc vfm va kv ea eb ec ed wa wb wc wd (b359) (b360) (k_360) h_360 n0 (Nat.le_trans Z0 KP_360.1) f361 f362 f363 g_b359 V_360 hSt O_360) hZ_318 (wd_58 hw) (wd_1 hw) (by decide) (by decide) hEL C_360.1) e_360 (g := (mkF m 97 #[vI p0, vI p1, vI p2, vI p3, vI 1, vR a_318, vI cc, vI 5, vU, vU, vU, vU] [(.ref b360), (.ref b359), (.ref b359)])) rfl (by rw [hml]; rfl) (a := b359) (argsL := [(.ref b360)]) (rest := [(.ref b359)]) rfl (lenOf pd_12 rfl) rfl (by show 2 * 0 + _ ≤ _; exact Nat.le_of_eq rfl) (hb hby at_97) (by decide) (by decide)
        obtain ⟨rfl, Nq_364, K_364, u0_364⟩ := hQ_364
        have N_364 := Fr.app N0 Nq_364
        have CR_364 := CHr.trans CR_360 C_364
        have le_364 : h_360.size ≤ T_364.heap.size := K_364.1
        have KP_364 := KP_360.trans K_364 (allS (Or.inr sz_b359) all0)
        have O_364 := O_360.keep K_364 (allS g_b359 all0)
        refine Go.step st_364 ?_
        show Go p e below _ (T_364.setTop (mkF m 100 #[vI p0, vI p1, vI p2, vI p3, vI 1, vR a_318, vI cc, vI 5, vU, vU, vU, vU] [(.ref b359)]))
        refine Go.step (fun _ k => XS.astore X_364.here hx rfl (hb hby at_100) rfl rfl (l' := #[vI p0, vI p1, vI p2, vI p3, vI 1, vR a_318, vI cc, vI 5, vR b359, vU, vU, vU]) rfl k) ?_
        show Go p e below _ (T_364.setTop (mkF m 102 #[vI p0, vI p1, vI p2, vI p3, vI 1, vR a_318, vI cc, vI 5, vR b359, vU, vU, vU] []))
        refine Go.step (fun _ k => XS.goto X_364.here hx rfl (pc0 := 102) (pc' := 314) rfl (hb hby at_102) (by decide) (by decide) k) ?_
        show Go p e below _ (T_364.setTop (mkF m 314 #[vI p0, vI p1, vI p2, vI p3, vI 1, vR a_318, vI cc, vI 5, vR b359, vU, vU, vU] []))
        exact tg_tailS l Z a0 hw zc vfm va kv ea eb ec ed wa wb wc wd ((vI p0)) ((vI p1)) ((vI p2)) ((vI p3)) ((vI 1)) ((vR a_318)) ((vI cc)) ((vI 5)) ((vU)) ((vU)) ((vU)) (b359) (([] : List Int32)) T_364.heap n0 (Nat.le_trans Z0 KP_364.1) u0_364 hSt O_364 hx hby hml hret hlk hZ_364 hown_364 X_364 rfl N_364 hS_364 (Nat.le_refl _) C_364.1 CR_364 hh0 (by decide) (by decide)
  · skip
    show Go p e below _ (s₁.setTop (mkF m 5 #[vI p0, vI p1, vI p2, vI p3, vI 2, vU, vU, vU, vU, vU, vU, vU] []))
    refine Go.step (fun _ k => XS.iload X0.here hx rfl (hb hby at_5) rfl  k) ?_
    show Go p e below _ (s₁.setTop (mkF m 7 #[vI p0, vI p1, vI p2, vI p3, vI 2, vU, vU, vU, vU, vU, vU, vU] [(.int (2 : Int32))]))
    refine Go.step (fun _ k => XS.ifYes X0.here hx rfl (pc0 := 7) (pc' := 15) rfl (hb hby at_7) rfl ((if0 _ _).trans (feq ((by decide) : ¬ ((2 : Int32) = (0 : Int32)))).2) (by decide) (by decide) k) ?_
    show Go p e below _ (s₁.setTop (mkF m 15 #[vI p0, vI p1, vI p2, vI p3, vI 2, vU, vU, vU, vU, vU, vU, vU] []))
    refine Go.step (fun _ k => XS.iload X0.here hx rfl (hb hby at_15) rfl  k) ?_
    refine Go.step (fun _ k => XS.iconst X0.here hx rfl (hb hby at_17) k) ?_
    show Go p e below _ (s₁.setTop (mkF m 18 #[vI p0, vI p1, vI p2, vI p3, vI 2, vU, vU, vU, vU, vU, vU, vU] [(.int (1 : Int32)), (.int (2 : Int32))]))
    refine Go.step (fun _ k => XS.icmpYes X0.here hx rfl (pc0 := 18) (pc' := 26) rfl (hb hby at_18) rfl (feq ((by decide) : ¬ ((2 : Int32) = (1 : Int32)))).2 (by decide) (by decide) k) ?_
    show Go p e below _ (s₁.setTop (mkF m 26 #[vI p0, vI p1, vI p2, vI p3, vI 2, vU, vU, vU, vU, vU, vU, vU] []))
    refine Go.step (fun _ k => XS.iload X0.here hx rfl (hb hby at_26) rfl  k) ?_
    refine Go.step (fun _ k => XS.iconst X0.here hx rfl (hb hby at_28) k) ?_
    show Go p e below _ (s₁.setTop (mkF m 29 #[vI p0, vI p1, vI p2, vI p3, vI 2, vU, vU, vU, vU, vU, vU, vU] [(.int (2 : Int32)), (.int (2 : Int32))]))
    refine Go.step (fun _ k => XS.icmpNo X0.here hx rfl (hb hby at_29) rfl (teq ((by decide) : (2 : Int32) = (2 : Int32))).2 k) ?_
    show Go p e below _ (s₁.setTop (mkF m 32 #[vI p0, vI p1, vI p2, vI p3, vI 2, vU, vU, vU, vU, vU, vU, vU] []))
    obtain ⟨a_365, T_365, h_365, k1_365, t_365, kb_365, X_365, e_365, E_365, hS_365, hk_365, hZ_365, hown_365, Ex_365, Fc_365, Fv_365, Av_365, lta_365, ltb_365, C_365, Lt_365, -, st_365⟩ := ldcCH X0 hx hZ hown (wd_115 hw) hwS e0 hS0 hk0 hEL (by decide) CV0 (vs := [(.int (118 : Int32)), (.int (111 : Int32)), (.int (105 : Int32)), (.int (100 : Int32)), (.int (101 : Int32)), (.int (100 : Int32))]) (z := (6 : Int32)) ⟨by decide, by decide⟩ (by decide) (by decide) (g := (mkF m 32 #[vI p0, vI p1, vI p2, vI p3, vI 2, vU, vU, vU, vU, vU, vU, vU] [])) rfl (hb hby at_32) (n := 24) (by decide) (by decide) (by decide) (by decide)
    refine Go.step st_365 ?_
    have CR_365 := CHr.trans (CHr.refl CV0) C_365
    have le_365 : h0.size ≤ h_365.size := E_365.1
    have KP_365 := KP0.ext E_365
    have O_365 := hO.ext E_365
    have Sx_365 : Str Z h_365.size h_365 a_365 ([(118 : Int32), (111 : Int32), (105 : Int32), (100 : Int32), (101 : Int32), (100 : Int32)] : List Int32) := ⟨t_365, kb_365, lta_365, ltb_365, Ex_365, Fv_365, Fc_365, Av_365, by decide, by decide⟩
    show Go p e below _ (T_365.setTop (mkF m 34 #[vI p0, vI p1, vI p2, vI p3, vI 2, vU, vU, vU, vU, vU, vU, vU] [(.ref a_365)]))
    refine Go.step (fun _ k => XS.goto X_365.here hx rfl (pc0 := 34) (pc' := 39) rfl (hb hby at_34) (by decide) (by decide) k) ?_
    show Go p e below _ (T_365.setTop (mkF m 39 #[vI p0, vI p1, vI p2, vI p3, vI 2, vU, vU, vU, vU, vU, vU, vU] [(.ref a_365)]))
    refine Go.step (fun _ k => XS.astore X_365.here hx rfl (hb hby at_39) rfl rfl (l' := #[vI p0, vI p1, vI p2, vI p3, vI 2, vR a_365, vU, vU, vU, vU, vU, vU]) rfl k) ?_
    show Go p e below _ (T_365.setTop (mkF m 41 #[vI p0, vI p1, vI p2, vI p3, vI 2, vR a_365, vU, vU, vU, vU, vU, vU] []))
    refine Go.step (fun _ k => XS.iloadN X_365.here hx rfl (hb hby at_41) rfl  k) ?_
    refine Go.step (fun _ k => XS.sipush X_365.here hx rfl (hb hby at_42) k) ?_
    show Go p e below _ (T_365.setTop (mkF m 45 #[vI p0, vI p1, vI p2, vI p3, vI 2, vR a_365, vU, vU, vU, vU, vU, vU] [(.int (255 : Int32)), (.int p3)]))
    refine Go.step (fun _ k => XS.iand X_365.here hx rfl (hb hby at_45) rfl k) ?_
    show Go p e below _ (T_365.setTop (mkF m 46 #[vI p0, vI p1, vI p2, vI p3, vI 2, vR a_365, vU, vU, vU, vU, vU, vU] [(.int (p3 &&& (255 : Int32)))]))
    refine Go.step (fun _ k => XS.i2c X_365.here hx rfl (hb hby at_46) rfl k) ?_
    show Go p e below _ (T_365.setTop (mkF m 47 #[vI p0, vI p1, vI p2, vI p3, vI 2, vR a_365, vU, vU, vU, vU, vU, vU] [(.int (nar .char (p3 &&& (255 : Int32))))]))
    refine own_top (congrArg Value.int (show (nar .char (p3 &&& (255 : Int32))) = (p3 &&& (255 : Int32)) from nar255 _)) ?_
    show Go p e below _ (T_365.setTop (mkF m 47 #[vI p0, vI p1, vI p2, vI p3, vI 2, vR a_365, vU, vU, vU, vU, vU, vU] [(.int (p3 &&& (255 : Int32)))]))
    refine Go.step (fun _ k => XS.istore X_365.here hx rfl (hb hby at_47) rfl (l' := #[vI p0, vI p1, vI p2, vI p3, vI 2, vR a_365, vI (p3 &&& (255 : Int32)), vU, vU, vU, vU, vU]) rfl k) ?_
    show Go p e below _ (T_365.setTop (mkF m 49 #[vI p0, vI p1, vI p2, vI p3, vI 2, vR a_365, vI (p3 &&& (255 : Int32)), vU, vU, vU, vU, vU] []))
    obtain ⟨cc, h_cc⟩ : ∃ z, z = (p3 &&& (255 : Int32)) := ⟨_, rfl⟩
    rw [← h_cc]
    show Go p e below _ (T_365.setTop (mkF m 49 #[vI p0, vI p1, vI p2, vI p3, vI 2, vR a_365, vI cc, vU, vU, vU, vU, vU] []))
    have l_c : ¬ cc < 0 ∧ ¬ (255 : Int32) < cc := by rw [h_cc]; exact lat255 _
    show Go p e below _ (T_365.setTop (mkF m 49 #[vI p0, vI p1, vI p2, vI p3, vI 2, vR a_365, vI cc, vU, vU, vU, vU, vU] []))
    refine Go.step (fun _ k => XS.iloadN X_365.here hx rfl (hb hby at_49) rfl  k) ?_
    show Go p e below _ (T_365.setTop (mkF m 50 #[vI p0, vI p1, vI p2, vI p3, vI 2, vR a_365, vI cc, vU, vU, vU, vU, vU] [(.int p1)]))
    refine Go.step (fun _ k => X_365.ldcInt hx hown_365 (mvT hZ_365 (wd_8 hw)) (g := (mkF m 50 #[vI p0, vI p1, vI p2, vI p3, vI 2, vR a_365, vI cc, vU, vU, vU, vU, vU] [(.int p1)])) rfl (hb hby at_50) _ k) ?_
    show Go p e below _ (T_365.setTop (mkF m 52 #[vI p0, vI p1, vI p2, vI p3, vI 2, vR a_365, vI cc, vU, vU, vU, vU, vU] [(.int (2147483647 : Int32)), (.int p1)]))
    refine Go.step (fun _ k => XS.iand X_365.here hx rfl (hb hby at_52) rfl k) ?_
    show Go p e below _ (T_365.setTop (mkF m 53 #[vI p0, vI p1, vI p2, vI p3, vI 2, vR a_365, vI cc, vU, vU, vU, vU, vU] [(.int (p1 &&& (2147483647 : Int32)))]))
    refine Go.step (fun _ k => XS.bipush X_365.here hx rfl (hb hby at_53) k) ?_
    show Go p e below _ (T_365.setTop (mkF m 55 #[vI p0, vI p1, vI p2, vI p3, vI 2, vR a_365, vI cc, vU, vU, vU, vU, vU] [(.int (6 : Int32)), (.int (p1 &&& (2147483647 : Int32)))]))
    refine Go.step (fun _ k => iremM X_365 hx rfl (hb hby at_55) rfl (by decide) k) ?_
    show Go p e below _ (T_365.setTop (mkF m 56 #[vI p0, vI p1, vI p2, vI p3, vI 2, vR a_365, vI cc, vU, vU, vU, vU, vU] [(.int ((p1 &&& (2147483647 : Int32)) % (6 : Int32)))]))
    refine Go.step (fun _ k => XS.istore X_365.here hx rfl (hb hby at_56) rfl (l' := #[vI p0, vI p1, vI p2, vI p3, vI 2, vR a_365, vI cc, vI ((p1 &&& (2147483647 : Int32)) % (6 : Int32)), vU, vU, vU, vU]) rfl k) ?_
    show Go p e below _ (T_365.setTop (mkF m 58 #[vI p0, vI p1, vI p2, vI p3, vI 2, vR a_365, vI cc, vI ((p1 &&& (2147483647 : Int32)) % (6 : Int32)), vU, vU, vU, vU] []))
    obtain ⟨mm, h_mm⟩ : ∃ z, z = ((p1 &&& (2147483647 : Int32)) % (6 : Int32)) := ⟨_, rfl⟩
    rw [← h_mm]
    show Go p e below _ (T_365.setTop (mkF m 58 #[vI p0, vI p1, vI p2, vI p3, vI 2, vR a_365, vI cc, vI mm, vU, vU, vU, vU] []))
    have h_m6 := range6 (by rw [h_mm]; exact rem6 _ : 0 ≤ mm.toInt ∧ mm.toInt < 6)
    clear h_mm
    show Go p e below _ (T_365.setTop (mkF m 58 #[vI p0, vI p1, vI p2, vI p3, vI 2, vR a_365, vI cc, vI mm, vU, vU, vU, vU] []))
    rcases h_m6 with rfl | rfl | rfl | rfl | rfl | rfl
    · skip
      show Go p e below _ (T_365.setTop (mkF m 58 #[vI p0, vI p1, vI p2, vI p3, vI 2, vR a_365, vI cc, vI 0, vU, vU, vU, vU] []))
      refine Go.step (fun _ k => XS.iload X_365.here hx rfl (hb hby at_58) rfl  k) ?_
      refine Go.step (fun _ k => XS.iconst X_365.here hx rfl (hb hby at_60) k) ?_
      show Go p e below _ (T_365.setTop (mkF m 61 #[vI p0, vI p1, vI p2, vI p3, vI 2, vR a_365, vI cc, vI 0, vU, vU, vU, vU] [(.int (4 : Int32)), (.int (0 : Int32))]))
      refine Go.step (fun _ k => XS.icmpYes X_365.here hx rfl (pc0 := 61) (pc' := 74) rfl (hb hby at_61) rfl (feq ((by decide) : ¬ ((0 : Int32) = (4 : Int32)))).2 (by decide) (by decide) k) ?_
      show Go p e below _ (T_365.setTop (mkF m 74 #[vI p0, vI p1, vI p2, vI p3, vI 2, vR a_365, vI cc, vI 0, vU, vU, vU, vU] []))
      refine Go.step (fun _ k => XS.iload X_365.here hx rfl (hb hby at_74) rfl  k) ?_
      refine Go.step (fun _ k => XS.iconst X_365.here hx rfl (hb hby at_76) k) ?_
      show Go p e below _ (T_365.setTop (mkF m 77 #[vI p0, vI p1, vI p2, vI p3, vI 2, vR a_365, vI cc, vI 0, vU, vU, vU, vU] [(.int (5 : Int32)), (.int (0 : Int32))]))
      refine Go.step (fun _ k => XS.icmpYes X_365.here hx rfl (pc0 := 77) (pc' := 105) rfl (hb hby at_77) rfl (feq ((by decide) : ¬ ((0 : Int32) = (5 : Int32)))).2 (by decide) (by decide) k) ?_
      show Go p e below _ (T_365.setTop (mkF m 105 #[vI p0, vI p1, vI p2, vI p3, vI 2, vR a_365, vI cc, vI 0, vU, vU, vU, vU] []))
      refine Go.step (fun _ k => XS.iload X_365.here hx rfl (hb hby at_105) rfl  k) ?_
      refine Go.step (fun _ k => XS.iconst X_365.here hx rfl (hb hby at_107) k) ?_
      show Go p e below _ (T_365.setTop (mkF m 108 #[vI p0, vI p1, vI p2, vI p3, vI 2, vR a_365, vI cc, vI 0, vU, vU, vU, vU] [(.int (2 : Int32)), (.int (0 : Int32))]))
      refine Go.step (fun _ k => XS.icmpYes X_365.here hx rfl (pc0 := 108) (pc' := 121) rfl (hb hby at_108) rfl (feq ((by decide) : ¬ ((0 : Int32) = (2 : Int32)))).2 (by decide) (by decide) k) ?_
      show Go p e below _ (T_365.setTop (mkF m 121 #[vI p0, vI p1, vI p2, vI p3, vI 2, vR a_365, vI cc, vI 0, vU, vU, vU, vU] []))
      refine Go.step (fun _ k => XS.iload X_365.here hx rfl (hb hby at_121) rfl  k) ?_
      refine Go.step (fun _ k => XS.iconst X_365.here hx rfl (hb hby at_123) k) ?_
      show Go p e below _ (T_365.setTop (mkF m 124 #[vI p0, vI p1, vI p2, vI p3, vI 2, vR a_365, vI cc, vI 0, vU, vU, vU, vU] [(.int (3 : Int32)), (.int (0 : Int32))]))
      refine Go.step (fun _ k => XS.icmpYes X_365.here hx rfl (pc0 := 124) (pc' := 137) rfl (hb hby at_124) rfl (feq ((by decide) : ¬ ((0 : Int32) = (3 : Int32)))).2 (by decide) (by decide) k) ?_
      show Go p e below _ (T_365.setTop (mkF m 137 #[vI p0, vI p1, vI p2, vI p3, vI 2, vR a_365, vI cc, vI 0, vU, vU, vU, vU] []))
      refine Go.step (fun _ k => XS.aload X_365.here hx rfl (hb hby at_137) rfl rfl k) ?_
      show Go p e below _ (T_365.setTop (mkF m 139 #[vI p0, vI p1, vI p2, vI p3, vI 2, vR a_365, vI cc, vI 0, vU, vU, vU, vU] [(.ref a_365)]))
      have cp366 := Sx_365
      obtain ⟨t367, kb367, -, -, Ex367, Fv367, Fc367, Av367, hl367, hn367⟩ := cp366
      obtain ⟨v_368, T_368, L_368, X_368, hQ_368, st_368⟩ := goV X_365 hx hZ_365 (y := Y_11) (z := Y_11) (kc := 0) (ks := 0) (QQ := fun v h' L => v = some (.int (6 : Int32)) ∧ L = [] ∧ h' = h_365) hown_365 (wd_9 hw) (wd_10 hw) (notFace_of_selects (args := #[]) (mvT hZ_365 (wd_12 hw))) (wd_12 hw) (wd_11 hw) (by decide) (StrChars.Road.lenW (W := 0) hZ_365 (sw_wordsLen hw) (kI := 4) (wd_2 hw) Ex367 Fv367 Fc367 Av367 (StrChars.Road.codOf rfl (fun c hc => (hl367 c hc).2)) (up255 hl367) (S_cs.ext O_365.2) n_cs hn367 (by decide) (by decide)) e_365 Ex367 (g := (mkF m 139 #[vI p0, vI p1, vI p2, vI p3, vI 2, vR a_365, vI cc, vI 0, vU, vU, vU, vU] [(.ref a_365)])) rfl (by rw [hml]; rfl) (argsL := []) (rest := []) rfl (lenOf pd_10 rfl) rfl (by show 2 * 0 + _ ≤ _; exact Nat.le_of_eq rfl) (hb hby at_139) (by decide) (by decide)
      obtain ⟨rfl, rfl, e_368⟩ := hQ_368
      have N_368 := Fr.app N0 (Fr.nil n0)
      refine Go.step st_368 ?_
      show Go p e below _ (T_368.setTop (mkF m 142 #[vI p0, vI p1, vI p2, vI p3, vI 2, vR a_365, vI cc, vI 0, vU, vU, vU, vU] [(.int (6 : Int32))]))
      refine Go.step (fun _ k => XS.istore X_368.here hx rfl (hb hby at_142) rfl (l' := #[vI p0, vI p1, vI p2, vI p3, vI 2, vR a_365, vI cc, vI 0, vU, vI 6, vU, vU]) rfl k) ?_
      show Go p e below _ (T_368.setTop (mkF m 144 #[vI p0, vI p1, vI p2, vI p3, vI 2, vR a_365, vI cc, vI 0, vU, vI 6, vU, vU] []))
      refine Go.step (fun _ k => XS.iloadN X_368.here hx rfl (hb hby at_144) rfl  k) ?_
      show Go p e below _ (T_368.setTop (mkF m 145 #[vI p0, vI p1, vI p2, vI p3, vI 2, vR a_365, vI cc, vI 0, vU, vI 6, vU, vU] [(.int p2)]))
      refine Go.step (fun _ k => X_368.ldcInt hx hown_365 (mvT hZ_365 (wd_8 hw)) (g := (mkF m 145 #[vI p0, vI p1, vI p2, vI p3, vI 2, vR a_365, vI cc, vI 0, vU, vI 6, vU, vU] [(.int p2)])) rfl (hb hby at_145) _ k) ?_
      show Go p e below _ (T_368.setTop (mkF m 147 #[vI p0, vI p1, vI p2, vI p3, vI 2, vR a_365, vI cc, vI 0, vU, vI 6, vU, vU] [(.int (2147483647 : Int32)), (.int p2)]))
      refine Go.step (fun _ k => XS.iand X_368.here hx rfl (hb hby at_147) rfl k) ?_
      show Go p e below _ (T_368.setTop (mkF m 148 #[vI p0, vI p1, vI p2, vI p3, vI 2, vR a_365, vI cc, vI 0, vU, vI 6, vU, vU] [(.int (p2 &&& (2147483647 : Int32)))]))
      refine Go.step (fun _ k => XS.iload X_368.here hx rfl (hb hby at_148) rfl  k) ?_
      refine Go.step (fun _ k => XS.iconst X_368.here hx rfl (hb hby at_150) k) ?_
      show Go p e below _ (T_368.setTop (mkF m 151 #[vI p0, vI p1, vI p2, vI p3, vI 2, vR a_365, vI cc, vI 0, vU, vI 6, vU, vU] [(.int (2 : Int32)), (.int (0 : Int32)), (.int (p2 &&& (2147483647 : Int32)))]))
      refine Go.step (fun _ k => XS.icmpYes X_368.here hx rfl (pc0 := 151) (pc' := 162) rfl (hb hby at_151) rfl (feq ((by decide) : ¬ ((0 : Int32) = (2 : Int32)))).2 (by decide) (by decide) k) ?_
      show Go p e below _ (T_368.setTop (mkF m 162 #[vI p0, vI p1, vI p2, vI p3, vI 2, vR a_365, vI cc, vI 0, vU, vI 6, vU, vU] [(.int (p2 &&& (2147483647 : Int32)))]))
      refine Go.step (fun _ k => XS.iload X_368.here hx rfl (hb hby at_162) rfl  k) ?_
      show Go p e below _ (T_368.setTop (mkF m 164 #[vI p0, vI p1, vI p2, vI p3, vI 2, vR a_365, vI cc, vI 0, vU, vI 6, vU, vU] [(.int (6 : Int32)), (.int (p2 &&& (2147483647 : Int32)))]))
      refine Go.step (fun _ k => iremM X_368 hx rfl (hb hby at_164) rfl (by decide) k) ?_
      show Go p e below _ (T_368.setTop (mkF m 165 #[vI p0, vI p1, vI p2, vI p3, vI 2, vR a_365, vI cc, vI 0, vU, vI 6, vU, vU] [(.int ((p2 &&& (2147483647 : Int32)) % (6 : Int32)))]))
      refine Go.step (fun _ k => XS.istore X_368.here hx rfl (hb hby at_165) rfl (l' := #[vI p0, vI p1, vI p2, vI p3, vI 2, vR a_365, vI cc, vI 0, vU, vI 6, vI ((p2 &&& (2147483647 : Int32)) % (6 : Int32)), vU]) rfl k) ?_
      show Go p e below _ (T_368.setTop (mkF m 167 #[vI p0, vI p1, vI p2, vI p3, vI 2, vR a_365, vI cc, vI 0, vU, vI 6, vI ((p2 &&& (2147483647 : Int32)) % (6 : Int32)), vU] []))
      obtain ⟨pp, h_pp⟩ : ∃ z, z = ((p2 &&& (2147483647 : Int32)) % (6 : Int32)) := ⟨_, rfl⟩
      rw [← h_pp]
      show Go p e below _ (T_368.setTop (mkF m 167 #[vI p0, vI p1, vI p2, vI p3, vI 2, vR a_365, vI cc, vI 0, vU, vI 6, vI pp, vU] []))
      have h_p : 0 ≤ pp.toInt ∧ pp.toInt < 6 := by rw [h_pp]; exact rem6 _
      show Go p e below _ (T_368.setTop (mkF m 167 #[vI p0, vI p1, vI p2, vI p3, vI 2, vR a_365, vI cc, vI 0, vU, vI 6, vI pp, vU] []))
      refine Go.step (fun _ k => XS.iload X_368.here hx rfl (hb hby at_167) rfl  k) ?_
      show Go p e below _ (T_368.setTop (mkF m 169 #[vI p0, vI p1, vI p2, vI p3, vI 2, vR a_365, vI cc, vI 0, vU, vI 6, vI pp, vU] [(.int (6 : Int32))]))
      obtain ⟨v_369, T_369, L_369, X_369, hQ_369, st_369⟩ := goS X_368 hx hZ_365 (y := Y_12) hown_365 (wd_22 hw) (wd_23 hw) (wd_24 hw) (wd_25 hw) (by decide) (backOf (W := 0) (rm_make6 l Z a0 hw zc vfm va kv ea eb ec ed wa wb wc wd h_365 n0 (Nat.le_trans Z0 KP_365.1) hSt O_365) hZ_365 (wd_25 hw) (wd_24 hw) (by decide) (by decide)) e_368 (g := (mkF m 169 #[vI p0, vI p1, vI p2, vI p3, vI 2, vR a_365, vI cc, vI 0, vU, vI 6, vI pp, vU] [(.int (6 : Int32))])) rfl (by rw [hml]; rfl) (argsL := [(.int (6 : Int32))]) (rest := []) rfl (lenOf pd_11 rfl) rfl (by show 2 * 0 + _ ≤ _; exact Nat.le_of_eq rfl) (hb hby at_169) (by decide) (by decide)
      obtain ⟨r_369, kr_369, rfl, Nq_369, K_369, u0_369, u1_369⟩ := hQ_369
      have N_369 := Fr.app N_368 Nq_369
      have C_369 := CHr.keep K_369 sf0 C_365.1
      have CR_369 := CHr.trans CR_365 C_369
      have le_369 : h_365.size ≤ T_369.heap.size := K_369.1
      have KP_369 := KP_365.trans K_369 all0
      have O_369 := O_365.keep K_369 all0
      have sz_r_369 : h0.size ≤ r_369 := Nat.le_trans le_365 u0_369
      have g_r_369 : n0 ≤ r_369 := Nat.le_trans Z0 sz_r_369
      have Sf_r_369 := Safe.keep K_369 sf0 C_365.1 (Safe.new u0_369)
      refine Go.step st_369 ?_
      show Go p e below _ (T_369.setTop (mkF m 172 #[vI p0, vI p1, vI p2, vI p3, vI 2, vR a_365, vI cc, vI 0, vU, vI 6, vI pp, vU] [(.ref r_369)]))
      refine Go.step (fun _ k => XS.astore X_369.here hx rfl (hb hby at_172) rfl rfl (l' := #[vI p0, vI p1, vI p2, vI p3, vI 2, vR a_365, vI cc, vI 0, vU, vI 6, vI pp, vR r_369]) rfl k) ?_
      show Go p e below _ (T_369.setTop (mkF m 174 #[vI p0, vI p1, vI p2, vI p3, vI 2, vR a_365, vI cc, vI 0, vU, vI 6, vI pp, vR r_369] []))
      have f370 : Str Z h_365.size T_369.heap a_365 ([(118 : Int32), (111 : Int32), (105 : Int32), (100 : Int32), (101 : Int32), (100 : Int32)] : List Int32) := (Sx_365.keep K_369 all0)
      refine sg_puts l Z a0 hw zc vfm va kv ea eb ec ed wa wb wc wd (p0) (p1) (p2) (p3) ((2 : Int32)) ((6 : Int32)) (r_369) (kr_369) ((6 : Int32)) (([(0 : Int32), (0 : Int32), (0 : Int32), (0 : Int32), (0 : Int32), (0 : Int32)] : List Int32)) (a_365) (([(118 : Int32), (111 : Int32), (105 : Int32), (100 : Int32), (101 : Int32), (100 : Int32)] : List Int32)) ((0 : Int32)) (pp) (cc) (h_365.size) T_369.heap n0 (Nat.le_trans Z0 KP_369.1) u1_369 g_r_369 f370 (Nat.le_trans (Nat.le_refl _) u0_369) rfl (by decide) (by decide) (fun i1 a b => by have a2 : 0 ≤ i1.toInt := Int.not_lt.mp (fun q => a (Int32.lt_iff_toInt_lt.mpr q)); have b2 : i1.toInt < 6 := Int32.lt_iff_toInt_lt.mp b; have hp := h_p; exact ⟨by decide, a2, hp.1, by show _ ≤ ((6 : Nat) : Int); omega, fun _ => by show _ < ((6 : Nat) : Int); omega, fun q => absurd q (by decide), fun a _ _ => absurd rfl a⟩) l_c hSt O_369 hx hby hml hZ_365 hown_365 X_369 rfl N_369 (by decide) (by decide) ?_
      intro T_371 L_371 vs2_371 X_371 hQ_371
      obtain ⟨N_371, K_371, u0_371, u1_371⟩ := hQ_371
      have C_371 := CHr.keep K_371 (sfS (Safe.arv hZ_365.alike u1_369 (by decide)) sf0) C_369.1
      have CR_371 := CHr.trans CR_369 C_371
      have le_371 : T_369.heap.size ≤ T_371.heap.size := K_371.1
      have KP_371 := KP_369.trans K_371 (allS (Or.inr sz_r_369) all0)
      have O_371 := O_369.keep K_371 (allS g_r_369 all0)
      have hv2_371 := u1_371
      show Go p e below _ (T_371.setTop (mkF m 303 #[vI p0, vI p1, vI p2, vI p3, vI 2, vR a_365, vI cc, vI 0, vU, vI 6, vI pp, vR r_369] []))
      have hL_371 : vs2_371.length = 6 := hv2_371.1
      show Go p e below _ (T_371.setTop (mkF m 303 #[vI p0, vI p1, vI p2, vI p3, vI 2, vR a_365, vI cc, vI 0, vU, vI 6, vI pp, vR r_369] []))
      obtain ⟨T_372, h_372, X_372, e_372, E_372, A_372, D_372, Un_372, st_372⟩ := newO X_371 hx hZ_365 hown_365 (wd_55 hw) (wd_2 hw) (wd_1 hw) rfl (g := (mkF m 303 #[vI p0, vI p1, vI p2, vI p3, vI 2, vR a_365, vI cc, vI 0, vU, vI 6, vI pp, vR r_369] [])) rfl (hb hby at_303) (by decide) (by decide)
      obtain ⟨b372, q_372⟩ : ∃ z, z = T_371.heap.size := ⟨_, rfl⟩
      rw [← q_372] at A_372 D_372 Un_372 st_372
      refine Go.step st_372 ?_
      have C_372 := CHr.ext E_372 C_371.1
      have CR_372 := CHr.trans CR_371 C_372
      have le_372 : T_371.heap.size ≤ h_372.size := E_372.1
      have KP_372 := KP_371.ext E_372
      have O_372 := O_371.ext E_372
      have ge_372 : T_371.heap.size ≤ b372 := Nat.le_of_eq q_372.symm
      have sz_b372 : h0.size ≤ b372 := Nat.le_trans (Nat.le_trans le_365 (Nat.le_trans le_369 le_371)) ge_372
      have g_b372 : n0 ≤ b372 := Nat.le_trans Z0 sz_b372
      have F_372_4 : Fld Z h_372 b372 "java/lang/String" "value" "[B" .null := D_372 (Or.inr (wd_4 hw)) (ty := (.array .byte)) pf_0
      have F_372_5 : Fld Z h_372 b372 "java/lang/String" "coder" "B" (.int (0 : Int32)) := D_372 (Or.inr (wd_5 hw)) (ty := .byte) pf_1
      have Sf_b372 := Safe.ext E_372 C_371.1 (Safe.new ge_372)
      show Go p e below _ (T_372.setTop (mkF m 306 #[vI p0, vI p1, vI p2, vI p3, vI 2, vR a_365, vI cc, vI 0, vU, vI 6, vI pp, vR r_369] [(.ref b372)]))
      refine Go.step (fun _ k => XS.dup X_372.here hx rfl (hb hby at_306) rfl rfl k) ?_
      refine Go.step (fun _ k => XS.aload X_372.here hx rfl (hb hby at_307) rfl rfl k) ?_
      show Go p e below _ (T_372.setTop (mkF m 309 #[vI p0, vI p1, vI p2, vI p3, vI 2, vR a_365, vI cc, vI 0, vU, vI 6, vI pp, vR r_369] [(.ref r_369), (.ref b372), (.ref b372)]))
      have f373 : Arv Z h_372 r_369 kr_369 .char (6 : Int32) (vs2_371.map Value.int) (.int (0 : Int32)) := (u0_371.ext E_372)
      obtain ⟨v_374, T_374, L_374, X_374, hQ_374, st_374⟩ := goC X_372 hx hZ_365 (y := Y_13) hown_365 rfl (wd_56 hw) (wd_57 hw) (wd_58 hw) (by decide) (StrChars.Road.backV (W := 1) hZ_365 (sw_words hw) (kI := 4) (wd_2 hw) (cs := vs2_371) (bs := vs2_371.map (fun c => c.toInt8.toInt32)) (n := 6) g_b372 (Nat.le_trans Z0 KP_372.1) A_372 F_372_4 F_372_5 f373 (S_cs.ext O_372.2) n_cs hL_371 rfl (by decide) (by decide) hv2_371.2 rfl (by decide) (by decide)) e_372 (g := (mkF m 309 #[vI p0, vI p1, vI p2, vI p3, vI 2, vR a_365, vI cc, vI 0, vU, vI 6, vI pp, vR r_369] [(.ref r_369), (.ref b372), (.ref b372)])) rfl (by rw [hml]; rfl) (a := b372) (argsL := [(.ref r_369)]) (rest := [(.ref b372)]) rfl (lenOf pd_12 rfl) rfl (by show 2 * 0 + _ ≤ _; exact Nat.le_of_eq rfl) (hb hby at_309) (by decide) (by decide)
      obtain ⟨rfl, Nq_374, K_374, Ex_374, Fc_374, t_374, kb_374, -, gt_374, -, Fv_374, Av_374⟩ := hQ_374
      have N_374 := Fr.app N_371 Nq_374
      have C_374 := CHr.keep K_374 (sfS Sf_b372 sf0) C_372.1
      have CR_374 := CHr.trans CR_372 C_374
      have le_374 : h_372.size ≤ T_374.heap.size := K_374.1
      have KP_374 := KP_372.trans K_374 (allS (Or.inr sz_b372) all0)
      have O_374 := O_372.keep K_374 (allS g_b372 all0)
      have Sx_374 : Str Z (T_374.heap).size (T_374.heap) b372 vs2_371 := ⟨t_374, kb_374, Ex_374.lt, Av_374.lt, Ex_374, Fv_374, Fc_374, by rw [show vs2_371.length = 6 from hL_371]; exact Av_374, hv2_371.2, by rw [show vs2_371.length = 6 from hL_371]; decide⟩
      refine Go.step st_374 ?_
      show Go p e below _ (T_374.setTop (mkF m 312 #[vI p0, vI p1, vI p2, vI p3, vI 2, vR a_365, vI cc, vI 0, vU, vI 6, vI pp, vR r_369] [(.ref b372)]))
      refine Go.step (fun _ k => XS.astore X_374.here hx rfl (hb hby at_312) rfl rfl (l' := #[vI p0, vI p1, vI p2, vI p3, vI 2, vR a_365, vI cc, vI 0, vR b372, vI 6, vI pp, vR r_369]) rfl k) ?_
      show Go p e below _ (T_374.setTop (mkF m 314 #[vI p0, vI p1, vI p2, vI p3, vI 2, vR a_365, vI cc, vI 0, vR b372, vI 6, vI pp, vR r_369] []))
      exact tg_tailS l Z a0 hw zc vfm va kv ea eb ec ed wa wb wc wd ((vI p0)) ((vI p1)) ((vI p2)) ((vI p3)) ((vI 2)) ((vR a_365)) ((vI cc)) ((vI 0)) ((vI 6)) ((vI pp)) ((vR r_369)) (b372) (vs2_371) T_374.heap n0 (Nat.le_trans Z0 KP_374.1) Sx_374 hSt O_374 hx hby hml hret hlk hZ_365 hown_365 X_374 rfl N_374 hS_365 (Nat.le_trans hk_365 (Nat.le_trans le_369 (Nat.le_trans le_371 (Nat.le_trans le_372 le_374)))) C_374.1 CR_374 hh0 (by decide) (by decide)
    · skip
      show Go p e below _ (T_365.setTop (mkF m 58 #[vI p0, vI p1, vI p2, vI p3, vI 2, vR a_365, vI cc, vI 1, vU, vU, vU, vU] []))
      refine Go.step (fun _ k => XS.iload X_365.here hx rfl (hb hby at_58) rfl  k) ?_
      refine Go.step (fun _ k => XS.iconst X_365.here hx rfl (hb hby at_60) k) ?_
      show Go p e below _ (T_365.setTop (mkF m 61 #[vI p0, vI p1, vI p2, vI p3, vI 2, vR a_365, vI cc, vI 1, vU, vU, vU, vU] [(.int (4 : Int32)), (.int (1 : Int32))]))
      refine Go.step (fun _ k => XS.icmpYes X_365.here hx rfl (pc0 := 61) (pc' := 74) rfl (hb hby at_61) rfl (feq ((by decide) : ¬ ((1 : Int32) = (4 : Int32)))).2 (by decide) (by decide) k) ?_
      show Go p e below _ (T_365.setTop (mkF m 74 #[vI p0, vI p1, vI p2, vI p3, vI 2, vR a_365, vI cc, vI 1, vU, vU, vU, vU] []))
      refine Go.step (fun _ k => XS.iload X_365.here hx rfl (hb hby at_74) rfl  k) ?_
      refine Go.step (fun _ k => XS.iconst X_365.here hx rfl (hb hby at_76) k) ?_
      show Go p e below _ (T_365.setTop (mkF m 77 #[vI p0, vI p1, vI p2, vI p3, vI 2, vR a_365, vI cc, vI 1, vU, vU, vU, vU] [(.int (5 : Int32)), (.int (1 : Int32))]))
      refine Go.step (fun _ k => XS.icmpYes X_365.here hx rfl (pc0 := 77) (pc' := 105) rfl (hb hby at_77) rfl (feq ((by decide) : ¬ ((1 : Int32) = (5 : Int32)))).2 (by decide) (by decide) k) ?_
      show Go p e below _ (T_365.setTop (mkF m 105 #[vI p0, vI p1, vI p2, vI p3, vI 2, vR a_365, vI cc, vI 1, vU, vU, vU, vU] []))
      refine Go.step (fun _ k => XS.iload X_365.here hx rfl (hb hby at_105) rfl  k) ?_
      refine Go.step (fun _ k => XS.iconst X_365.here hx rfl (hb hby at_107) k) ?_
      show Go p e below _ (T_365.setTop (mkF m 108 #[vI p0, vI p1, vI p2, vI p3, vI 2, vR a_365, vI cc, vI 1, vU, vU, vU, vU] [(.int (2 : Int32)), (.int (1 : Int32))]))
      refine Go.step (fun _ k => XS.icmpYes X_365.here hx rfl (pc0 := 108) (pc' := 121) rfl (hb hby at_108) rfl (feq ((by decide) : ¬ ((1 : Int32) = (2 : Int32)))).2 (by decide) (by decide) k) ?_
      show Go p e below _ (T_365.setTop (mkF m 121 #[vI p0, vI p1, vI p2, vI p3, vI 2, vR a_365, vI cc, vI 1, vU, vU, vU, vU] []))
      refine Go.step (fun _ k => XS.iload X_365.here hx rfl (hb hby at_121) rfl  k) ?_
      refine Go.step (fun _ k => XS.iconst X_365.here hx rfl (hb hby at_123) k) ?_
      show Go p e below _ (T_365.setTop (mkF m 124 #[vI p0, vI p1, vI p2, vI p3, vI 2, vR a_365, vI cc, vI 1, vU, vU, vU, vU] [(.int (3 : Int32)), (.int (1 : Int32))]))
      refine Go.step (fun _ k => XS.icmpYes X_365.here hx rfl (pc0 := 124) (pc' := 137) rfl (hb hby at_124) rfl (feq ((by decide) : ¬ ((1 : Int32) = (3 : Int32)))).2 (by decide) (by decide) k) ?_
      show Go p e below _ (T_365.setTop (mkF m 137 #[vI p0, vI p1, vI p2, vI p3, vI 2, vR a_365, vI cc, vI 1, vU, vU, vU, vU] []))
      refine Go.step (fun _ k => XS.aload X_365.here hx rfl (hb hby at_137) rfl rfl k) ?_
      show Go p e below _ (T_365.setTop (mkF m 139 #[vI p0, vI p1, vI p2, vI p3, vI 2, vR a_365, vI cc, vI 1, vU, vU, vU, vU] [(.ref a_365)]))
      have cp375 := Sx_365
      obtain ⟨t376, kb376, -, -, Ex376, Fv376, Fc376, Av376, hl376, hn376⟩ := cp375
      obtain ⟨v_377, T_377, L_377, X_377, hQ_377, st_377⟩ := goV X_365 hx hZ_365 (y := Y_11) (z := Y_11) (kc := 0) (ks := 0) (QQ := fun v h' L => v = some (.int (6 : Int32)) ∧ L = [] ∧ h' = h_365) hown_365 (wd_9 hw) (wd_10 hw) (notFace_of_selects (args := #[]) (mvT hZ_365 (wd_12 hw))) (wd_12 hw) (wd_11 hw) (by decide) (StrChars.Road.lenW (W := 0) hZ_365 (sw_wordsLen hw) (kI := 4) (wd_2 hw) Ex376 Fv376 Fc376 Av376 (StrChars.Road.codOf rfl (fun c hc => (hl376 c hc).2)) (up255 hl376) (S_cs.ext O_365.2) n_cs hn376 (by decide) (by decide)) e_365 Ex376 (g := (mkF m 139 #[vI p0, vI p1, vI p2, vI p3, vI 2, vR a_365, vI cc, vI 1, vU, vU, vU, vU] [(.ref a_365)])) rfl (by rw [hml]; rfl) (argsL := []) (rest := []) rfl (lenOf pd_10 rfl) rfl (by show 2 * 0 + _ ≤ _; exact Nat.le_of_eq rfl) (hb hby at_139) (by decide) (by decide)
      obtain ⟨rfl, rfl, e_377⟩ := hQ_377
      have N_377 := Fr.app N0 (Fr.nil n0)
      refine Go.step st_377 ?_
      show Go p e below _ (T_377.setTop (mkF m 142 #[vI p0, vI p1, vI p2, vI p3, vI 2, vR a_365, vI cc, vI 1, vU, vU, vU, vU] [(.int (6 : Int32))]))
      refine Go.step (fun _ k => XS.istore X_377.here hx rfl (hb hby at_142) rfl (l' := #[vI p0, vI p1, vI p2, vI p3, vI 2, vR a_365, vI cc, vI 1, vU, vI 6, vU, vU]) rfl k) ?_
      show Go p e below _ (T_377.setTop (mkF m 144 #[vI p0, vI p1, vI p2, vI p3, vI 2, vR a_365, vI cc, vI 1, vU, vI 6, vU, vU] []))
      refine Go.step (fun _ k => XS.iloadN X_377.here hx rfl (hb hby at_144) rfl  k) ?_
      show Go p e below _ (T_377.setTop (mkF m 145 #[vI p0, vI p1, vI p2, vI p3, vI 2, vR a_365, vI cc, vI 1, vU, vI 6, vU, vU] [(.int p2)]))
      refine Go.step (fun _ k => X_377.ldcInt hx hown_365 (mvT hZ_365 (wd_8 hw)) (g := (mkF m 145 #[vI p0, vI p1, vI p2, vI p3, vI 2, vR a_365, vI cc, vI 1, vU, vI 6, vU, vU] [(.int p2)])) rfl (hb hby at_145) _ k) ?_
      show Go p e below _ (T_377.setTop (mkF m 147 #[vI p0, vI p1, vI p2, vI p3, vI 2, vR a_365, vI cc, vI 1, vU, vI 6, vU, vU] [(.int (2147483647 : Int32)), (.int p2)]))
      refine Go.step (fun _ k => XS.iand X_377.here hx rfl (hb hby at_147) rfl k) ?_
      show Go p e below _ (T_377.setTop (mkF m 148 #[vI p0, vI p1, vI p2, vI p3, vI 2, vR a_365, vI cc, vI 1, vU, vI 6, vU, vU] [(.int (p2 &&& (2147483647 : Int32)))]))
      refine Go.step (fun _ k => XS.iload X_377.here hx rfl (hb hby at_148) rfl  k) ?_
      refine Go.step (fun _ k => XS.iconst X_377.here hx rfl (hb hby at_150) k) ?_
      show Go p e below _ (T_377.setTop (mkF m 151 #[vI p0, vI p1, vI p2, vI p3, vI 2, vR a_365, vI cc, vI 1, vU, vI 6, vU, vU] [(.int (2 : Int32)), (.int (1 : Int32)), (.int (p2 &&& (2147483647 : Int32)))]))
      refine Go.step (fun _ k => XS.icmpYes X_377.here hx rfl (pc0 := 151) (pc' := 162) rfl (hb hby at_151) rfl (feq ((by decide) : ¬ ((1 : Int32) = (2 : Int32)))).2 (by decide) (by decide) k) ?_
      show Go p e below _ (T_377.setTop (mkF m 162 #[vI p0, vI p1, vI p2, vI p3, vI 2, vR a_365, vI cc, vI 1, vU, vI 6, vU, vU] [(.int (p2 &&& (2147483647 : Int32)))]))
      refine Go.step (fun _ k => XS.iload X_377.here hx rfl (hb hby at_162) rfl  k) ?_
      show Go p e below _ (T_377.setTop (mkF m 164 #[vI p0, vI p1, vI p2, vI p3, vI 2, vR a_365, vI cc, vI 1, vU, vI 6, vU, vU] [(.int (6 : Int32)), (.int (p2 &&& (2147483647 : Int32)))]))
      refine Go.step (fun _ k => iremM X_377 hx rfl (hb hby at_164) rfl (by decide) k) ?_
      show Go p e below _ (T_377.setTop (mkF m 165 #[vI p0, vI p1, vI p2, vI p3, vI 2, vR a_365, vI cc, vI 1, vU, vI 6, vU, vU] [(.int ((p2 &&& (2147483647 : Int32)) % (6 : Int32)))]))
      refine Go.step (fun _ k => XS.istore X_377.here hx rfl (hb hby at_165) rfl (l' := #[vI p0, vI p1, vI p2, vI p3, vI 2, vR a_365, vI cc, vI 1, vU, vI 6, vI ((p2 &&& (2147483647 : Int32)) % (6 : Int32)), vU]) rfl k) ?_
      show Go p e below _ (T_377.setTop (mkF m 167 #[vI p0, vI p1, vI p2, vI p3, vI 2, vR a_365, vI cc, vI 1, vU, vI 6, vI ((p2 &&& (2147483647 : Int32)) % (6 : Int32)), vU] []))
      obtain ⟨pp, h_pp⟩ : ∃ z, z = ((p2 &&& (2147483647 : Int32)) % (6 : Int32)) := ⟨_, rfl⟩
      rw [← h_pp]
      show Go p e below _ (T_377.setTop (mkF m 167 #[vI p0, vI p1, vI p2, vI p3, vI 2, vR a_365, vI cc, vI 1, vU, vI 6, vI pp, vU] []))
      have h_p : 0 ≤ pp.toInt ∧ pp.toInt < 6 := by rw [h_pp]; exact rem6 _
      show Go p e below _ (T_377.setTop (mkF m 167 #[vI p0, vI p1, vI p2, vI p3, vI 2, vR a_365, vI cc, vI 1, vU, vI 6, vI pp, vU] []))
      refine Go.step (fun _ k => XS.iload X_377.here hx rfl (hb hby at_167) rfl  k) ?_
      show Go p e below _ (T_377.setTop (mkF m 169 #[vI p0, vI p1, vI p2, vI p3, vI 2, vR a_365, vI cc, vI 1, vU, vI 6, vI pp, vU] [(.int (6 : Int32))]))
      obtain ⟨v_378, T_378, L_378, X_378, hQ_378, st_378⟩ := goS X_377 hx hZ_365 (y := Y_12) hown_365 (wd_22 hw) (wd_23 hw) (wd_24 hw) (wd_25 hw) (by decide) (backOf (W := 0) (rm_make6 l Z a0 hw zc vfm va kv ea eb ec ed wa wb wc wd h_365 n0 (Nat.le_trans Z0 KP_365.1) hSt O_365) hZ_365 (wd_25 hw) (wd_24 hw) (by decide) (by decide)) e_377 (g := (mkF m 169 #[vI p0, vI p1, vI p2, vI p3, vI 2, vR a_365, vI cc, vI 1, vU, vI 6, vI pp, vU] [(.int (6 : Int32))])) rfl (by rw [hml]; rfl) (argsL := [(.int (6 : Int32))]) (rest := []) rfl (lenOf pd_11 rfl) rfl (by show 2 * 0 + _ ≤ _; exact Nat.le_of_eq rfl) (hb hby at_169) (by decide) (by decide)
      obtain ⟨r_378, kr_378, rfl, Nq_378, K_378, u0_378, u1_378⟩ := hQ_378
      have N_378 := Fr.app N_377 Nq_378
      have C_378 := CHr.keep K_378 sf0 C_365.1
      have CR_378 := CHr.trans CR_365 C_378
      have le_378 : h_365.size ≤ T_378.heap.size := K_378.1
      have KP_378 := KP_365.trans K_378 all0
      have O_378 := O_365.keep K_378 all0
      have sz_r_378 : h0.size ≤ r_378 := Nat.le_trans le_365 u0_378
      have g_r_378 : n0 ≤ r_378 := Nat.le_trans Z0 sz_r_378
      have Sf_r_378 := Safe.keep K_378 sf0 C_365.1 (Safe.new u0_378)
      refine Go.step st_378 ?_
      show Go p e below _ (T_378.setTop (mkF m 172 #[vI p0, vI p1, vI p2, vI p3, vI 2, vR a_365, vI cc, vI 1, vU, vI 6, vI pp, vU] [(.ref r_378)]))
      refine Go.step (fun _ k => XS.astore X_378.here hx rfl (hb hby at_172) rfl rfl (l' := #[vI p0, vI p1, vI p2, vI p3, vI 2, vR a_365, vI cc, vI 1, vU, vI 6, vI pp, vR r_378]) rfl k) ?_
      show Go p e below _ (T_378.setTop (mkF m 174 #[vI p0, vI p1, vI p2, vI p3, vI 2, vR a_365, vI cc, vI 1, vU, vI 6, vI pp, vR r_378] []))
      have f379 : Str Z h_365.size T_378.heap a_365 ([(118 : Int32), (111 : Int32), (105 : Int32), (100 : Int32), (101 : Int32), (100 : Int32)] : List Int32) := (Sx_365.keep K_378 all0)
      refine sg_puts l Z a0 hw zc vfm va kv ea eb ec ed wa wb wc wd (p0) (p1) (p2) (p3) ((2 : Int32)) ((6 : Int32)) (r_378) (kr_378) ((6 : Int32)) (([(0 : Int32), (0 : Int32), (0 : Int32), (0 : Int32), (0 : Int32), (0 : Int32)] : List Int32)) (a_365) (([(118 : Int32), (111 : Int32), (105 : Int32), (100 : Int32), (101 : Int32), (100 : Int32)] : List Int32)) ((1 : Int32)) (pp) (cc) (h_365.size) T_378.heap n0 (Nat.le_trans Z0 KP_378.1) u1_378 g_r_378 f379 (Nat.le_trans (Nat.le_refl _) u0_378) rfl (by decide) (by decide) (fun i1 a b => by have a2 : 0 ≤ i1.toInt := Int.not_lt.mp (fun q => a (Int32.lt_iff_toInt_lt.mpr q)); have b2 : i1.toInt < 6 := Int32.lt_iff_toInt_lt.mp b; have hp := h_p; exact ⟨by decide, a2, hp.1, by show _ ≤ ((6 : Nat) : Int); omega, fun _ => by show _ < ((6 : Nat) : Int); omega, fun q => absurd q (by decide), fun _ b _ => absurd rfl b⟩) l_c hSt O_378 hx hby hml hZ_365 hown_365 X_378 rfl N_378 (by decide) (by decide) ?_
      intro T_380 L_380 vs2_380 X_380 hQ_380
      obtain ⟨N_380, K_380, u0_380, u1_380⟩ := hQ_380
      have C_380 := CHr.keep K_380 (sfS (Safe.arv hZ_365.alike u1_378 (by decide)) sf0) C_378.1
      have CR_380 := CHr.trans CR_378 C_380
      have le_380 : T_378.heap.size ≤ T_380.heap.size := K_380.1
      have KP_380 := KP_378.trans K_380 (allS (Or.inr sz_r_378) all0)
      have O_380 := O_378.keep K_380 (allS g_r_378 all0)
      have hv2_380 := u1_380
      show Go p e below _ (T_380.setTop (mkF m 303 #[vI p0, vI p1, vI p2, vI p3, vI 2, vR a_365, vI cc, vI 1, vU, vI 6, vI pp, vR r_378] []))
      have hL_380 : vs2_380.length = 6 := hv2_380.1
      show Go p e below _ (T_380.setTop (mkF m 303 #[vI p0, vI p1, vI p2, vI p3, vI 2, vR a_365, vI cc, vI 1, vU, vI 6, vI pp, vR r_378] []))
      obtain ⟨T_381, h_381, X_381, e_381, E_381, A_381, D_381, Un_381, st_381⟩ := newO X_380 hx hZ_365 hown_365 (wd_55 hw) (wd_2 hw) (wd_1 hw) rfl (g := (mkF m 303 #[vI p0, vI p1, vI p2, vI p3, vI 2, vR a_365, vI cc, vI 1, vU, vI 6, vI pp, vR r_378] [])) rfl (hb hby at_303) (by decide) (by decide)
      obtain ⟨b381, q_381⟩ : ∃ z, z = T_380.heap.size := ⟨_, rfl⟩
      rw [← q_381] at A_381 D_381 Un_381 st_381
      refine Go.step st_381 ?_
      have C_381 := CHr.ext E_381 C_380.1
      have CR_381 := CHr.trans CR_380 C_381
      have le_381 : T_380.heap.size ≤ h_381.size := E_381.1
      have KP_381 := KP_380.ext E_381
      have O_381 := O_380.ext E_381
      have ge_381 : T_380.heap.size ≤ b381 := Nat.le_of_eq q_381.symm
      have sz_b381 : h0.size ≤ b381 := Nat.le_trans (Nat.le_trans le_365 (Nat.le_trans le_378 le_380)) ge_381
      have g_b381 : n0 ≤ b381 := Nat.le_trans Z0 sz_b381
      have F_381_4 : Fld Z h_381 b381 "java/lang/String" "value" "[B" .null := D_381 (Or.inr (wd_4 hw)) (ty := (.array .byte)) pf_0
      have F_381_5 : Fld Z h_381 b381 "java/lang/String" "coder" "B" (.int (0 : Int32)) := D_381 (Or.inr (wd_5 hw)) (ty := .byte) pf_1
      have Sf_b381 := Safe.ext E_381 C_380.1 (Safe.new ge_381)
      show Go p e below _ (T_381.setTop (mkF m 306 #[vI p0, vI p1, vI p2, vI p3, vI 2, vR a_365, vI cc, vI 1, vU, vI 6, vI pp, vR r_378] [(.ref b381)]))
      refine Go.step (fun _ k => XS.dup X_381.here hx rfl (hb hby at_306) rfl rfl k) ?_
      refine Go.step (fun _ k => XS.aload X_381.here hx rfl (hb hby at_307) rfl rfl k) ?_
      show Go p e below _ (T_381.setTop (mkF m 309 #[vI p0, vI p1, vI p2, vI p3, vI 2, vR a_365, vI cc, vI 1, vU, vI 6, vI pp, vR r_378] [(.ref r_378), (.ref b381), (.ref b381)]))
      have f382 : Arv Z h_381 r_378 kr_378 .char (6 : Int32) (vs2_380.map Value.int) (.int (0 : Int32)) := (u0_380.ext E_381)
      obtain ⟨v_383, T_383, L_383, X_383, hQ_383, st_383⟩ := goC X_381 hx hZ_365 (y := Y_13) hown_365 rfl (wd_56 hw) (wd_57 hw) (wd_58 hw) (by decide) (StrChars.Road.backV (W := 1) hZ_365 (sw_words hw) (kI := 4) (wd_2 hw) (cs := vs2_380) (bs := vs2_380.map (fun c => c.toInt8.toInt32)) (n := 6) g_b381 (Nat.le_trans Z0 KP_381.1) A_381 F_381_4 F_381_5 f382 (S_cs.ext O_381.2) n_cs hL_380 rfl (by decide) (by decide) hv2_380.2 rfl (by decide) (by decide)) e_381 (g := (mkF m 309 #[vI p0, vI p1, vI p2, vI p3, vI 2, vR a_365, vI cc, vI 1, vU, vI 6, vI pp, vR r_378] [(.ref r_378), (.ref b381), (.ref b381)])) rfl (by rw [hml]; rfl) (a := b381) (argsL := [(.ref r_378)]) (rest := [(.ref b381)]) rfl (lenOf pd_12 rfl) rfl (by show 2 * 0 + _ ≤ _; exact Nat.le_of_eq rfl) (hb hby at_309) (by decide) (by decide)
      obtain ⟨rfl, Nq_383, K_383, Ex_383, Fc_383, t_383, kb_383, -, gt_383, -, Fv_383, Av_383⟩ := hQ_383
      have N_383 := Fr.app N_380 Nq_383
      have C_383 := CHr.keep K_383 (sfS Sf_b381 sf0) C_381.1
      have CR_383 := CHr.trans CR_381 C_383
      have le_383 : h_381.size ≤ T_383.heap.size := K_383.1
      have KP_383 := KP_381.trans K_383 (allS (Or.inr sz_b381) all0)
      have O_383 := O_381.keep K_383 (allS g_b381 all0)
      have Sx_383 : Str Z (T_383.heap).size (T_383.heap) b381 vs2_380 := ⟨t_383, kb_383, Ex_383.lt, Av_383.lt, Ex_383, Fv_383, Fc_383, by rw [show vs2_380.length = 6 from hL_380]; exact Av_383, hv2_380.2, by rw [show vs2_380.length = 6 from hL_380]; decide⟩
      refine Go.step st_383 ?_
      show Go p e below _ (T_383.setTop (mkF m 312 #[vI p0, vI p1, vI p2, vI p3, vI 2, vR a_365, vI cc, vI 1, vU, vI 6, vI pp, vR r_378] [(.ref b381)]))
      refine Go.step (fun _ k => XS.astore X_383.here hx rfl (hb hby at_312) rfl rfl (l' := #[vI p0, vI p1, vI p2, vI p3, vI 2, vR a_365, vI cc, vI 1, vR b381, vI 6, vI pp, vR r_378]) rfl k) ?_
      show Go p e below _ (T_383.setTop (mkF m 314 #[vI p0, vI p1, vI p2, vI p3, vI 2, vR a_365, vI cc, vI 1, vR b381, vI 6, vI pp, vR r_378] []))
      exact tg_tailS l Z a0 hw zc vfm va kv ea eb ec ed wa wb wc wd ((vI p0)) ((vI p1)) ((vI p2)) ((vI p3)) ((vI 2)) ((vR a_365)) ((vI cc)) ((vI 1)) ((vI 6)) ((vI pp)) ((vR r_378)) (b381) (vs2_380) T_383.heap n0 (Nat.le_trans Z0 KP_383.1) Sx_383 hSt O_383 hx hby hml hret hlk hZ_365 hown_365 X_383 rfl N_383 hS_365 (Nat.le_trans hk_365 (Nat.le_trans le_378 (Nat.le_trans le_380 (Nat.le_trans le_381 le_383)))) C_383.1 CR_383 hh0 (by decide) (by decide)
    · skip
      show Go p e below _ (T_365.setTop (mkF m 58 #[vI p0, vI p1, vI p2, vI p3, vI 2, vR a_365, vI cc, vI 2, vU, vU, vU, vU] []))
      refine Go.step (fun _ k => XS.iload X_365.here hx rfl (hb hby at_58) rfl  k) ?_
      refine Go.step (fun _ k => XS.iconst X_365.here hx rfl (hb hby at_60) k) ?_
      show Go p e below _ (T_365.setTop (mkF m 61 #[vI p0, vI p1, vI p2, vI p3, vI 2, vR a_365, vI cc, vI 2, vU, vU, vU, vU] [(.int (4 : Int32)), (.int (2 : Int32))]))
      refine Go.step (fun _ k => XS.icmpYes X_365.here hx rfl (pc0 := 61) (pc' := 74) rfl (hb hby at_61) rfl (feq ((by decide) : ¬ ((2 : Int32) = (4 : Int32)))).2 (by decide) (by decide) k) ?_
      show Go p e below _ (T_365.setTop (mkF m 74 #[vI p0, vI p1, vI p2, vI p3, vI 2, vR a_365, vI cc, vI 2, vU, vU, vU, vU] []))
      refine Go.step (fun _ k => XS.iload X_365.here hx rfl (hb hby at_74) rfl  k) ?_
      refine Go.step (fun _ k => XS.iconst X_365.here hx rfl (hb hby at_76) k) ?_
      show Go p e below _ (T_365.setTop (mkF m 77 #[vI p0, vI p1, vI p2, vI p3, vI 2, vR a_365, vI cc, vI 2, vU, vU, vU, vU] [(.int (5 : Int32)), (.int (2 : Int32))]))
      refine Go.step (fun _ k => XS.icmpYes X_365.here hx rfl (pc0 := 77) (pc' := 105) rfl (hb hby at_77) rfl (feq ((by decide) : ¬ ((2 : Int32) = (5 : Int32)))).2 (by decide) (by decide) k) ?_
      show Go p e below _ (T_365.setTop (mkF m 105 #[vI p0, vI p1, vI p2, vI p3, vI 2, vR a_365, vI cc, vI 2, vU, vU, vU, vU] []))
      refine Go.step (fun _ k => XS.iload X_365.here hx rfl (hb hby at_105) rfl  k) ?_
      refine Go.step (fun _ k => XS.iconst X_365.here hx rfl (hb hby at_107) k) ?_
      show Go p e below _ (T_365.setTop (mkF m 108 #[vI p0, vI p1, vI p2, vI p3, vI 2, vR a_365, vI cc, vI 2, vU, vU, vU, vU] [(.int (2 : Int32)), (.int (2 : Int32))]))
      refine Go.step (fun _ k => XS.icmpNo X_365.here hx rfl (hb hby at_108) rfl (teq ((by decide) : (2 : Int32) = (2 : Int32))).2 k) ?_
      show Go p e below _ (T_365.setTop (mkF m 111 #[vI p0, vI p1, vI p2, vI p3, vI 2, vR a_365, vI cc, vI 2, vU, vU, vU, vU] []))
      refine Go.step (fun _ k => XS.aload X_365.here hx rfl (hb hby at_111) rfl rfl k) ?_
      show Go p e below _ (T_365.setTop (mkF m 113 #[vI p0, vI p1, vI p2, vI p3, vI 2, vR a_365, vI cc, vI 2, vU, vU, vU, vU] [(.ref a_365)]))
      have cp384 := Sx_365
      obtain ⟨t385, kb385, -, -, Ex385, Fv385, Fc385, Av385, hl385, hn385⟩ := cp384
      obtain ⟨v_386, T_386, L_386, X_386, hQ_386, st_386⟩ := goV X_365 hx hZ_365 (y := Y_11) (z := Y_11) (kc := 0) (ks := 0) (QQ := fun v h' L => v = some (.int (6 : Int32)) ∧ L = [] ∧ h' = h_365) hown_365 (wd_9 hw) (wd_10 hw) (notFace_of_selects (args := #[]) (mvT hZ_365 (wd_12 hw))) (wd_12 hw) (wd_11 hw) (by decide) (StrChars.Road.lenW (W := 0) hZ_365 (sw_wordsLen hw) (kI := 4) (wd_2 hw) Ex385 Fv385 Fc385 Av385 (StrChars.Road.codOf rfl (fun c hc => (hl385 c hc).2)) (up255 hl385) (S_cs.ext O_365.2) n_cs hn385 (by decide) (by decide)) e_365 Ex385 (g := (mkF m 113 #[vI p0, vI p1, vI p2, vI p3, vI 2, vR a_365, vI cc, vI 2, vU, vU, vU, vU] [(.ref a_365)])) rfl (by rw [hml]; rfl) (argsL := []) (rest := []) rfl (lenOf pd_10 rfl) rfl (by show 2 * 0 + _ ≤ _; exact Nat.le_of_eq rfl) (hb hby at_113) (by decide) (by decide)
      obtain ⟨rfl, rfl, e_386⟩ := hQ_386
      have N_386 := Fr.app N0 (Fr.nil n0)
      refine Go.step st_386 ?_
      show Go p e below _ (T_386.setTop (mkF m 116 #[vI p0, vI p1, vI p2, vI p3, vI 2, vR a_365, vI cc, vI 2, vU, vU, vU, vU] [(.int (6 : Int32))]))
      refine Go.step (fun _ k => XS.iconst X_386.here hx rfl (hb hby at_116) k) ?_
      show Go p e below _ (T_386.setTop (mkF m 117 #[vI p0, vI p1, vI p2, vI p3, vI 2, vR a_365, vI cc, vI 2, vU, vU, vU, vU] [(.int (1 : Int32)), (.int (6 : Int32))]))
      refine Go.step (fun _ k => XS.isub X_386.here hx rfl (hb hby at_117) rfl k) ?_
      show Go p e below _ (T_386.setTop (mkF m 118 #[vI p0, vI p1, vI p2, vI p3, vI 2, vR a_365, vI cc, vI 2, vU, vU, vU, vU] [(.int ((6 : Int32) - (1 : Int32)))]))
      refine own_top (congrArg Value.int (show ((6 : Int32) - (1 : Int32)) = (5 : Int32) from by decide)) ?_
      show Go p e below _ (T_386.setTop (mkF m 118 #[vI p0, vI p1, vI p2, vI p3, vI 2, vR a_365, vI cc, vI 2, vU, vU, vU, vU] [(.int (5 : Int32))]))
      refine Go.step (fun _ k => XS.goto X_386.here hx rfl (pc0 := 118) (pc' := 142) rfl (hb hby at_118) (by decide) (by decide) k) ?_
      show Go p e below _ (T_386.setTop (mkF m 142 #[vI p0, vI p1, vI p2, vI p3, vI 2, vR a_365, vI cc, vI 2, vU, vU, vU, vU] [(.int (5 : Int32))]))
      refine Go.step (fun _ k => XS.istore X_386.here hx rfl (hb hby at_142) rfl (l' := #[vI p0, vI p1, vI p2, vI p3, vI 2, vR a_365, vI cc, vI 2, vU, vI 5, vU, vU]) rfl k) ?_
      show Go p e below _ (T_386.setTop (mkF m 144 #[vI p0, vI p1, vI p2, vI p3, vI 2, vR a_365, vI cc, vI 2, vU, vI 5, vU, vU] []))
      refine Go.step (fun _ k => XS.iloadN X_386.here hx rfl (hb hby at_144) rfl  k) ?_
      show Go p e below _ (T_386.setTop (mkF m 145 #[vI p0, vI p1, vI p2, vI p3, vI 2, vR a_365, vI cc, vI 2, vU, vI 5, vU, vU] [(.int p2)]))
      refine Go.step (fun _ k => X_386.ldcInt hx hown_365 (mvT hZ_365 (wd_8 hw)) (g := (mkF m 145 #[vI p0, vI p1, vI p2, vI p3, vI 2, vR a_365, vI cc, vI 2, vU, vI 5, vU, vU] [(.int p2)])) rfl (hb hby at_145) _ k) ?_
      show Go p e below _ (T_386.setTop (mkF m 147 #[vI p0, vI p1, vI p2, vI p3, vI 2, vR a_365, vI cc, vI 2, vU, vI 5, vU, vU] [(.int (2147483647 : Int32)), (.int p2)]))
      refine Go.step (fun _ k => XS.iand X_386.here hx rfl (hb hby at_147) rfl k) ?_
      show Go p e below _ (T_386.setTop (mkF m 148 #[vI p0, vI p1, vI p2, vI p3, vI 2, vR a_365, vI cc, vI 2, vU, vI 5, vU, vU] [(.int (p2 &&& (2147483647 : Int32)))]))
      refine Go.step (fun _ k => XS.iload X_386.here hx rfl (hb hby at_148) rfl  k) ?_
      refine Go.step (fun _ k => XS.iconst X_386.here hx rfl (hb hby at_150) k) ?_
      show Go p e below _ (T_386.setTop (mkF m 151 #[vI p0, vI p1, vI p2, vI p3, vI 2, vR a_365, vI cc, vI 2, vU, vI 5, vU, vU] [(.int (2 : Int32)), (.int (2 : Int32)), (.int (p2 &&& (2147483647 : Int32)))]))
      refine Go.step (fun _ k => XS.icmpNo X_386.here hx rfl (hb hby at_151) rfl (teq ((by decide) : (2 : Int32) = (2 : Int32))).2 k) ?_
      show Go p e below _ (T_386.setTop (mkF m 154 #[vI p0, vI p1, vI p2, vI p3, vI 2, vR a_365, vI cc, vI 2, vU, vI 5, vU, vU] [(.int (p2 &&& (2147483647 : Int32)))]))
      refine Go.step (fun _ k => XS.aload X_386.here hx rfl (hb hby at_154) rfl rfl k) ?_
      show Go p e below _ (T_386.setTop (mkF m 156 #[vI p0, vI p1, vI p2, vI p3, vI 2, vR a_365, vI cc, vI 2, vU, vI 5, vU, vU] [(.ref a_365), (.int (p2 &&& (2147483647 : Int32)))]))
      have cp387 := Sx_365
      obtain ⟨t388, kb388, -, -, Ex388, Fv388, Fc388, Av388, hl388, hn388⟩ := cp387
      obtain ⟨v_389, T_389, L_389, X_389, hQ_389, st_389⟩ := goV X_386 hx hZ_365 (y := Y_11) (z := Y_11) (kc := 0) (ks := 0) (QQ := fun v h' L => v = some (.int (6 : Int32)) ∧ L = [] ∧ h' = h_365) hown_365 (wd_9 hw) (wd_10 hw) (notFace_of_selects (args := #[]) (mvT hZ_365 (wd_12 hw))) (wd_12 hw) (wd_11 hw) (by decide) (StrChars.Road.lenW (W := 1) hZ_365 (sw_wordsLen hw) (kI := 4) (wd_2 hw) Ex388 Fv388 Fc388 Av388 (StrChars.Road.codOf rfl (fun c hc => (hl388 c hc).2)) (up255 hl388) (S_cs.ext O_365.2) n_cs hn388 (by decide) (by decide)) e_386 Ex388 (g := (mkF m 156 #[vI p0, vI p1, vI p2, vI p3, vI 2, vR a_365, vI cc, vI 2, vU, vI 5, vU, vU] [(.ref a_365), (.int (p2 &&& (2147483647 : Int32)))])) rfl (by rw [hml]; rfl) (argsL := []) (rest := [(.int (p2 &&& (2147483647 : Int32)))]) rfl (lenOf pd_10 rfl) rfl (by show 2 * 0 + _ ≤ _; exact Nat.le_of_eq rfl) (hb hby at_156) (by decide) (by decide)
      obtain ⟨rfl, rfl, e_389⟩ := hQ_389
      have N_389 := Fr.app N_386 (Fr.nil n0)
      refine Go.step st_389 ?_
      show Go p e below _ (T_389.setTop (mkF m 159 #[vI p0, vI p1, vI p2, vI p3, vI 2, vR a_365, vI cc, vI 2, vU, vI 5, vU, vU] [(.int (6 : Int32)), (.int (p2 &&& (2147483647 : Int32)))]))
      refine Go.step (fun _ k => XS.goto X_389.here hx rfl (pc0 := 159) (pc' := 164) rfl (hb hby at_159) (by decide) (by decide) k) ?_
      show Go p e below _ (T_389.setTop (mkF m 164 #[vI p0, vI p1, vI p2, vI p3, vI 2, vR a_365, vI cc, vI 2, vU, vI 5, vU, vU] [(.int (6 : Int32)), (.int (p2 &&& (2147483647 : Int32)))]))
      refine Go.step (fun _ k => iremM X_389 hx rfl (hb hby at_164) rfl (by decide) k) ?_
      show Go p e below _ (T_389.setTop (mkF m 165 #[vI p0, vI p1, vI p2, vI p3, vI 2, vR a_365, vI cc, vI 2, vU, vI 5, vU, vU] [(.int ((p2 &&& (2147483647 : Int32)) % (6 : Int32)))]))
      refine Go.step (fun _ k => XS.istore X_389.here hx rfl (hb hby at_165) rfl (l' := #[vI p0, vI p1, vI p2, vI p3, vI 2, vR a_365, vI cc, vI 2, vU, vI 5, vI ((p2 &&& (2147483647 : Int32)) % (6 : Int32)), vU]) rfl k) ?_
      show Go p e below _ (T_389.setTop (mkF m 167 #[vI p0, vI p1, vI p2, vI p3, vI 2, vR a_365, vI cc, vI 2, vU, vI 5, vI ((p2 &&& (2147483647 : Int32)) % (6 : Int32)), vU] []))
      obtain ⟨pp, h_pp⟩ : ∃ z, z = ((p2 &&& (2147483647 : Int32)) % (6 : Int32)) := ⟨_, rfl⟩
      rw [← h_pp]
      show Go p e below _ (T_389.setTop (mkF m 167 #[vI p0, vI p1, vI p2, vI p3, vI 2, vR a_365, vI cc, vI 2, vU, vI 5, vI pp, vU] []))
      have h_p : 0 ≤ pp.toInt ∧ pp.toInt < 6 := by rw [h_pp]; exact rem6 _
      show Go p e below _ (T_389.setTop (mkF m 167 #[vI p0, vI p1, vI p2, vI p3, vI 2, vR a_365, vI cc, vI 2, vU, vI 5, vI pp, vU] []))
      refine Go.step (fun _ k => XS.iload X_389.here hx rfl (hb hby at_167) rfl  k) ?_
      show Go p e below _ (T_389.setTop (mkF m 169 #[vI p0, vI p1, vI p2, vI p3, vI 2, vR a_365, vI cc, vI 2, vU, vI 5, vI pp, vU] [(.int (5 : Int32))]))
      obtain ⟨v_390, T_390, L_390, X_390, hQ_390, st_390⟩ := goS X_389 hx hZ_365 (y := Y_12) hown_365 (wd_22 hw) (wd_23 hw) (wd_24 hw) (wd_25 hw) (by decide) (backOf (W := 0) (rm_make5 l Z a0 hw zc vfm va kv ea eb ec ed wa wb wc wd h_365 n0 (Nat.le_trans Z0 KP_365.1) hSt O_365) hZ_365 (wd_25 hw) (wd_24 hw) (by decide) (by decide)) e_389 (g := (mkF m 169 #[vI p0, vI p1, vI p2, vI p3, vI 2, vR a_365, vI cc, vI 2, vU, vI 5, vI pp, vU] [(.int (5 : Int32))])) rfl (by rw [hml]; rfl) (argsL := [(.int (5 : Int32))]) (rest := []) rfl (lenOf pd_11 rfl) rfl (by show 2 * 0 + _ ≤ _; exact Nat.le_of_eq rfl) (hb hby at_169) (by decide) (by decide)
      obtain ⟨r_390, kr_390, rfl, Nq_390, K_390, u0_390, u1_390⟩ := hQ_390
      have N_390 := Fr.app N_389 Nq_390
      have C_390 := CHr.keep K_390 sf0 C_365.1
      have CR_390 := CHr.trans CR_365 C_390
      have le_390 : h_365.size ≤ T_390.heap.size := K_390.1
      have KP_390 := KP_365.trans K_390 all0
      have O_390 := O_365.keep K_390 all0
      have sz_r_390 : h0.size ≤ r_390 := Nat.le_trans le_365 u0_390
      have g_r_390 : n0 ≤ r_390 := Nat.le_trans Z0 sz_r_390
      have Sf_r_390 := Safe.keep K_390 sf0 C_365.1 (Safe.new u0_390)
      refine Go.step st_390 ?_
      show Go p e below _ (T_390.setTop (mkF m 172 #[vI p0, vI p1, vI p2, vI p3, vI 2, vR a_365, vI cc, vI 2, vU, vI 5, vI pp, vU] [(.ref r_390)]))
      refine Go.step (fun _ k => XS.astore X_390.here hx rfl (hb hby at_172) rfl rfl (l' := #[vI p0, vI p1, vI p2, vI p3, vI 2, vR a_365, vI cc, vI 2, vU, vI 5, vI pp, vR r_390]) rfl k) ?_
      show Go p e below _ (T_390.setTop (mkF m 174 #[vI p0, vI p1, vI p2, vI p3, vI 2, vR a_365, vI cc, vI 2, vU, vI 5, vI pp, vR r_390] []))
      have f391 : Str Z h_365.size T_390.heap a_365 ([(118 : Int32), (111 : Int32), (105 : Int32), (100 : Int32), (101 : Int32), (100 : Int32)] : List Int32) := (Sx_365.keep K_390 all0)
      refine sg_puts l Z a0 hw zc vfm va kv ea eb ec ed wa wb wc wd (p0) (p1) (p2) (p3) ((2 : Int32)) ((5 : Int32)) (r_390) (kr_390) ((5 : Int32)) (([(0 : Int32), (0 : Int32), (0 : Int32), (0 : Int32), (0 : Int32)] : List Int32)) (a_365) (([(118 : Int32), (111 : Int32), (105 : Int32), (100 : Int32), (101 : Int32), (100 : Int32)] : List Int32)) ((2 : Int32)) (pp) (cc) (h_365.size) T_390.heap n0 (Nat.le_trans Z0 KP_390.1) u1_390 g_r_390 f391 (Nat.le_trans (Nat.le_refl _) u0_390) rfl (by decide) (by decide) (fun i1 a b => by have a2 : 0 ≤ i1.toInt := Int.not_lt.mp (fun q => a (Int32.lt_iff_toInt_lt.mpr q)); have b2 : i1.toInt < 5 := Int32.lt_iff_toInt_lt.mp b; have hp := h_p; exact ⟨by decide, a2, hp.1, by show _ ≤ ((6 : Nat) : Int); omega, fun q => absurd q (by decide), fun _ => by show _ < ((6 : Nat) : Int); omega, fun _ _ c => absurd rfl c⟩) l_c hSt O_390 hx hby hml hZ_365 hown_365 X_390 rfl N_390 (by decide) (by decide) ?_
      intro T_392 L_392 vs2_392 X_392 hQ_392
      obtain ⟨N_392, K_392, u0_392, u1_392⟩ := hQ_392
      have C_392 := CHr.keep K_392 (sfS (Safe.arv hZ_365.alike u1_390 (by decide)) sf0) C_390.1
      have CR_392 := CHr.trans CR_390 C_392
      have le_392 : T_390.heap.size ≤ T_392.heap.size := K_392.1
      have KP_392 := KP_390.trans K_392 (allS (Or.inr sz_r_390) all0)
      have O_392 := O_390.keep K_392 (allS g_r_390 all0)
      have hv2_392 := u1_392
      show Go p e below _ (T_392.setTop (mkF m 303 #[vI p0, vI p1, vI p2, vI p3, vI 2, vR a_365, vI cc, vI 2, vU, vI 5, vI pp, vR r_390] []))
      have hL_392 : vs2_392.length = 5 := hv2_392.1
      show Go p e below _ (T_392.setTop (mkF m 303 #[vI p0, vI p1, vI p2, vI p3, vI 2, vR a_365, vI cc, vI 2, vU, vI 5, vI pp, vR r_390] []))
      obtain ⟨T_393, h_393, X_393, e_393, E_393, A_393, D_393, Un_393, st_393⟩ := newO X_392 hx hZ_365 hown_365 (wd_55 hw) (wd_2 hw) (wd_1 hw) rfl (g := (mkF m 303 #[vI p0, vI p1, vI p2, vI p3, vI 2, vR a_365, vI cc, vI 2, vU, vI 5, vI pp, vR r_390] [])) rfl (hb hby at_303) (by decide) (by decide)
      obtain ⟨b393, q_393⟩ : ∃ z, z = T_392.heap.size := ⟨_, rfl⟩
      rw [← q_393] at A_393 D_393 Un_393 st_393
      refine Go.step st_393 ?_
      have C_393 := CHr.ext E_393 C_392.1
      have CR_393 := CHr.trans CR_392 C_393
      have le_393 : T_392.heap.size ≤ h_393.size := E_393.1
      have KP_393 := KP_392.ext E_393
      have O_393 := O_392.ext E_393
      have ge_393 : T_392.heap.size ≤ b393 := Nat.le_of_eq q_393.symm
      have sz_b393 : h0.size ≤ b393 := Nat.le_trans (Nat.le_trans le_365 (Nat.le_trans le_390 le_392)) ge_393
      have g_b393 : n0 ≤ b393 := Nat.le_trans Z0 sz_b393
      have F_393_4 : Fld Z h_393 b393 "java/lang/String" "value" "[B" .null := D_393 (Or.inr (wd_4 hw)) (ty := (.array .byte)) pf_0
      have F_393_5 : Fld Z h_393 b393 "java/lang/String" "coder" "B" (.int (0 : Int32)) := D_393 (Or.inr (wd_5 hw)) (ty := .byte) pf_1
      have Sf_b393 := Safe.ext E_393 C_392.1 (Safe.new ge_393)
      show Go p e below _ (T_393.setTop (mkF m 306 #[vI p0, vI p1, vI p2, vI p3, vI 2, vR a_365, vI cc, vI 2, vU, vI 5, vI pp, vR r_390] [(.ref b393)]))
      refine Go.step (fun _ k => XS.dup X_393.here hx rfl (hb hby at_306) rfl rfl k) ?_
      refine Go.step (fun _ k => XS.aload X_393.here hx rfl (hb hby at_307) rfl rfl k) ?_
      show Go p e below _ (T_393.setTop (mkF m 309 #[vI p0, vI p1, vI p2, vI p3, vI 2, vR a_365, vI cc, vI 2, vU, vI 5, vI pp, vR r_390] [(.ref r_390), (.ref b393), (.ref b393)]))
      have f394 : Arv Z h_393 r_390 kr_390 .char (5 : Int32) (vs2_392.map Value.int) (.int (0 : Int32)) := (u0_392.ext E_393)
      obtain ⟨v_395, T_395, L_395, X_395, hQ_395, st_395⟩ := goC X_393 hx hZ_365 (y := Y_13) hown_365 rfl (wd_56 hw) (wd_57 hw) (wd_58 hw) (by decide) (StrChars.Road.backV (W := 1) hZ_365 (sw_words hw) (kI := 4) (wd_2 hw) (cs := vs2_392) (bs := vs2_392.map (fun c => c.toInt8.toInt32)) (n := 5) g_b393 (Nat.le_trans Z0 KP_393.1) A_393 F_393_4 F_393_5 f394 (S_cs.ext O_393.2) n_cs hL_392 rfl (by decide) (by decide) hv2_392.2 rfl (by decide) (by decide)) e_393 (g := (mkF m 309 #[vI p0, vI p1, vI p2, vI p3, vI 2, vR a_365, vI cc, vI 2, vU, vI 5, vI pp, vR r_390] [(.ref r_390), (.ref b393), (.ref b393)])) rfl (by rw [hml]; rfl) (a := b393) (argsL := [(.ref r_390)]) (rest := [(.ref b393)]) rfl (lenOf pd_12 rfl) rfl (by show 2 * 0 + _ ≤ _; exact Nat.le_of_eq rfl) (hb hby at_309) (by decide) (by decide)
      obtain ⟨rfl, Nq_395, K_395, Ex_395, Fc_395, t_395, kb_395, -, gt_395, -, Fv_395, Av_395⟩ := hQ_395
      have N_395 := Fr.app N_392 Nq_395
      have C_395 := CHr.keep K_395 (sfS Sf_b393 sf0) C_393.1
      have CR_395 := CHr.trans CR_393 C_395
      have le_395 : h_393.size ≤ T_395.heap.size := K_395.1
      have KP_395 := KP_393.trans K_395 (allS (Or.inr sz_b393) all0)
      have O_395 := O_393.keep K_395 (allS g_b393 all0)
      have Sx_395 : Str Z (T_395.heap).size (T_395.heap) b393 vs2_392 := ⟨t_395, kb_395, Ex_395.lt, Av_395.lt, Ex_395, Fv_395, Fc_395, by rw [show vs2_392.length = 5 from hL_392]; exact Av_395, hv2_392.2, by rw [show vs2_392.length = 5 from hL_392]; decide⟩
      refine Go.step st_395 ?_
      show Go p e below _ (T_395.setTop (mkF m 312 #[vI p0, vI p1, vI p2, vI p3, vI 2, vR a_365, vI cc, vI 2, vU, vI 5, vI pp, vR r_390] [(.ref b393)]))
      refine Go.step (fun _ k => XS.astore X_395.here hx rfl (hb hby at_312) rfl rfl (l' := #[vI p0, vI p1, vI p2, vI p3, vI 2, vR a_365, vI cc, vI 2, vR b393, vI 5, vI pp, vR r_390]) rfl k) ?_
      show Go p e below _ (T_395.setTop (mkF m 314 #[vI p0, vI p1, vI p2, vI p3, vI 2, vR a_365, vI cc, vI 2, vR b393, vI 5, vI pp, vR r_390] []))
      exact tg_tailS l Z a0 hw zc vfm va kv ea eb ec ed wa wb wc wd ((vI p0)) ((vI p1)) ((vI p2)) ((vI p3)) ((vI 2)) ((vR a_365)) ((vI cc)) ((vI 2)) ((vI 5)) ((vI pp)) ((vR r_390)) (b393) (vs2_392) T_395.heap n0 (Nat.le_trans Z0 KP_395.1) Sx_395 hSt O_395 hx hby hml hret hlk hZ_365 hown_365 X_395 rfl N_395 hS_365 (Nat.le_trans hk_365 (Nat.le_trans le_390 (Nat.le_trans le_392 (Nat.le_trans le_393 le_395)))) C_395.1 CR_395 hh0 (by decide) (by decide)
    · skip
      show Go p e below _ (T_365.setTop (mkF m 58 #[vI p0, vI p1, vI p2, vI p3, vI 2, vR a_365, vI cc, vI 3, vU, vU, vU, vU] []))
      refine Go.step (fun _ k => XS.iload X_365.here hx rfl (hb hby at_58) rfl  k) ?_
      refine Go.step (fun _ k => XS.iconst X_365.here hx rfl (hb hby at_60) k) ?_
      show Go p e below _ (T_365.setTop (mkF m 61 #[vI p0, vI p1, vI p2, vI p3, vI 2, vR a_365, vI cc, vI 3, vU, vU, vU, vU] [(.int (4 : Int32)), (.int (3 : Int32))]))
      refine Go.step (fun _ k => XS.icmpYes X_365.here hx rfl (pc0 := 61) (pc' := 74) rfl (hb hby at_61) rfl (feq ((by decide) : ¬ ((3 : Int32) = (4 : Int32)))).2 (by decide) (by decide) k) ?_
      show Go p e below _ (T_365.setTop (mkF m 74 #[vI p0, vI p1, vI p2, vI p3, vI 2, vR a_365, vI cc, vI 3, vU, vU, vU, vU] []))
      refine Go.step (fun _ k => XS.iload X_365.here hx rfl (hb hby at_74) rfl  k) ?_
      refine Go.step (fun _ k => XS.iconst X_365.here hx rfl (hb hby at_76) k) ?_
      show Go p e below _ (T_365.setTop (mkF m 77 #[vI p0, vI p1, vI p2, vI p3, vI 2, vR a_365, vI cc, vI 3, vU, vU, vU, vU] [(.int (5 : Int32)), (.int (3 : Int32))]))
      refine Go.step (fun _ k => XS.icmpYes X_365.here hx rfl (pc0 := 77) (pc' := 105) rfl (hb hby at_77) rfl (feq ((by decide) : ¬ ((3 : Int32) = (5 : Int32)))).2 (by decide) (by decide) k) ?_
      show Go p e below _ (T_365.setTop (mkF m 105 #[vI p0, vI p1, vI p2, vI p3, vI 2, vR a_365, vI cc, vI 3, vU, vU, vU, vU] []))
      refine Go.step (fun _ k => XS.iload X_365.here hx rfl (hb hby at_105) rfl  k) ?_
      refine Go.step (fun _ k => XS.iconst X_365.here hx rfl (hb hby at_107) k) ?_
      show Go p e below _ (T_365.setTop (mkF m 108 #[vI p0, vI p1, vI p2, vI p3, vI 2, vR a_365, vI cc, vI 3, vU, vU, vU, vU] [(.int (2 : Int32)), (.int (3 : Int32))]))
      refine Go.step (fun _ k => XS.icmpYes X_365.here hx rfl (pc0 := 108) (pc' := 121) rfl (hb hby at_108) rfl (feq ((by decide) : ¬ ((3 : Int32) = (2 : Int32)))).2 (by decide) (by decide) k) ?_
      show Go p e below _ (T_365.setTop (mkF m 121 #[vI p0, vI p1, vI p2, vI p3, vI 2, vR a_365, vI cc, vI 3, vU, vU, vU, vU] []))
      refine Go.step (fun _ k => XS.iload X_365.here hx rfl (hb hby at_121) rfl  k) ?_
      refine Go.step (fun _ k => XS.iconst X_365.here hx rfl (hb hby at_123) k) ?_
      show Go p e below _ (T_365.setTop (mkF m 124 #[vI p0, vI p1, vI p2, vI p3, vI 2, vR a_365, vI cc, vI 3, vU, vU, vU, vU] [(.int (3 : Int32)), (.int (3 : Int32))]))
      refine Go.step (fun _ k => XS.icmpNo X_365.here hx rfl (hb hby at_124) rfl (teq ((by decide) : (3 : Int32) = (3 : Int32))).2 k) ?_
      show Go p e below _ (T_365.setTop (mkF m 127 #[vI p0, vI p1, vI p2, vI p3, vI 2, vR a_365, vI cc, vI 3, vU, vU, vU, vU] []))
      refine Go.step (fun _ k => XS.aload X_365.here hx rfl (hb hby at_127) rfl rfl k) ?_
      show Go p e below _ (T_365.setTop (mkF m 129 #[vI p0, vI p1, vI p2, vI p3, vI 2, vR a_365, vI cc, vI 3, vU, vU, vU, vU] [(.ref a_365)]))
      have cp396 := Sx_365
      obtain ⟨t397, kb397, -, -, Ex397, Fv397, Fc397, Av397, hl397, hn397⟩ := cp396
      obtain ⟨v_398, T_398, L_398, X_398, hQ_398, st_398⟩ := goV X_365 hx hZ_365 (y := Y_11) (z := Y_11) (kc := 0) (ks := 0) (QQ := fun v h' L => v = some (.int (6 : Int32)) ∧ L = [] ∧ h' = h_365) hown_365 (wd_9 hw) (wd_10 hw) (notFace_of_selects (args := #[]) (mvT hZ_365 (wd_12 hw))) (wd_12 hw) (wd_11 hw) (by decide) (StrChars.Road.lenW (W := 0) hZ_365 (sw_wordsLen hw) (kI := 4) (wd_2 hw) Ex397 Fv397 Fc397 Av397 (StrChars.Road.codOf rfl (fun c hc => (hl397 c hc).2)) (up255 hl397) (S_cs.ext O_365.2) n_cs hn397 (by decide) (by decide)) e_365 Ex397 (g := (mkF m 129 #[vI p0, vI p1, vI p2, vI p3, vI 2, vR a_365, vI cc, vI 3, vU, vU, vU, vU] [(.ref a_365)])) rfl (by rw [hml]; rfl) (argsL := []) (rest := []) rfl (lenOf pd_10 rfl) rfl (by show 2 * 0 + _ ≤ _; exact Nat.le_of_eq rfl) (hb hby at_129) (by decide) (by decide)
      obtain ⟨rfl, rfl, e_398⟩ := hQ_398
      have N_398 := Fr.app N0 (Fr.nil n0)
      refine Go.step st_398 ?_
      show Go p e below _ (T_398.setTop (mkF m 132 #[vI p0, vI p1, vI p2, vI p3, vI 2, vR a_365, vI cc, vI 3, vU, vU, vU, vU] [(.int (6 : Int32))]))
      refine Go.step (fun _ k => XS.iconst X_398.here hx rfl (hb hby at_132) k) ?_
      show Go p e below _ (T_398.setTop (mkF m 133 #[vI p0, vI p1, vI p2, vI p3, vI 2, vR a_365, vI cc, vI 3, vU, vU, vU, vU] [(.int (1 : Int32)), (.int (6 : Int32))]))
      refine Go.step (fun _ k => XS.iadd X_398.here hx rfl (hb hby at_133) rfl k) ?_
      show Go p e below _ (T_398.setTop (mkF m 134 #[vI p0, vI p1, vI p2, vI p3, vI 2, vR a_365, vI cc, vI 3, vU, vU, vU, vU] [(.int ((6 : Int32) + (1 : Int32)))]))
      refine own_top (congrArg Value.int (show ((6 : Int32) + (1 : Int32)) = (7 : Int32) from by decide)) ?_
      show Go p e below _ (T_398.setTop (mkF m 134 #[vI p0, vI p1, vI p2, vI p3, vI 2, vR a_365, vI cc, vI 3, vU, vU, vU, vU] [(.int (7 : Int32))]))
      refine Go.step (fun _ k => XS.goto X_398.here hx rfl (pc0 := 134) (pc' := 142) rfl (hb hby at_134) (by decide) (by decide) k) ?_
      show Go p e below _ (T_398.setTop (mkF m 142 #[vI p0, vI p1, vI p2, vI p3, vI 2, vR a_365, vI cc, vI 3, vU, vU, vU, vU] [(.int (7 : Int32))]))
      refine Go.step (fun _ k => XS.istore X_398.here hx rfl (hb hby at_142) rfl (l' := #[vI p0, vI p1, vI p2, vI p3, vI 2, vR a_365, vI cc, vI 3, vU, vI 7, vU, vU]) rfl k) ?_
      show Go p e below _ (T_398.setTop (mkF m 144 #[vI p0, vI p1, vI p2, vI p3, vI 2, vR a_365, vI cc, vI 3, vU, vI 7, vU, vU] []))
      refine Go.step (fun _ k => XS.iloadN X_398.here hx rfl (hb hby at_144) rfl  k) ?_
      show Go p e below _ (T_398.setTop (mkF m 145 #[vI p0, vI p1, vI p2, vI p3, vI 2, vR a_365, vI cc, vI 3, vU, vI 7, vU, vU] [(.int p2)]))
      refine Go.step (fun _ k => X_398.ldcInt hx hown_365 (mvT hZ_365 (wd_8 hw)) (g := (mkF m 145 #[vI p0, vI p1, vI p2, vI p3, vI 2, vR a_365, vI cc, vI 3, vU, vI 7, vU, vU] [(.int p2)])) rfl (hb hby at_145) _ k) ?_
      show Go p e below _ (T_398.setTop (mkF m 147 #[vI p0, vI p1, vI p2, vI p3, vI 2, vR a_365, vI cc, vI 3, vU, vI 7, vU, vU] [(.int (2147483647 : Int32)), (.int p2)]))
      refine Go.step (fun _ k => XS.iand X_398.here hx rfl (hb hby at_147) rfl k) ?_
      show Go p e below _ (T_398.setTop (mkF m 148 #[vI p0, vI p1, vI p2, vI p3, vI 2, vR a_365, vI cc, vI 3, vU, vI 7, vU, vU] [(.int (p2 &&& (2147483647 : Int32)))]))
      refine Go.step (fun _ k => XS.iload X_398.here hx rfl (hb hby at_148) rfl  k) ?_
      refine Go.step (fun _ k => XS.iconst X_398.here hx rfl (hb hby at_150) k) ?_
      show Go p e below _ (T_398.setTop (mkF m 151 #[vI p0, vI p1, vI p2, vI p3, vI 2, vR a_365, vI cc, vI 3, vU, vI 7, vU, vU] [(.int (2 : Int32)), (.int (3 : Int32)), (.int (p2 &&& (2147483647 : Int32)))]))
      refine Go.step (fun _ k => XS.icmpYes X_398.here hx rfl (pc0 := 151) (pc' := 162) rfl (hb hby at_151) rfl (feq ((by decide) : ¬ ((3 : Int32) = (2 : Int32)))).2 (by decide) (by decide) k) ?_
      show Go p e below _ (T_398.setTop (mkF m 162 #[vI p0, vI p1, vI p2, vI p3, vI 2, vR a_365, vI cc, vI 3, vU, vI 7, vU, vU] [(.int (p2 &&& (2147483647 : Int32)))]))
      refine Go.step (fun _ k => XS.iload X_398.here hx rfl (hb hby at_162) rfl  k) ?_
      show Go p e below _ (T_398.setTop (mkF m 164 #[vI p0, vI p1, vI p2, vI p3, vI 2, vR a_365, vI cc, vI 3, vU, vI 7, vU, vU] [(.int (7 : Int32)), (.int (p2 &&& (2147483647 : Int32)))]))
      refine Go.step (fun _ k => iremM X_398 hx rfl (hb hby at_164) rfl (by decide) k) ?_
      show Go p e below _ (T_398.setTop (mkF m 165 #[vI p0, vI p1, vI p2, vI p3, vI 2, vR a_365, vI cc, vI 3, vU, vI 7, vU, vU] [(.int ((p2 &&& (2147483647 : Int32)) % (7 : Int32)))]))
      refine Go.step (fun _ k => XS.istore X_398.here hx rfl (hb hby at_165) rfl (l' := #[vI p0, vI p1, vI p2, vI p3, vI 2, vR a_365, vI cc, vI 3, vU, vI 7, vI ((p2 &&& (2147483647 : Int32)) % (7 : Int32)), vU]) rfl k) ?_
      show Go p e below _ (T_398.setTop (mkF m 167 #[vI p0, vI p1, vI p2, vI p3, vI 2, vR a_365, vI cc, vI 3, vU, vI 7, vI ((p2 &&& (2147483647 : Int32)) % (7 : Int32)), vU] []))
      obtain ⟨pp, h_pp⟩ : ∃ z, z = ((p2 &&& (2147483647 : Int32)) % (7 : Int32)) := ⟨_, rfl⟩
      rw [← h_pp]
      show Go p e below _ (T_398.setTop (mkF m 167 #[vI p0, vI p1, vI p2, vI p3, vI 2, vR a_365, vI cc, vI 3, vU, vI 7, vI pp, vU] []))
      have h_p : 0 ≤ pp.toInt ∧ pp.toInt < 7 := by rw [h_pp]; exact rem7 _
      show Go p e below _ (T_398.setTop (mkF m 167 #[vI p0, vI p1, vI p2, vI p3, vI 2, vR a_365, vI cc, vI 3, vU, vI 7, vI pp, vU] []))
      refine Go.step (fun _ k => XS.iload X_398.here hx rfl (hb hby at_167) rfl  k) ?_
      show Go p e below _ (T_398.setTop (mkF m 169 #[vI p0, vI p1, vI p2, vI p3, vI 2, vR a_365, vI cc, vI 3, vU, vI 7, vI pp, vU] [(.int (7 : Int32))]))
      obtain ⟨v_399, T_399, L_399, X_399, hQ_399, st_399⟩ := goS X_398 hx hZ_365 (y := Y_12) hown_365 (wd_22 hw) (wd_23 hw) (wd_24 hw) (wd_25 hw) (by decide) (backOf (W := 0) (rm_make7 l Z a0 hw zc vfm va kv ea eb ec ed wa wb wc wd h_365 n0 (Nat.le_trans Z0 KP_365.1) hSt O_365) hZ_365 (wd_25 hw) (wd_24 hw) (by decide) (by decide)) e_398 (g := (mkF m 169 #[vI p0, vI p1, vI p2, vI p3, vI 2, vR a_365, vI cc, vI 3, vU, vI 7, vI pp, vU] [(.int (7 : Int32))])) rfl (by rw [hml]; rfl) (argsL := [(.int (7 : Int32))]) (rest := []) rfl (lenOf pd_11 rfl) rfl (by show 2 * 0 + _ ≤ _; exact Nat.le_of_eq rfl) (hb hby at_169) (by decide) (by decide)
      obtain ⟨r_399, kr_399, rfl, Nq_399, K_399, u0_399, u1_399⟩ := hQ_399
      have N_399 := Fr.app N_398 Nq_399
      have C_399 := CHr.keep K_399 sf0 C_365.1
      have CR_399 := CHr.trans CR_365 C_399
      have le_399 : h_365.size ≤ T_399.heap.size := K_399.1
      have KP_399 := KP_365.trans K_399 all0
      have O_399 := O_365.keep K_399 all0
      have sz_r_399 : h0.size ≤ r_399 := Nat.le_trans le_365 u0_399
      have g_r_399 : n0 ≤ r_399 := Nat.le_trans Z0 sz_r_399
      have Sf_r_399 := Safe.keep K_399 sf0 C_365.1 (Safe.new u0_399)
      refine Go.step st_399 ?_
      show Go p e below _ (T_399.setTop (mkF m 172 #[vI p0, vI p1, vI p2, vI p3, vI 2, vR a_365, vI cc, vI 3, vU, vI 7, vI pp, vU] [(.ref r_399)]))
      refine Go.step (fun _ k => XS.astore X_399.here hx rfl (hb hby at_172) rfl rfl (l' := #[vI p0, vI p1, vI p2, vI p3, vI 2, vR a_365, vI cc, vI 3, vU, vI 7, vI pp, vR r_399]) rfl k) ?_
      show Go p e below _ (T_399.setTop (mkF m 174 #[vI p0, vI p1, vI p2, vI p3, vI 2, vR a_365, vI cc, vI 3, vU, vI 7, vI pp, vR r_399] []))
      have f400 : Str Z h_365.size T_399.heap a_365 ([(118 : Int32), (111 : Int32), (105 : Int32), (100 : Int32), (101 : Int32), (100 : Int32)] : List Int32) := (Sx_365.keep K_399 all0)
      refine sg_puts l Z a0 hw zc vfm va kv ea eb ec ed wa wb wc wd (p0) (p1) (p2) (p3) ((2 : Int32)) ((7 : Int32)) (r_399) (kr_399) ((7 : Int32)) (([(0 : Int32), (0 : Int32), (0 : Int32), (0 : Int32), (0 : Int32), (0 : Int32), (0 : Int32)] : List Int32)) (a_365) (([(118 : Int32), (111 : Int32), (105 : Int32), (100 : Int32), (101 : Int32), (100 : Int32)] : List Int32)) ((3 : Int32)) (pp) (cc) (h_365.size) T_399.heap n0 (Nat.le_trans Z0 KP_399.1) u1_399 g_r_399 f400 (Nat.le_trans (Nat.le_refl _) u0_399) rfl (by decide) (by decide) (fun i1 a b => by have a2 : 0 ≤ i1.toInt := Int.not_lt.mp (fun q => a (Int32.lt_iff_toInt_lt.mpr q)); have b2 : i1.toInt < 7 := Int32.lt_iff_toInt_lt.mp b; have hp := h_p; exact ⟨by decide, a2, hp.1, by show _ ≤ ((6 : Nat) : Int); omega, fun q => absurd q (by decide), fun q => absurd q (by decide), fun _ _ _ => by show _ ≤ ((6 : Nat) : Int); omega⟩) l_c hSt O_399 hx hby hml hZ_365 hown_365 X_399 rfl N_399 (by decide) (by decide) ?_
      intro T_401 L_401 vs2_401 X_401 hQ_401
      obtain ⟨N_401, K_401, u0_401, u1_401⟩ := hQ_401
      have C_401 := CHr.keep K_401 (sfS (Safe.arv hZ_365.alike u1_399 (by decide)) sf0) C_399.1
      have CR_401 := CHr.trans CR_399 C_401
      have le_401 : T_399.heap.size ≤ T_401.heap.size := K_401.1
      have KP_401 := KP_399.trans K_401 (allS (Or.inr sz_r_399) all0)
      have O_401 := O_399.keep K_401 (allS g_r_399 all0)
      have hv2_401 := u1_401
      show Go p e below _ (T_401.setTop (mkF m 303 #[vI p0, vI p1, vI p2, vI p3, vI 2, vR a_365, vI cc, vI 3, vU, vI 7, vI pp, vR r_399] []))
      have hL_401 : vs2_401.length = 7 := hv2_401.1
      show Go p e below _ (T_401.setTop (mkF m 303 #[vI p0, vI p1, vI p2, vI p3, vI 2, vR a_365, vI cc, vI 3, vU, vI 7, vI pp, vR r_399] []))
      obtain ⟨T_402, h_402, X_402, e_402, E_402, A_402, D_402, Un_402, st_402⟩ := newO X_401 hx hZ_365 hown_365 (wd_55 hw) (wd_2 hw) (wd_1 hw) rfl (g := (mkF m 303 #[vI p0, vI p1, vI p2, vI p3, vI 2, vR a_365, vI cc, vI 3, vU, vI 7, vI pp, vR r_399] [])) rfl (hb hby at_303) (by decide) (by decide)
      obtain ⟨b402, q_402⟩ : ∃ z, z = T_401.heap.size := ⟨_, rfl⟩
      rw [← q_402] at A_402 D_402 Un_402 st_402
      refine Go.step st_402 ?_
      have C_402 := CHr.ext E_402 C_401.1
      have CR_402 := CHr.trans CR_401 C_402
      have le_402 : T_401.heap.size ≤ h_402.size := E_402.1
      have KP_402 := KP_401.ext E_402
      have O_402 := O_401.ext E_402
      have ge_402 : T_401.heap.size ≤ b402 := Nat.le_of_eq q_402.symm
      have sz_b402 : h0.size ≤ b402 := Nat.le_trans (Nat.le_trans le_365 (Nat.le_trans le_399 le_401)) ge_402
      have g_b402 : n0 ≤ b402 := Nat.le_trans Z0 sz_b402
      have F_402_4 : Fld Z h_402 b402 "java/lang/String" "value" "[B" .null := D_402 (Or.inr (wd_4 hw)) (ty := (.array .byte)) pf_0
      have F_402_5 : Fld Z h_402 b402 "java/lang/String" "coder" "B" (.int (0 : Int32)) := D_402 (Or.inr (wd_5 hw)) (ty := .byte) pf_1
      have Sf_b402 := Safe.ext E_402 C_401.1 (Safe.new ge_402)
      show Go p e below _ (T_402.setTop (mkF m 306 #[vI p0, vI p1, vI p2, vI p3, vI 2, vR a_365, vI cc, vI 3, vU, vI 7, vI pp, vR r_399] [(.ref b402)]))
      refine Go.step (fun _ k => XS.dup X_402.here hx rfl (hb hby at_306) rfl rfl k) ?_
      refine Go.step (fun _ k => XS.aload X_402.here hx rfl (hb hby at_307) rfl rfl k) ?_
      show Go p e below _ (T_402.setTop (mkF m 309 #[vI p0, vI p1, vI p2, vI p3, vI 2, vR a_365, vI cc, vI 3, vU, vI 7, vI pp, vR r_399] [(.ref r_399), (.ref b402), (.ref b402)]))
      have f403 : Arv Z h_402 r_399 kr_399 .char (7 : Int32) (vs2_401.map Value.int) (.int (0 : Int32)) := (u0_401.ext E_402)
      obtain ⟨v_404, T_404, L_404, X_404, hQ_404, st_404⟩ := goC X_402 hx hZ_365 (y := Y_13) hown_365 rfl (wd_56 hw) (wd_57 hw) (wd_58 hw) (by decide) (StrChars.Road.backV (W := 1) hZ_365 (sw_words hw) (kI := 4) (wd_2 hw) (cs := vs2_401) (bs := vs2_401.map (fun c => c.toInt8.toInt32)) (n := 7) g_b402 (Nat.le_trans Z0 KP_402.1) A_402 F_402_4 F_402_5 f403 (S_cs.ext O_402.2) n_cs hL_401 rfl (by decide) (by decide) hv2_401.2 rfl (by decide) (by decide)) e_402 (g := (mkF m 309 #[vI p0, vI p1, vI p2, vI p3, vI 2, vR a_365, vI cc, vI 3, vU, vI 7, vI pp, vR r_399] [(.ref r_399), (.ref b402), (.ref b402)])) rfl (by rw [hml]; rfl) (a := b402) (argsL := [(.ref r_399)]) (rest := [(.ref b402)]) rfl (lenOf pd_12 rfl) rfl (by show 2 * 0 + _ ≤ _; exact Nat.le_of_eq rfl) (hb hby at_309) (by decide) (by decide)
      obtain ⟨rfl, Nq_404, K_404, Ex_404, Fc_404, t_404, kb_404, -, gt_404, -, Fv_404, Av_404⟩ := hQ_404
      have N_404 := Fr.app N_401 Nq_404
      have C_404 := CHr.keep K_404 (sfS Sf_b402 sf0) C_402.1
      have CR_404 := CHr.trans CR_402 C_404
      have le_404 : h_402.size ≤ T_404.heap.size := K_404.1
      have KP_404 := KP_402.trans K_404 (allS (Or.inr sz_b402) all0)
      have O_404 := O_402.keep K_404 (allS g_b402 all0)
      have Sx_404 : Str Z (T_404.heap).size (T_404.heap) b402 vs2_401 := ⟨t_404, kb_404, Ex_404.lt, Av_404.lt, Ex_404, Fv_404, Fc_404, by rw [show vs2_401.length = 7 from hL_401]; exact Av_404, hv2_401.2, by rw [show vs2_401.length = 7 from hL_401]; decide⟩
      refine Go.step st_404 ?_
      show Go p e below _ (T_404.setTop (mkF m 312 #[vI p0, vI p1, vI p2, vI p3, vI 2, vR a_365, vI cc, vI 3, vU, vI 7, vI pp, vR r_399] [(.ref b402)]))
      refine Go.step (fun _ k => XS.astore X_404.here hx rfl (hb hby at_312) rfl rfl (l' := #[vI p0, vI p1, vI p2, vI p3, vI 2, vR a_365, vI cc, vI 3, vR b402, vI 7, vI pp, vR r_399]) rfl k) ?_
      show Go p e below _ (T_404.setTop (mkF m 314 #[vI p0, vI p1, vI p2, vI p3, vI 2, vR a_365, vI cc, vI 3, vR b402, vI 7, vI pp, vR r_399] []))
      exact tg_tailS l Z a0 hw zc vfm va kv ea eb ec ed wa wb wc wd ((vI p0)) ((vI p1)) ((vI p2)) ((vI p3)) ((vI 2)) ((vR a_365)) ((vI cc)) ((vI 3)) ((vI 7)) ((vI pp)) ((vR r_399)) (b402) (vs2_401) T_404.heap n0 (Nat.le_trans Z0 KP_404.1) Sx_404 hSt O_404 hx hby hml hret hlk hZ_365 hown_365 X_404 rfl N_404 hS_365 (Nat.le_trans hk_365 (Nat.le_trans le_399 (Nat.le_trans le_401 (Nat.le_trans le_402 le_404)))) C_404.1 CR_404 hh0 (by decide) (by decide)
    · skip
      show Go p e below _ (T_365.setTop (mkF m 58 #[vI p0, vI p1, vI p2, vI p3, vI 2, vR a_365, vI cc, vI 4, vU, vU, vU, vU] []))
      refine Go.step (fun _ k => XS.iload X_365.here hx rfl (hb hby at_58) rfl  k) ?_
      refine Go.step (fun _ k => XS.iconst X_365.here hx rfl (hb hby at_60) k) ?_
      show Go p e below _ (T_365.setTop (mkF m 61 #[vI p0, vI p1, vI p2, vI p3, vI 2, vR a_365, vI cc, vI 4, vU, vU, vU, vU] [(.int (4 : Int32)), (.int (4 : Int32))]))
      refine Go.step (fun _ k => XS.icmpNo X_365.here hx rfl (hb hby at_61) rfl (teq ((by decide) : (4 : Int32) = (4 : Int32))).2 k) ?_
      show Go p e below _ (T_365.setTop (mkF m 64 #[vI p0, vI p1, vI p2, vI p3, vI 2, vR a_365, vI cc, vI 4, vU, vU, vU, vU] []))
      refine Go.step (fun _ k => XS.iload X_365.here hx rfl (hb hby at_64) rfl  k) ?_
      show Go p e below _ (T_365.setTop (mkF m 66 #[vI p0, vI p1, vI p2, vI p3, vI 2, vR a_365, vI cc, vI 4, vU, vU, vU, vU] [(.int cc)]))
      obtain ⟨v_405, T_405, L_405, X_405, hQ_405, st_405⟩ := goS X_365 hx hZ_365 (y := Y_14) hown_365 (wd_117 hw) (wd_118 hw) (wd_1 hw) (wd_119 hw) (by decide) (backOf (W := 0) (rm_valueOf l Z a0 hw zc vfm va kv ea eb ec ed wa wb wc wd (cc) h_365 n0 (Nat.le_trans Z0 KP_365.1) l_c hSt O_365) hZ_365 (wd_119 hw) (wd_1 hw) (by decide) (by decide)) e_365 (g := (mkF m 66 #[vI p0, vI p1, vI p2, vI p3, vI 2, vR a_365, vI cc, vI 4, vU, vU, vU, vU] [(.int cc)])) rfl (by rw [hml]; rfl) (argsL := [(.int cc)]) (rest := []) rfl (lenOf pd_13 rfl) rfl (by show 2 * 0 + _ ≤ _; exact Nat.le_of_eq rfl) (hb hby at_66) (by decide) (by decide)
      obtain ⟨r_405, rfl, Nq_405, K_405, u0_405, u1_405⟩ := hQ_405
      have N_405 := Fr.app N0 Nq_405
      have C_405 := CHr.keep K_405 sf0 C_365.1
      have CR_405 := CHr.trans CR_365 C_405
      have le_405 : h_365.size ≤ T_405.heap.size := K_405.1
      have KP_405 := KP_365.trans K_405 all0
      have O_405 := O_365.keep K_405 all0
      have sz_r_405 : h0.size ≤ r_405 := Nat.le_trans le_365 u0_405
      have g_r_405 : n0 ≤ r_405 := Nat.le_trans Z0 sz_r_405
      have Sf_r_405 := Safe.keep K_405 sf0 C_365.1 (Safe.new u0_405)
      refine Go.step st_405 ?_
      show Go p e below _ (T_405.setTop (mkF m 69 #[vI p0, vI p1, vI p2, vI p3, vI 2, vR a_365, vI cc, vI 4, vU, vU, vU, vU] [(.ref r_405)]))
      refine Go.step (fun _ k => XS.astore X_405.here hx rfl (hb hby at_69) rfl rfl (l' := #[vI p0, vI p1, vI p2, vI p3, vI 2, vR a_365, vI cc, vI 4, vR r_405, vU, vU, vU]) rfl k) ?_
      show Go p e below _ (T_405.setTop (mkF m 71 #[vI p0, vI p1, vI p2, vI p3, vI 2, vR a_365, vI cc, vI 4, vR r_405, vU, vU, vU] []))
      refine Go.step (fun _ k => XS.goto X_405.here hx rfl (pc0 := 71) (pc' := 314) rfl (hb hby at_71) (by decide) (by decide) k) ?_
      show Go p e below _ (T_405.setTop (mkF m 314 #[vI p0, vI p1, vI p2, vI p3, vI 2, vR a_365, vI cc, vI 4, vR r_405, vU, vU, vU] []))
      exact tg_tailS l Z a0 hw zc vfm va kv ea eb ec ed wa wb wc wd ((vI p0)) ((vI p1)) ((vI p2)) ((vI p3)) ((vI 2)) ((vR a_365)) ((vI cc)) ((vI 4)) ((vU)) ((vU)) ((vU)) (r_405) (([cc] : List Int32)) T_405.heap n0 (Nat.le_trans Z0 KP_405.1) u1_405 hSt O_405 hx hby hml hret hlk hZ_365 hown_365 X_405 rfl N_405 hS_365 (Nat.le_trans hk_365 le_405) C_405.1 CR_405 hh0 (by decide) (by decide)
    · skip
      show Go p e below _ (T_365.setTop (mkF m 58 #[vI p0, vI p1, vI p2, vI p3, vI 2, vR a_365, vI cc, vI 5, vU, vU, vU, vU] []))
      refine Go.step (fun _ k => XS.iload X_365.here hx rfl (hb hby at_58) rfl  k) ?_
      refine Go.step (fun _ k => XS.iconst X_365.here hx rfl (hb hby at_60) k) ?_
      show Go p e below _ (T_365.setTop (mkF m 61 #[vI p0, vI p1, vI p2, vI p3, vI 2, vR a_365, vI cc, vI 5, vU, vU, vU, vU] [(.int (4 : Int32)), (.int (5 : Int32))]))
      refine Go.step (fun _ k => XS.icmpYes X_365.here hx rfl (pc0 := 61) (pc' := 74) rfl (hb hby at_61) rfl (feq ((by decide) : ¬ ((5 : Int32) = (4 : Int32)))).2 (by decide) (by decide) k) ?_
      show Go p e below _ (T_365.setTop (mkF m 74 #[vI p0, vI p1, vI p2, vI p3, vI 2, vR a_365, vI cc, vI 5, vU, vU, vU, vU] []))
      refine Go.step (fun _ k => XS.iload X_365.here hx rfl (hb hby at_74) rfl  k) ?_
      refine Go.step (fun _ k => XS.iconst X_365.here hx rfl (hb hby at_76) k) ?_
      show Go p e below _ (T_365.setTop (mkF m 77 #[vI p0, vI p1, vI p2, vI p3, vI 2, vR a_365, vI cc, vI 5, vU, vU, vU, vU] [(.int (5 : Int32)), (.int (5 : Int32))]))
      refine Go.step (fun _ k => XS.icmpNo X_365.here hx rfl (hb hby at_77) rfl (teq ((by decide) : (5 : Int32) = (5 : Int32))).2 k) ?_
      show Go p e below _ (T_365.setTop (mkF m 80 #[vI p0, vI p1, vI p2, vI p3, vI 2, vR a_365, vI cc, vI 5, vU, vU, vU, vU] []))
      refine Go.step (fun _ k => XS.iloadN X_365.here hx rfl (hb hby at_80) rfl  k) ?_
      refine Go.step (fun _ k => XS.iconst X_365.here hx rfl (hb hby at_81) k) ?_
      show Go p e below _ (T_365.setTop (mkF m 82 #[vI p0, vI p1, vI p2, vI p3, vI 2, vR a_365, vI cc, vI 5, vU, vU, vU, vU] [(.int (1 : Int32)), (.int p2)]))
      refine Go.step (fun _ k => XS.iand X_365.here hx rfl (hb hby at_82) rfl k) ?_
      show Go p e below _ (T_365.setTop (mkF m 83 #[vI p0, vI p1, vI p2, vI p3, vI 2, vR a_365, vI cc, vI 5, vU, vU, vU, vU] [(.int (p2 &&& (1 : Int32)))]))
      by_cases hp0 : (p2 &&& (1 : Int32)) = (0 : Int32)
      · skip
        refine Go.step (fun _ k => XS.ifNo X_365.here hx rfl (hb hby at_83) rfl ((if0 _ _).trans (teq hp0).2) k) ?_
        show Go p e below _ (T_365.setTop (mkF m 86 #[vI p0, vI p1, vI p2, vI p3, vI 2, vR a_365, vI cc, vI 5, vU, vU, vU, vU] []))
        refine Go.step (fun _ k => XS.aconstNull X_365.here hx rfl (hb hby at_86) k) ?_
        show Go p e below _ (T_365.setTop (mkF m 87 #[vI p0, vI p1, vI p2, vI p3, vI 2, vR a_365, vI cc, vI 5, vU, vU, vU, vU] [.null]))
        refine Go.step (fun _ k => XS.goto X_365.here hx rfl (pc0 := 87) (pc' := 100) rfl (hb hby at_87) (by decide) (by decide) k) ?_
        show Go p e below _ (T_365.setTop (mkF m 100 #[vI p0, vI p1, vI p2, vI p3, vI 2, vR a_365, vI cc, vI 5, vU, vU, vU, vU] [.null]))
        refine Go.step (fun _ k => XS.astore X_365.here hx rfl (hb hby at_100) rfl rfl (l' := #[vI p0, vI p1, vI p2, vI p3, vI 2, vR a_365, vI cc, vI 5, .val .null, vU, vU, vU]) rfl k) ?_
        show Go p e below _ (T_365.setTop (mkF m 102 #[vI p0, vI p1, vI p2, vI p3, vI 2, vR a_365, vI cc, vI 5, .val .null, vU, vU, vU] []))
        refine Go.step (fun _ k => XS.goto X_365.here hx rfl (pc0 := 102) (pc' := 314) rfl (hb hby at_102) (by decide) (by decide) k) ?_
        show Go p e below _ (T_365.setTop (mkF m 314 #[vI p0, vI p1, vI p2, vI p3, vI 2, vR a_365, vI cc, vI 5, .val .null, vU, vU, vU] []))
        exact tg_tailN l Z a0 hw zc vfm va kv ea eb ec ed wa wb wc wd ((vI p0)) ((vI p1)) ((vI p2)) ((vI p3)) ((vI 2)) ((vR a_365)) ((vI cc)) ((vI 5)) ((vU)) ((vU)) ((vU)) h_365 n0 (Nat.le_trans Z0 KP_365.1) hSt O_365 hx hby hml hret hlk hZ_365 hown_365 X_365 e_365 N0 hS_365 hk_365 C_365.1 CR_365 hh0 (by decide) (by decide)
      · skip
        refine Go.step (fun _ k => XS.ifYes X_365.here hx rfl (pc0 := 83) (pc' := 90) rfl (hb hby at_83) rfl ((if0 _ _).trans (feq hp0).2) (by decide) (by decide) k) ?_
        show Go p e below _ (T_365.setTop (mkF m 90 #[vI p0, vI p1, vI p2, vI p3, vI 2, vR a_365, vI cc, vI 5, vU, vU, vU, vU] []))
        obtain ⟨T_406, h_406, X_406, e_406, E_406, A_406, D_406, Un_406, st_406⟩ := newO X_365 hx hZ_365 hown_365 (wd_55 hw) (wd_2 hw) (wd_1 hw) e_365 (g := (mkF m 90 #[vI p0, vI p1, vI p2, vI p3, vI 2, vR a_365, vI cc, vI 5, vU, vU, vU, vU] [])) rfl (hb hby at_90) (by decide) (by decide)
        obtain ⟨b406, q_406⟩ : ∃ z, z = h_365.size := ⟨_, rfl⟩
        rw [← q_406] at A_406 D_406 Un_406 st_406
        refine Go.step st_406 ?_
        have C_406 := CHr.ext E_406 C_365.1
        have CR_406 := CHr.trans CR_365 C_406
        have le_406 : h_365.size ≤ h_406.size := E_406.1
        have KP_406 := KP_365.ext E_406
        have O_406 := O_365.ext E_406
        have ge_406 : h_365.size ≤ b406 := Nat.le_of_eq q_406.symm
        have sz_b406 : h0.size ≤ b406 := Nat.le_trans le_365 ge_406
        have g_b406 : n0 ≤ b406 := Nat.le_trans Z0 sz_b406
        have F_406_4 : Fld Z h_406 b406 "java/lang/String" "value" "[B" .null := D_406 (Or.inr (wd_4 hw)) (ty := (.array .byte)) pf_0
        have F_406_5 : Fld Z h_406 b406 "java/lang/String" "coder" "B" (.int (0 : Int32)) := D_406 (Or.inr (wd_5 hw)) (ty := .byte) pf_1
        have Sf_b406 := Safe.ext E_406 C_365.1 (Safe.new ge_406)
        show Go p e below _ (T_406.setTop (mkF m 93 #[vI p0, vI p1, vI p2, vI p3, vI 2, vR a_365, vI cc, vI 5, vU, vU, vU, vU] [(.ref b406)]))
        refine Go.step (fun _ k => XS.dup X_406.here hx rfl (hb hby at_93) rfl rfl k) ?_
        refine Go.step (fun _ k => XS.iconst X_406.here hx rfl (hb hby at_94) k) ?_
        show Go p e below _ (T_406.setTop (mkF m 95 #[vI p0, vI p1, vI p2, vI p3, vI 2, vR a_365, vI cc, vI 5, vU, vU, vU, vU] [(.int (0 : Int32)), (.ref b406), (.ref b406)]))
        obtain ⟨T_407, h_407, k_407, X_407, e_407, E_407, A_407, st_407⟩ := newP X_406 hx hZ_365 (aty := .char) (wd_26 hw) e_406 (g := (mkF m 95 #[vI p0, vI p1, vI p2, vI p3, vI 2, vR a_365, vI cc, vI 5, vU, vU, vU, vU] [(.int (0 : Int32)), (.ref b406), (.ref b406)])) rfl (hb hby at_95) rfl (by decide) (cap := 0) (by decide) (by decide) (by decide) (by decide)
        obtain ⟨b407, q_407⟩ : ∃ z, z = h_406.size := ⟨_, rfl⟩
        rw [← q_407] at A_407 st_407
        refine Go.step st_407 ?_
        have C_407 := CHr.ext E_407 C_406.1
        have CR_407 := CHr.trans CR_406 C_407
        have le_407 : h_406.size ≤ h_407.size := E_407.1
        have KP_407 := KP_406.ext E_407
        have O_407 := O_406.ext E_407
        have ge_407 : h_406.size ≤ b407 := Nat.le_of_eq q_407.symm
        have sz_b407 : h0.size ≤ b407 := Nat.le_trans (Nat.le_trans le_365 le_406) ge_407
        have g_b407 : n0 ≤ b407 := Nat.le_trans Z0 sz_b407
        have V_407 : Arv Z h_407 b407 k_407 .char (0 : Int32) [] (.int (0 : Int32)) := Arv.new A_407 (by decide)
        have Sf_b407 := Safe.ext E_407 C_406.1 (Safe.new ge_407)
        show Go p e below _ (T_407.setTop (mkF m 97 #[vI p0, vI p1, vI p2, vI p3, vI 2, vR a_365, vI cc, vI 5, vU, vU, vU, vU] [(.ref b407), (.ref b406), (.ref b406)]))
        have f408 : Exa Z h_407 b406 "java/lang/String" := (A_406.ext E_407)
        have f409 : Fld Z h_407 b406 "java/lang/String" "value" "[B" .null := (F_406_4.ext E_407)
        have f410 : Fld Z h_407 b406 "java/lang/String" "coder" "B" (.int (0 : Int32)) := (F_406_5.ext E_407)
        obtain ⟨v_411, T_411, L_411, X_411, hQ_411, hS_411, hZ_411, hown_411, C_411, st_411⟩ := goCW X_407 hx hZ_365 (y := Y_13) hown_365 hS_365 (Nat.le_trans hk_365 (Nat.le_trans le_406 le_407)) rfl (wd_56 hw) (wd_57 hw) (wd_58 hw) (by decide) (backOfSH (W := 1) (rm_init1e l Z a0 hw zc vfm va kv ea eb ec ed wa wb wc wd (b406) (b407) (k_407) h_407 n0 (Nat.le_trans Z0 KP_407.1) f408 f409 f410 g_b406 V_407 hSt O_407) hZ_365 (wd_58 hw) (wd_1 hw) (by decide) (by decide) hEL C_407.1) e_407 (g := (mkF m 97 #[vI p0, vI p1, vI p2, vI p3, vI 2, vR a_365, vI cc, vI 5, vU, vU, vU, vU] [(.ref b407), (.ref b406), (.ref b406)])) rfl (by rw [hml]; rfl) (a := b406) (argsL := [(.ref b407)]) (rest := [(.ref b406)]) rfl (lenOf pd_12 rfl) rfl (by show 2 * 0 + _ ≤ _; exact Nat.le_of_eq rfl) (hb hby at_97) (by decide) (by decide)
        obtain ⟨rfl, Nq_411, K_411, u0_411⟩ := hQ_411
        have N_411 := Fr.app N0 Nq_411
        have CR_411 := CHr.trans CR_407 C_411
        have le_411 : h_407.size ≤ T_411.heap.size := K_411.1
        have KP_411 := KP_407.trans K_411 (allS (Or.inr sz_b406) all0)
        have O_411 := O_407.keep K_411 (allS g_b406 all0)
        refine Go.step st_411 ?_
        show Go p e below _ (T_411.setTop (mkF m 100 #[vI p0, vI p1, vI p2, vI p3, vI 2, vR a_365, vI cc, vI 5, vU, vU, vU, vU] [(.ref b406)]))
        refine Go.step (fun _ k => XS.astore X_411.here hx rfl (hb hby at_100) rfl rfl (l' := #[vI p0, vI p1, vI p2, vI p3, vI 2, vR a_365, vI cc, vI 5, vR b406, vU, vU, vU]) rfl k) ?_
        show Go p e below _ (T_411.setTop (mkF m 102 #[vI p0, vI p1, vI p2, vI p3, vI 2, vR a_365, vI cc, vI 5, vR b406, vU, vU, vU] []))
        refine Go.step (fun _ k => XS.goto X_411.here hx rfl (pc0 := 102) (pc' := 314) rfl (hb hby at_102) (by decide) (by decide) k) ?_
        show Go p e below _ (T_411.setTop (mkF m 314 #[vI p0, vI p1, vI p2, vI p3, vI 2, vR a_365, vI cc, vI 5, vR b406, vU, vU, vU] []))
        exact tg_tailS l Z a0 hw zc vfm va kv ea eb ec ed wa wb wc wd ((vI p0)) ((vI p1)) ((vI p2)) ((vI p3)) ((vI 2)) ((vR a_365)) ((vI cc)) ((vI 5)) ((vU)) ((vU)) ((vU)) (b406) (([] : List Int32)) T_411.heap n0 (Nat.le_trans Z0 KP_411.1) u0_411 hSt O_411 hx hby hml hret hlk hZ_411 hown_411 X_411 rfl N_411 hS_411 (Nat.le_refl _) C_411.1 CR_411 hh0 (by decide) (by decide)
  · skip
    show Go p e below _ (s₁.setTop (mkF m 5 #[vI p0, vI p1, vI p2, vI p3, vI 3, vU, vU, vU, vU, vU, vU, vU] []))
    refine Go.step (fun _ k => XS.iload X0.here hx rfl (hb hby at_5) rfl  k) ?_
    show Go p e below _ (s₁.setTop (mkF m 7 #[vI p0, vI p1, vI p2, vI p3, vI 3, vU, vU, vU, vU, vU, vU, vU] [(.int (3 : Int32))]))
    refine Go.step (fun _ k => XS.ifYes X0.here hx rfl (pc0 := 7) (pc' := 15) rfl (hb hby at_7) rfl ((if0 _ _).trans (feq ((by decide) : ¬ ((3 : Int32) = (0 : Int32)))).2) (by decide) (by decide) k) ?_
    show Go p e below _ (s₁.setTop (mkF m 15 #[vI p0, vI p1, vI p2, vI p3, vI 3, vU, vU, vU, vU, vU, vU, vU] []))
    refine Go.step (fun _ k => XS.iload X0.here hx rfl (hb hby at_15) rfl  k) ?_
    refine Go.step (fun _ k => XS.iconst X0.here hx rfl (hb hby at_17) k) ?_
    show Go p e below _ (s₁.setTop (mkF m 18 #[vI p0, vI p1, vI p2, vI p3, vI 3, vU, vU, vU, vU, vU, vU, vU] [(.int (1 : Int32)), (.int (3 : Int32))]))
    refine Go.step (fun _ k => XS.icmpYes X0.here hx rfl (pc0 := 18) (pc' := 26) rfl (hb hby at_18) rfl (feq ((by decide) : ¬ ((3 : Int32) = (1 : Int32)))).2 (by decide) (by decide) k) ?_
    show Go p e below _ (s₁.setTop (mkF m 26 #[vI p0, vI p1, vI p2, vI p3, vI 3, vU, vU, vU, vU, vU, vU, vU] []))
    refine Go.step (fun _ k => XS.iload X0.here hx rfl (hb hby at_26) rfl  k) ?_
    refine Go.step (fun _ k => XS.iconst X0.here hx rfl (hb hby at_28) k) ?_
    show Go p e below _ (s₁.setTop (mkF m 29 #[vI p0, vI p1, vI p2, vI p3, vI 3, vU, vU, vU, vU, vU, vU, vU] [(.int (2 : Int32)), (.int (3 : Int32))]))
    refine Go.step (fun _ k => XS.icmpYes X0.here hx rfl (pc0 := 29) (pc' := 37) rfl (hb hby at_29) rfl (feq ((by decide) : ¬ ((3 : Int32) = (2 : Int32)))).2 (by decide) (by decide) k) ?_
    show Go p e below _ (s₁.setTop (mkF m 37 #[vI p0, vI p1, vI p2, vI p3, vI 3, vU, vU, vU, vU, vU, vU, vU] []))
    obtain ⟨a_412, T_412, h_412, k1_412, t_412, kb_412, X_412, e_412, E_412, hS_412, hk_412, hZ_412, hown_412, Ex_412, Fc_412, Fv_412, Av_412, lta_412, ltb_412, C_412, Lt_412, -, st_412⟩ := ldcCH X0 hx hZ hown (wd_116 hw) hwS e0 hS0 hk0 hEL (by decide) CV0 (vs := [(.int (101 : Int32)), (.int (120 : Int32)), (.int (112 : Int32)), (.int (105 : Int32)), (.int (114 : Int32)), (.int (101 : Int32)), (.int (100 : Int32))]) (z := (7 : Int32)) ⟨by decide, by decide⟩ (by decide) (by decide) (g := (mkF m 37 #[vI p0, vI p1, vI p2, vI p3, vI 3, vU, vU, vU, vU, vU, vU, vU] [])) rfl (hb hby at_37) (n := 28) (by decide) (by decide) (by decide) (by decide)
    refine Go.step st_412 ?_
    have CR_412 := CHr.trans (CHr.refl CV0) C_412
    have le_412 : h0.size ≤ h_412.size := E_412.1
    have KP_412 := KP0.ext E_412
    have O_412 := hO.ext E_412
    have Sx_412 : Str Z h_412.size h_412 a_412 ([(101 : Int32), (120 : Int32), (112 : Int32), (105 : Int32), (114 : Int32), (101 : Int32), (100 : Int32)] : List Int32) := ⟨t_412, kb_412, lta_412, ltb_412, Ex_412, Fv_412, Fc_412, Av_412, by decide, by decide⟩
    show Go p e below _ (T_412.setTop (mkF m 39 #[vI p0, vI p1, vI p2, vI p3, vI 3, vU, vU, vU, vU, vU, vU, vU] [(.ref a_412)]))
    refine Go.step (fun _ k => XS.astore X_412.here hx rfl (hb hby at_39) rfl rfl (l' := #[vI p0, vI p1, vI p2, vI p3, vI 3, vR a_412, vU, vU, vU, vU, vU, vU]) rfl k) ?_
    show Go p e below _ (T_412.setTop (mkF m 41 #[vI p0, vI p1, vI p2, vI p3, vI 3, vR a_412, vU, vU, vU, vU, vU, vU] []))
    refine Go.step (fun _ k => XS.iloadN X_412.here hx rfl (hb hby at_41) rfl  k) ?_
    refine Go.step (fun _ k => XS.sipush X_412.here hx rfl (hb hby at_42) k) ?_
    show Go p e below _ (T_412.setTop (mkF m 45 #[vI p0, vI p1, vI p2, vI p3, vI 3, vR a_412, vU, vU, vU, vU, vU, vU] [(.int (255 : Int32)), (.int p3)]))
    refine Go.step (fun _ k => XS.iand X_412.here hx rfl (hb hby at_45) rfl k) ?_
    show Go p e below _ (T_412.setTop (mkF m 46 #[vI p0, vI p1, vI p2, vI p3, vI 3, vR a_412, vU, vU, vU, vU, vU, vU] [(.int (p3 &&& (255 : Int32)))]))
    refine Go.step (fun _ k => XS.i2c X_412.here hx rfl (hb hby at_46) rfl k) ?_
    show Go p e below _ (T_412.setTop (mkF m 47 #[vI p0, vI p1, vI p2, vI p3, vI 3, vR a_412, vU, vU, vU, vU, vU, vU] [(.int (nar .char (p3 &&& (255 : Int32))))]))
    refine own_top (congrArg Value.int (show (nar .char (p3 &&& (255 : Int32))) = (p3 &&& (255 : Int32)) from nar255 _)) ?_
    show Go p e below _ (T_412.setTop (mkF m 47 #[vI p0, vI p1, vI p2, vI p3, vI 3, vR a_412, vU, vU, vU, vU, vU, vU] [(.int (p3 &&& (255 : Int32)))]))
    refine Go.step (fun _ k => XS.istore X_412.here hx rfl (hb hby at_47) rfl (l' := #[vI p0, vI p1, vI p2, vI p3, vI 3, vR a_412, vI (p3 &&& (255 : Int32)), vU, vU, vU, vU, vU]) rfl k) ?_
    show Go p e below _ (T_412.setTop (mkF m 49 #[vI p0, vI p1, vI p2, vI p3, vI 3, vR a_412, vI (p3 &&& (255 : Int32)), vU, vU, vU, vU, vU] []))
    obtain ⟨cc, h_cc⟩ : ∃ z, z = (p3 &&& (255 : Int32)) := ⟨_, rfl⟩
    rw [← h_cc]
    show Go p e below _ (T_412.setTop (mkF m 49 #[vI p0, vI p1, vI p2, vI p3, vI 3, vR a_412, vI cc, vU, vU, vU, vU, vU] []))
    have l_c : ¬ cc < 0 ∧ ¬ (255 : Int32) < cc := by rw [h_cc]; exact lat255 _
    show Go p e below _ (T_412.setTop (mkF m 49 #[vI p0, vI p1, vI p2, vI p3, vI 3, vR a_412, vI cc, vU, vU, vU, vU, vU] []))
    refine Go.step (fun _ k => XS.iloadN X_412.here hx rfl (hb hby at_49) rfl  k) ?_
    show Go p e below _ (T_412.setTop (mkF m 50 #[vI p0, vI p1, vI p2, vI p3, vI 3, vR a_412, vI cc, vU, vU, vU, vU, vU] [(.int p1)]))
    refine Go.step (fun _ k => X_412.ldcInt hx hown_412 (mvT hZ_412 (wd_8 hw)) (g := (mkF m 50 #[vI p0, vI p1, vI p2, vI p3, vI 3, vR a_412, vI cc, vU, vU, vU, vU, vU] [(.int p1)])) rfl (hb hby at_50) _ k) ?_
    show Go p e below _ (T_412.setTop (mkF m 52 #[vI p0, vI p1, vI p2, vI p3, vI 3, vR a_412, vI cc, vU, vU, vU, vU, vU] [(.int (2147483647 : Int32)), (.int p1)]))
    refine Go.step (fun _ k => XS.iand X_412.here hx rfl (hb hby at_52) rfl k) ?_
    show Go p e below _ (T_412.setTop (mkF m 53 #[vI p0, vI p1, vI p2, vI p3, vI 3, vR a_412, vI cc, vU, vU, vU, vU, vU] [(.int (p1 &&& (2147483647 : Int32)))]))
    refine Go.step (fun _ k => XS.bipush X_412.here hx rfl (hb hby at_53) k) ?_
    show Go p e below _ (T_412.setTop (mkF m 55 #[vI p0, vI p1, vI p2, vI p3, vI 3, vR a_412, vI cc, vU, vU, vU, vU, vU] [(.int (6 : Int32)), (.int (p1 &&& (2147483647 : Int32)))]))
    refine Go.step (fun _ k => iremM X_412 hx rfl (hb hby at_55) rfl (by decide) k) ?_
    show Go p e below _ (T_412.setTop (mkF m 56 #[vI p0, vI p1, vI p2, vI p3, vI 3, vR a_412, vI cc, vU, vU, vU, vU, vU] [(.int ((p1 &&& (2147483647 : Int32)) % (6 : Int32)))]))
    refine Go.step (fun _ k => XS.istore X_412.here hx rfl (hb hby at_56) rfl (l' := #[vI p0, vI p1, vI p2, vI p3, vI 3, vR a_412, vI cc, vI ((p1 &&& (2147483647 : Int32)) % (6 : Int32)), vU, vU, vU, vU]) rfl k) ?_
    show Go p e below _ (T_412.setTop (mkF m 58 #[vI p0, vI p1, vI p2, vI p3, vI 3, vR a_412, vI cc, vI ((p1 &&& (2147483647 : Int32)) % (6 : Int32)), vU, vU, vU, vU] []))
    obtain ⟨mm, h_mm⟩ : ∃ z, z = ((p1 &&& (2147483647 : Int32)) % (6 : Int32)) := ⟨_, rfl⟩
    rw [← h_mm]
    show Go p e below _ (T_412.setTop (mkF m 58 #[vI p0, vI p1, vI p2, vI p3, vI 3, vR a_412, vI cc, vI mm, vU, vU, vU, vU] []))
    have h_m6 := range6 (by rw [h_mm]; exact rem6 _ : 0 ≤ mm.toInt ∧ mm.toInt < 6)
    clear h_mm
    show Go p e below _ (T_412.setTop (mkF m 58 #[vI p0, vI p1, vI p2, vI p3, vI 3, vR a_412, vI cc, vI mm, vU, vU, vU, vU] []))
    rcases h_m6 with rfl | rfl | rfl | rfl | rfl | rfl
    · skip
      show Go p e below _ (T_412.setTop (mkF m 58 #[vI p0, vI p1, vI p2, vI p3, vI 3, vR a_412, vI cc, vI 0, vU, vU, vU, vU] []))
      refine Go.step (fun _ k => XS.iload X_412.here hx rfl (hb hby at_58) rfl  k) ?_
      refine Go.step (fun _ k => XS.iconst X_412.here hx rfl (hb hby at_60) k) ?_
      show Go p e below _ (T_412.setTop (mkF m 61 #[vI p0, vI p1, vI p2, vI p3, vI 3, vR a_412, vI cc, vI 0, vU, vU, vU, vU] [(.int (4 : Int32)), (.int (0 : Int32))]))
      refine Go.step (fun _ k => XS.icmpYes X_412.here hx rfl (pc0 := 61) (pc' := 74) rfl (hb hby at_61) rfl (feq ((by decide) : ¬ ((0 : Int32) = (4 : Int32)))).2 (by decide) (by decide) k) ?_
      show Go p e below _ (T_412.setTop (mkF m 74 #[vI p0, vI p1, vI p2, vI p3, vI 3, vR a_412, vI cc, vI 0, vU, vU, vU, vU] []))
      refine Go.step (fun _ k => XS.iload X_412.here hx rfl (hb hby at_74) rfl  k) ?_
      refine Go.step (fun _ k => XS.iconst X_412.here hx rfl (hb hby at_76) k) ?_
      show Go p e below _ (T_412.setTop (mkF m 77 #[vI p0, vI p1, vI p2, vI p3, vI 3, vR a_412, vI cc, vI 0, vU, vU, vU, vU] [(.int (5 : Int32)), (.int (0 : Int32))]))
      refine Go.step (fun _ k => XS.icmpYes X_412.here hx rfl (pc0 := 77) (pc' := 105) rfl (hb hby at_77) rfl (feq ((by decide) : ¬ ((0 : Int32) = (5 : Int32)))).2 (by decide) (by decide) k) ?_
      show Go p e below _ (T_412.setTop (mkF m 105 #[vI p0, vI p1, vI p2, vI p3, vI 3, vR a_412, vI cc, vI 0, vU, vU, vU, vU] []))
      refine Go.step (fun _ k => XS.iload X_412.here hx rfl (hb hby at_105) rfl  k) ?_
      refine Go.step (fun _ k => XS.iconst X_412.here hx rfl (hb hby at_107) k) ?_
      show Go p e below _ (T_412.setTop (mkF m 108 #[vI p0, vI p1, vI p2, vI p3, vI 3, vR a_412, vI cc, vI 0, vU, vU, vU, vU] [(.int (2 : Int32)), (.int (0 : Int32))]))
      refine Go.step (fun _ k => XS.icmpYes X_412.here hx rfl (pc0 := 108) (pc' := 121) rfl (hb hby at_108) rfl (feq ((by decide) : ¬ ((0 : Int32) = (2 : Int32)))).2 (by decide) (by decide) k) ?_
      show Go p e below _ (T_412.setTop (mkF m 121 #[vI p0, vI p1, vI p2, vI p3, vI 3, vR a_412, vI cc, vI 0, vU, vU, vU, vU] []))
      refine Go.step (fun _ k => XS.iload X_412.here hx rfl (hb hby at_121) rfl  k) ?_
      refine Go.step (fun _ k => XS.iconst X_412.here hx rfl (hb hby at_123) k) ?_
      show Go p e below _ (T_412.setTop (mkF m 124 #[vI p0, vI p1, vI p2, vI p3, vI 3, vR a_412, vI cc, vI 0, vU, vU, vU, vU] [(.int (3 : Int32)), (.int (0 : Int32))]))
      refine Go.step (fun _ k => XS.icmpYes X_412.here hx rfl (pc0 := 124) (pc' := 137) rfl (hb hby at_124) rfl (feq ((by decide) : ¬ ((0 : Int32) = (3 : Int32)))).2 (by decide) (by decide) k) ?_
      show Go p e below _ (T_412.setTop (mkF m 137 #[vI p0, vI p1, vI p2, vI p3, vI 3, vR a_412, vI cc, vI 0, vU, vU, vU, vU] []))
      refine Go.step (fun _ k => XS.aload X_412.here hx rfl (hb hby at_137) rfl rfl k) ?_
      show Go p e below _ (T_412.setTop (mkF m 139 #[vI p0, vI p1, vI p2, vI p3, vI 3, vR a_412, vI cc, vI 0, vU, vU, vU, vU] [(.ref a_412)]))
      have cp413 := Sx_412
      obtain ⟨t414, kb414, -, -, Ex414, Fv414, Fc414, Av414, hl414, hn414⟩ := cp413
      obtain ⟨v_415, T_415, L_415, X_415, hQ_415, st_415⟩ := goV X_412 hx hZ_412 (y := Y_11) (z := Y_11) (kc := 0) (ks := 0) (QQ := fun v h' L => v = some (.int (7 : Int32)) ∧ L = [] ∧ h' = h_412) hown_412 (wd_9 hw) (wd_10 hw) (notFace_of_selects (args := #[]) (mvT hZ_412 (wd_12 hw))) (wd_12 hw) (wd_11 hw) (by decide) (StrChars.Road.lenW (W := 0) hZ_412 (sw_wordsLen hw) (kI := 4) (wd_2 hw) Ex414 Fv414 Fc414 Av414 (StrChars.Road.codOf rfl (fun c hc => (hl414 c hc).2)) (up255 hl414) (S_cs.ext O_412.2) n_cs hn414 (by decide) (by decide)) e_412 Ex414 (g := (mkF m 139 #[vI p0, vI p1, vI p2, vI p3, vI 3, vR a_412, vI cc, vI 0, vU, vU, vU, vU] [(.ref a_412)])) rfl (by rw [hml]; rfl) (argsL := []) (rest := []) rfl (lenOf pd_10 rfl) rfl (by show 2 * 0 + _ ≤ _; exact Nat.le_of_eq rfl) (hb hby at_139) (by decide) (by decide)
      obtain ⟨rfl, rfl, e_415⟩ := hQ_415
      have N_415 := Fr.app N0 (Fr.nil n0)
      refine Go.step st_415 ?_
      show Go p e below _ (T_415.setTop (mkF m 142 #[vI p0, vI p1, vI p2, vI p3, vI 3, vR a_412, vI cc, vI 0, vU, vU, vU, vU] [(.int (7 : Int32))]))
      refine Go.step (fun _ k => XS.istore X_415.here hx rfl (hb hby at_142) rfl (l' := #[vI p0, vI p1, vI p2, vI p3, vI 3, vR a_412, vI cc, vI 0, vU, vI 7, vU, vU]) rfl k) ?_
      show Go p e below _ (T_415.setTop (mkF m 144 #[vI p0, vI p1, vI p2, vI p3, vI 3, vR a_412, vI cc, vI 0, vU, vI 7, vU, vU] []))
      refine Go.step (fun _ k => XS.iloadN X_415.here hx rfl (hb hby at_144) rfl  k) ?_
      show Go p e below _ (T_415.setTop (mkF m 145 #[vI p0, vI p1, vI p2, vI p3, vI 3, vR a_412, vI cc, vI 0, vU, vI 7, vU, vU] [(.int p2)]))
      refine Go.step (fun _ k => X_415.ldcInt hx hown_412 (mvT hZ_412 (wd_8 hw)) (g := (mkF m 145 #[vI p0, vI p1, vI p2, vI p3, vI 3, vR a_412, vI cc, vI 0, vU, vI 7, vU, vU] [(.int p2)])) rfl (hb hby at_145) _ k) ?_
      show Go p e below _ (T_415.setTop (mkF m 147 #[vI p0, vI p1, vI p2, vI p3, vI 3, vR a_412, vI cc, vI 0, vU, vI 7, vU, vU] [(.int (2147483647 : Int32)), (.int p2)]))
      refine Go.step (fun _ k => XS.iand X_415.here hx rfl (hb hby at_147) rfl k) ?_
      show Go p e below _ (T_415.setTop (mkF m 148 #[vI p0, vI p1, vI p2, vI p3, vI 3, vR a_412, vI cc, vI 0, vU, vI 7, vU, vU] [(.int (p2 &&& (2147483647 : Int32)))]))
      refine Go.step (fun _ k => XS.iload X_415.here hx rfl (hb hby at_148) rfl  k) ?_
      refine Go.step (fun _ k => XS.iconst X_415.here hx rfl (hb hby at_150) k) ?_
      show Go p e below _ (T_415.setTop (mkF m 151 #[vI p0, vI p1, vI p2, vI p3, vI 3, vR a_412, vI cc, vI 0, vU, vI 7, vU, vU] [(.int (2 : Int32)), (.int (0 : Int32)), (.int (p2 &&& (2147483647 : Int32)))]))
      refine Go.step (fun _ k => XS.icmpYes X_415.here hx rfl (pc0 := 151) (pc' := 162) rfl (hb hby at_151) rfl (feq ((by decide) : ¬ ((0 : Int32) = (2 : Int32)))).2 (by decide) (by decide) k) ?_
      show Go p e below _ (T_415.setTop (mkF m 162 #[vI p0, vI p1, vI p2, vI p3, vI 3, vR a_412, vI cc, vI 0, vU, vI 7, vU, vU] [(.int (p2 &&& (2147483647 : Int32)))]))
      refine Go.step (fun _ k => XS.iload X_415.here hx rfl (hb hby at_162) rfl  k) ?_
      show Go p e below _ (T_415.setTop (mkF m 164 #[vI p0, vI p1, vI p2, vI p3, vI 3, vR a_412, vI cc, vI 0, vU, vI 7, vU, vU] [(.int (7 : Int32)), (.int (p2 &&& (2147483647 : Int32)))]))
      refine Go.step (fun _ k => iremM X_415 hx rfl (hb hby at_164) rfl (by decide) k) ?_
      show Go p e below _ (T_415.setTop (mkF m 165 #[vI p0, vI p1, vI p2, vI p3, vI 3, vR a_412, vI cc, vI 0, vU, vI 7, vU, vU] [(.int ((p2 &&& (2147483647 : Int32)) % (7 : Int32)))]))
      refine Go.step (fun _ k => XS.istore X_415.here hx rfl (hb hby at_165) rfl (l' := #[vI p0, vI p1, vI p2, vI p3, vI 3, vR a_412, vI cc, vI 0, vU, vI 7, vI ((p2 &&& (2147483647 : Int32)) % (7 : Int32)), vU]) rfl k) ?_
      show Go p e below _ (T_415.setTop (mkF m 167 #[vI p0, vI p1, vI p2, vI p3, vI 3, vR a_412, vI cc, vI 0, vU, vI 7, vI ((p2 &&& (2147483647 : Int32)) % (7 : Int32)), vU] []))
      obtain ⟨pp, h_pp⟩ : ∃ z, z = ((p2 &&& (2147483647 : Int32)) % (7 : Int32)) := ⟨_, rfl⟩
      rw [← h_pp]
      show Go p e below _ (T_415.setTop (mkF m 167 #[vI p0, vI p1, vI p2, vI p3, vI 3, vR a_412, vI cc, vI 0, vU, vI 7, vI pp, vU] []))
      have h_p : 0 ≤ pp.toInt ∧ pp.toInt < 7 := by rw [h_pp]; exact rem7 _
      show Go p e below _ (T_415.setTop (mkF m 167 #[vI p0, vI p1, vI p2, vI p3, vI 3, vR a_412, vI cc, vI 0, vU, vI 7, vI pp, vU] []))
      refine Go.step (fun _ k => XS.iload X_415.here hx rfl (hb hby at_167) rfl  k) ?_
      show Go p e below _ (T_415.setTop (mkF m 169 #[vI p0, vI p1, vI p2, vI p3, vI 3, vR a_412, vI cc, vI 0, vU, vI 7, vI pp, vU] [(.int (7 : Int32))]))
      obtain ⟨v_416, T_416, L_416, X_416, hQ_416, st_416⟩ := goS X_415 hx hZ_412 (y := Y_12) hown_412 (wd_22 hw) (wd_23 hw) (wd_24 hw) (wd_25 hw) (by decide) (backOf (W := 0) (rm_make7 l Z a0 hw zc vfm va kv ea eb ec ed wa wb wc wd h_412 n0 (Nat.le_trans Z0 KP_412.1) hSt O_412) hZ_412 (wd_25 hw) (wd_24 hw) (by decide) (by decide)) e_415 (g := (mkF m 169 #[vI p0, vI p1, vI p2, vI p3, vI 3, vR a_412, vI cc, vI 0, vU, vI 7, vI pp, vU] [(.int (7 : Int32))])) rfl (by rw [hml]; rfl) (argsL := [(.int (7 : Int32))]) (rest := []) rfl (lenOf pd_11 rfl) rfl (by show 2 * 0 + _ ≤ _; exact Nat.le_of_eq rfl) (hb hby at_169) (by decide) (by decide)
      obtain ⟨r_416, kr_416, rfl, Nq_416, K_416, u0_416, u1_416⟩ := hQ_416
      have N_416 := Fr.app N_415 Nq_416
      have C_416 := CHr.keep K_416 sf0 C_412.1
      have CR_416 := CHr.trans CR_412 C_416
      have le_416 : h_412.size ≤ T_416.heap.size := K_416.1
      have KP_416 := KP_412.trans K_416 all0
      have O_416 := O_412.keep K_416 all0
      have sz_r_416 : h0.size ≤ r_416 := Nat.le_trans le_412 u0_416
      have g_r_416 : n0 ≤ r_416 := Nat.le_trans Z0 sz_r_416
      have Sf_r_416 := Safe.keep K_416 sf0 C_412.1 (Safe.new u0_416)
      refine Go.step st_416 ?_
      show Go p e below _ (T_416.setTop (mkF m 172 #[vI p0, vI p1, vI p2, vI p3, vI 3, vR a_412, vI cc, vI 0, vU, vI 7, vI pp, vU] [(.ref r_416)]))
      refine Go.step (fun _ k => XS.astore X_416.here hx rfl (hb hby at_172) rfl rfl (l' := #[vI p0, vI p1, vI p2, vI p3, vI 3, vR a_412, vI cc, vI 0, vU, vI 7, vI pp, vR r_416]) rfl k) ?_
      show Go p e below _ (T_416.setTop (mkF m 174 #[vI p0, vI p1, vI p2, vI p3, vI 3, vR a_412, vI cc, vI 0, vU, vI 7, vI pp, vR r_416] []))
      have f417 : Str Z h_412.size T_416.heap a_412 ([(101 : Int32), (120 : Int32), (112 : Int32), (105 : Int32), (114 : Int32), (101 : Int32), (100 : Int32)] : List Int32) := (Sx_412.keep K_416 all0)
      refine sg_puts l Z a0 hw zc vfm va kv ea eb ec ed wa wb wc wd (p0) (p1) (p2) (p3) ((3 : Int32)) ((7 : Int32)) (r_416) (kr_416) ((7 : Int32)) (([(0 : Int32), (0 : Int32), (0 : Int32), (0 : Int32), (0 : Int32), (0 : Int32), (0 : Int32)] : List Int32)) (a_412) (([(101 : Int32), (120 : Int32), (112 : Int32), (105 : Int32), (114 : Int32), (101 : Int32), (100 : Int32)] : List Int32)) ((0 : Int32)) (pp) (cc) (h_412.size) T_416.heap n0 (Nat.le_trans Z0 KP_416.1) u1_416 g_r_416 f417 (Nat.le_trans (Nat.le_refl _) u0_416) rfl (by decide) (by decide) (fun i1 a b => by have a2 : 0 ≤ i1.toInt := Int.not_lt.mp (fun q => a (Int32.lt_iff_toInt_lt.mpr q)); have b2 : i1.toInt < 7 := Int32.lt_iff_toInt_lt.mp b; have hp := h_p; exact ⟨by decide, a2, hp.1, by show _ ≤ ((7 : Nat) : Int); omega, fun _ => by show _ < ((7 : Nat) : Int); omega, fun q => absurd q (by decide), fun a _ _ => absurd rfl a⟩) l_c hSt O_416 hx hby hml hZ_412 hown_412 X_416 rfl N_416 (by decide) (by decide) ?_
      intro T_418 L_418 vs2_418 X_418 hQ_418
      obtain ⟨N_418, K_418, u0_418, u1_418⟩ := hQ_418
      have C_418 := CHr.keep K_418 (sfS (Safe.arv hZ_412.alike u1_416 (by decide)) sf0) C_416.1
      have CR_418 := CHr.trans CR_416 C_418
      have le_418 : T_416.heap.size ≤ T_418.heap.size := K_418.1
      have KP_418 := KP_416.trans K_418 (allS (Or.inr sz_r_416) all0)
      have O_418 := O_416.keep K_418 (allS g_r_416 all0)
      have hv2_418 := u1_418
      show Go p e below _ (T_418.setTop (mkF m 303 #[vI p0, vI p1, vI p2, vI p3, vI 3, vR a_412, vI cc, vI 0, vU, vI 7, vI pp, vR r_416] []))
      have hL_418 : vs2_418.length = 7 := hv2_418.1
      show Go p e below _ (T_418.setTop (mkF m 303 #[vI p0, vI p1, vI p2, vI p3, vI 3, vR a_412, vI cc, vI 0, vU, vI 7, vI pp, vR r_416] []))
      obtain ⟨T_419, h_419, X_419, e_419, E_419, A_419, D_419, Un_419, st_419⟩ := newO X_418 hx hZ_412 hown_412 (wd_55 hw) (wd_2 hw) (wd_1 hw) rfl (g := (mkF m 303 #[vI p0, vI p1, vI p2, vI p3, vI 3, vR a_412, vI cc, vI 0, vU, vI 7, vI pp, vR r_416] [])) rfl (hb hby at_303) (by decide) (by decide)
      obtain ⟨b419, q_419⟩ : ∃ z, z = T_418.heap.size := ⟨_, rfl⟩
      rw [← q_419] at A_419 D_419 Un_419 st_419
      refine Go.step st_419 ?_
      have C_419 := CHr.ext E_419 C_418.1
      have CR_419 := CHr.trans CR_418 C_419
      have le_419 : T_418.heap.size ≤ h_419.size := E_419.1
      have KP_419 := KP_418.ext E_419
      have O_419 := O_418.ext E_419
      have ge_419 : T_418.heap.size ≤ b419 := Nat.le_of_eq q_419.symm
      have sz_b419 : h0.size ≤ b419 := Nat.le_trans (Nat.le_trans le_412 (Nat.le_trans le_416 le_418)) ge_419
      have g_b419 : n0 ≤ b419 := Nat.le_trans Z0 sz_b419
      have F_419_4 : Fld Z h_419 b419 "java/lang/String" "value" "[B" .null := D_419 (Or.inr (wd_4 hw)) (ty := (.array .byte)) pf_0
      have F_419_5 : Fld Z h_419 b419 "java/lang/String" "coder" "B" (.int (0 : Int32)) := D_419 (Or.inr (wd_5 hw)) (ty := .byte) pf_1
      have Sf_b419 := Safe.ext E_419 C_418.1 (Safe.new ge_419)
      show Go p e below _ (T_419.setTop (mkF m 306 #[vI p0, vI p1, vI p2, vI p3, vI 3, vR a_412, vI cc, vI 0, vU, vI 7, vI pp, vR r_416] [(.ref b419)]))
      refine Go.step (fun _ k => XS.dup X_419.here hx rfl (hb hby at_306) rfl rfl k) ?_
      refine Go.step (fun _ k => XS.aload X_419.here hx rfl (hb hby at_307) rfl rfl k) ?_
      show Go p e below _ (T_419.setTop (mkF m 309 #[vI p0, vI p1, vI p2, vI p3, vI 3, vR a_412, vI cc, vI 0, vU, vI 7, vI pp, vR r_416] [(.ref r_416), (.ref b419), (.ref b419)]))
      have f420 : Arv Z h_419 r_416 kr_416 .char (7 : Int32) (vs2_418.map Value.int) (.int (0 : Int32)) := (u0_418.ext E_419)
      obtain ⟨v_421, T_421, L_421, X_421, hQ_421, st_421⟩ := goC X_419 hx hZ_412 (y := Y_13) hown_412 rfl (wd_56 hw) (wd_57 hw) (wd_58 hw) (by decide) (StrChars.Road.backV (W := 1) hZ_412 (sw_words hw) (kI := 4) (wd_2 hw) (cs := vs2_418) (bs := vs2_418.map (fun c => c.toInt8.toInt32)) (n := 7) g_b419 (Nat.le_trans Z0 KP_419.1) A_419 F_419_4 F_419_5 f420 (S_cs.ext O_419.2) n_cs hL_418 rfl (by decide) (by decide) hv2_418.2 rfl (by decide) (by decide)) e_419 (g := (mkF m 309 #[vI p0, vI p1, vI p2, vI p3, vI 3, vR a_412, vI cc, vI 0, vU, vI 7, vI pp, vR r_416] [(.ref r_416), (.ref b419), (.ref b419)])) rfl (by rw [hml]; rfl) (a := b419) (argsL := [(.ref r_416)]) (rest := [(.ref b419)]) rfl (lenOf pd_12 rfl) rfl (by show 2 * 0 + _ ≤ _; exact Nat.le_of_eq rfl) (hb hby at_309) (by decide) (by decide)
      obtain ⟨rfl, Nq_421, K_421, Ex_421, Fc_421, t_421, kb_421, -, gt_421, -, Fv_421, Av_421⟩ := hQ_421
      have N_421 := Fr.app N_418 Nq_421
      have C_421 := CHr.keep K_421 (sfS Sf_b419 sf0) C_419.1
      have CR_421 := CHr.trans CR_419 C_421
      have le_421 : h_419.size ≤ T_421.heap.size := K_421.1
      have KP_421 := KP_419.trans K_421 (allS (Or.inr sz_b419) all0)
      have O_421 := O_419.keep K_421 (allS g_b419 all0)
      have Sx_421 : Str Z (T_421.heap).size (T_421.heap) b419 vs2_418 := ⟨t_421, kb_421, Ex_421.lt, Av_421.lt, Ex_421, Fv_421, Fc_421, by rw [show vs2_418.length = 7 from hL_418]; exact Av_421, hv2_418.2, by rw [show vs2_418.length = 7 from hL_418]; decide⟩
      refine Go.step st_421 ?_
      show Go p e below _ (T_421.setTop (mkF m 312 #[vI p0, vI p1, vI p2, vI p3, vI 3, vR a_412, vI cc, vI 0, vU, vI 7, vI pp, vR r_416] [(.ref b419)]))
      refine Go.step (fun _ k => XS.astore X_421.here hx rfl (hb hby at_312) rfl rfl (l' := #[vI p0, vI p1, vI p2, vI p3, vI 3, vR a_412, vI cc, vI 0, vR b419, vI 7, vI pp, vR r_416]) rfl k) ?_
      show Go p e below _ (T_421.setTop (mkF m 314 #[vI p0, vI p1, vI p2, vI p3, vI 3, vR a_412, vI cc, vI 0, vR b419, vI 7, vI pp, vR r_416] []))
      exact tg_tailS l Z a0 hw zc vfm va kv ea eb ec ed wa wb wc wd ((vI p0)) ((vI p1)) ((vI p2)) ((vI p3)) ((vI 3)) ((vR a_412)) ((vI cc)) ((vI 0)) ((vI 7)) ((vI pp)) ((vR r_416)) (b419) (vs2_418) T_421.heap n0 (Nat.le_trans Z0 KP_421.1) Sx_421 hSt O_421 hx hby hml hret hlk hZ_412 hown_412 X_421 rfl N_421 hS_412 (Nat.le_trans hk_412 (Nat.le_trans le_416 (Nat.le_trans le_418 (Nat.le_trans le_419 le_421)))) C_421.1 CR_421 hh0 (by decide) (by decide)
    · skip
      show Go p e below _ (T_412.setTop (mkF m 58 #[vI p0, vI p1, vI p2, vI p3, vI 3, vR a_412, vI cc, vI 1, vU, vU, vU, vU] []))
      refine Go.step (fun _ k => XS.iload X_412.here hx rfl (hb hby at_58) rfl  k) ?_
      refine Go.step (fun _ k => XS.iconst X_412.here hx rfl (hb hby at_60) k) ?_
      show Go p e below _ (T_412.setTop (mkF m 61 #[vI p0, vI p1, vI p2, vI p3, vI 3, vR a_412, vI cc, vI 1, vU, vU, vU, vU] [(.int (4 : Int32)), (.int (1 : Int32))]))
      refine Go.step (fun _ k => XS.icmpYes X_412.here hx rfl (pc0 := 61) (pc' := 74) rfl (hb hby at_61) rfl (feq ((by decide) : ¬ ((1 : Int32) = (4 : Int32)))).2 (by decide) (by decide) k) ?_
      show Go p e below _ (T_412.setTop (mkF m 74 #[vI p0, vI p1, vI p2, vI p3, vI 3, vR a_412, vI cc, vI 1, vU, vU, vU, vU] []))
      refine Go.step (fun _ k => XS.iload X_412.here hx rfl (hb hby at_74) rfl  k) ?_
      refine Go.step (fun _ k => XS.iconst X_412.here hx rfl (hb hby at_76) k) ?_
      show Go p e below _ (T_412.setTop (mkF m 77 #[vI p0, vI p1, vI p2, vI p3, vI 3, vR a_412, vI cc, vI 1, vU, vU, vU, vU] [(.int (5 : Int32)), (.int (1 : Int32))]))
      refine Go.step (fun _ k => XS.icmpYes X_412.here hx rfl (pc0 := 77) (pc' := 105) rfl (hb hby at_77) rfl (feq ((by decide) : ¬ ((1 : Int32) = (5 : Int32)))).2 (by decide) (by decide) k) ?_
      show Go p e below _ (T_412.setTop (mkF m 105 #[vI p0, vI p1, vI p2, vI p3, vI 3, vR a_412, vI cc, vI 1, vU, vU, vU, vU] []))
      refine Go.step (fun _ k => XS.iload X_412.here hx rfl (hb hby at_105) rfl  k) ?_
      refine Go.step (fun _ k => XS.iconst X_412.here hx rfl (hb hby at_107) k) ?_
      show Go p e below _ (T_412.setTop (mkF m 108 #[vI p0, vI p1, vI p2, vI p3, vI 3, vR a_412, vI cc, vI 1, vU, vU, vU, vU] [(.int (2 : Int32)), (.int (1 : Int32))]))
      refine Go.step (fun _ k => XS.icmpYes X_412.here hx rfl (pc0 := 108) (pc' := 121) rfl (hb hby at_108) rfl (feq ((by decide) : ¬ ((1 : Int32) = (2 : Int32)))).2 (by decide) (by decide) k) ?_
      show Go p e below _ (T_412.setTop (mkF m 121 #[vI p0, vI p1, vI p2, vI p3, vI 3, vR a_412, vI cc, vI 1, vU, vU, vU, vU] []))
      refine Go.step (fun _ k => XS.iload X_412.here hx rfl (hb hby at_121) rfl  k) ?_
      refine Go.step (fun _ k => XS.iconst X_412.here hx rfl (hb hby at_123) k) ?_
      show Go p e below _ (T_412.setTop (mkF m 124 #[vI p0, vI p1, vI p2, vI p3, vI 3, vR a_412, vI cc, vI 1, vU, vU, vU, vU] [(.int (3 : Int32)), (.int (1 : Int32))]))
      refine Go.step (fun _ k => XS.icmpYes X_412.here hx rfl (pc0 := 124) (pc' := 137) rfl (hb hby at_124) rfl (feq ((by decide) : ¬ ((1 : Int32) = (3 : Int32)))).2 (by decide) (by decide) k) ?_
      show Go p e below _ (T_412.setTop (mkF m 137 #[vI p0, vI p1, vI p2, vI p3, vI 3, vR a_412, vI cc, vI 1, vU, vU, vU, vU] []))
      refine Go.step (fun _ k => XS.aload X_412.here hx rfl (hb hby at_137) rfl rfl k) ?_
      show Go p e below _ (T_412.setTop (mkF m 139 #[vI p0, vI p1, vI p2, vI p3, vI 3, vR a_412, vI cc, vI 1, vU, vU, vU, vU] [(.ref a_412)]))
      have cp422 := Sx_412
      obtain ⟨t423, kb423, -, -, Ex423, Fv423, Fc423, Av423, hl423, hn423⟩ := cp422
      obtain ⟨v_424, T_424, L_424, X_424, hQ_424, st_424⟩ := goV X_412 hx hZ_412 (y := Y_11) (z := Y_11) (kc := 0) (ks := 0) (QQ := fun v h' L => v = some (.int (7 : Int32)) ∧ L = [] ∧ h' = h_412) hown_412 (wd_9 hw) (wd_10 hw) (notFace_of_selects (args := #[]) (mvT hZ_412 (wd_12 hw))) (wd_12 hw) (wd_11 hw) (by decide) (StrChars.Road.lenW (W := 0) hZ_412 (sw_wordsLen hw) (kI := 4) (wd_2 hw) Ex423 Fv423 Fc423 Av423 (StrChars.Road.codOf rfl (fun c hc => (hl423 c hc).2)) (up255 hl423) (S_cs.ext O_412.2) n_cs hn423 (by decide) (by decide)) e_412 Ex423 (g := (mkF m 139 #[vI p0, vI p1, vI p2, vI p3, vI 3, vR a_412, vI cc, vI 1, vU, vU, vU, vU] [(.ref a_412)])) rfl (by rw [hml]; rfl) (argsL := []) (rest := []) rfl (lenOf pd_10 rfl) rfl (by show 2 * 0 + _ ≤ _; exact Nat.le_of_eq rfl) (hb hby at_139) (by decide) (by decide)
      obtain ⟨rfl, rfl, e_424⟩ := hQ_424
      have N_424 := Fr.app N0 (Fr.nil n0)
      refine Go.step st_424 ?_
      show Go p e below _ (T_424.setTop (mkF m 142 #[vI p0, vI p1, vI p2, vI p3, vI 3, vR a_412, vI cc, vI 1, vU, vU, vU, vU] [(.int (7 : Int32))]))
      refine Go.step (fun _ k => XS.istore X_424.here hx rfl (hb hby at_142) rfl (l' := #[vI p0, vI p1, vI p2, vI p3, vI 3, vR a_412, vI cc, vI 1, vU, vI 7, vU, vU]) rfl k) ?_
      show Go p e below _ (T_424.setTop (mkF m 144 #[vI p0, vI p1, vI p2, vI p3, vI 3, vR a_412, vI cc, vI 1, vU, vI 7, vU, vU] []))
      refine Go.step (fun _ k => XS.iloadN X_424.here hx rfl (hb hby at_144) rfl  k) ?_
      show Go p e below _ (T_424.setTop (mkF m 145 #[vI p0, vI p1, vI p2, vI p3, vI 3, vR a_412, vI cc, vI 1, vU, vI 7, vU, vU] [(.int p2)]))
      refine Go.step (fun _ k => X_424.ldcInt hx hown_412 (mvT hZ_412 (wd_8 hw)) (g := (mkF m 145 #[vI p0, vI p1, vI p2, vI p3, vI 3, vR a_412, vI cc, vI 1, vU, vI 7, vU, vU] [(.int p2)])) rfl (hb hby at_145) _ k) ?_
      show Go p e below _ (T_424.setTop (mkF m 147 #[vI p0, vI p1, vI p2, vI p3, vI 3, vR a_412, vI cc, vI 1, vU, vI 7, vU, vU] [(.int (2147483647 : Int32)), (.int p2)]))
      refine Go.step (fun _ k => XS.iand X_424.here hx rfl (hb hby at_147) rfl k) ?_
      show Go p e below _ (T_424.setTop (mkF m 148 #[vI p0, vI p1, vI p2, vI p3, vI 3, vR a_412, vI cc, vI 1, vU, vI 7, vU, vU] [(.int (p2 &&& (2147483647 : Int32)))]))
      refine Go.step (fun _ k => XS.iload X_424.here hx rfl (hb hby at_148) rfl  k) ?_
      refine Go.step (fun _ k => XS.iconst X_424.here hx rfl (hb hby at_150) k) ?_
      show Go p e below _ (T_424.setTop (mkF m 151 #[vI p0, vI p1, vI p2, vI p3, vI 3, vR a_412, vI cc, vI 1, vU, vI 7, vU, vU] [(.int (2 : Int32)), (.int (1 : Int32)), (.int (p2 &&& (2147483647 : Int32)))]))
      refine Go.step (fun _ k => XS.icmpYes X_424.here hx rfl (pc0 := 151) (pc' := 162) rfl (hb hby at_151) rfl (feq ((by decide) : ¬ ((1 : Int32) = (2 : Int32)))).2 (by decide) (by decide) k) ?_
      show Go p e below _ (T_424.setTop (mkF m 162 #[vI p0, vI p1, vI p2, vI p3, vI 3, vR a_412, vI cc, vI 1, vU, vI 7, vU, vU] [(.int (p2 &&& (2147483647 : Int32)))]))
      refine Go.step (fun _ k => XS.iload X_424.here hx rfl (hb hby at_162) rfl  k) ?_
      show Go p e below _ (T_424.setTop (mkF m 164 #[vI p0, vI p1, vI p2, vI p3, vI 3, vR a_412, vI cc, vI 1, vU, vI 7, vU, vU] [(.int (7 : Int32)), (.int (p2 &&& (2147483647 : Int32)))]))
      refine Go.step (fun _ k => iremM X_424 hx rfl (hb hby at_164) rfl (by decide) k) ?_
      show Go p e below _ (T_424.setTop (mkF m 165 #[vI p0, vI p1, vI p2, vI p3, vI 3, vR a_412, vI cc, vI 1, vU, vI 7, vU, vU] [(.int ((p2 &&& (2147483647 : Int32)) % (7 : Int32)))]))
      refine Go.step (fun _ k => XS.istore X_424.here hx rfl (hb hby at_165) rfl (l' := #[vI p0, vI p1, vI p2, vI p3, vI 3, vR a_412, vI cc, vI 1, vU, vI 7, vI ((p2 &&& (2147483647 : Int32)) % (7 : Int32)), vU]) rfl k) ?_
      show Go p e below _ (T_424.setTop (mkF m 167 #[vI p0, vI p1, vI p2, vI p3, vI 3, vR a_412, vI cc, vI 1, vU, vI 7, vI ((p2 &&& (2147483647 : Int32)) % (7 : Int32)), vU] []))
      obtain ⟨pp, h_pp⟩ : ∃ z, z = ((p2 &&& (2147483647 : Int32)) % (7 : Int32)) := ⟨_, rfl⟩
      rw [← h_pp]
      show Go p e below _ (T_424.setTop (mkF m 167 #[vI p0, vI p1, vI p2, vI p3, vI 3, vR a_412, vI cc, vI 1, vU, vI 7, vI pp, vU] []))
      have h_p : 0 ≤ pp.toInt ∧ pp.toInt < 7 := by rw [h_pp]; exact rem7 _
      show Go p e below _ (T_424.setTop (mkF m 167 #[vI p0, vI p1, vI p2, vI p3, vI 3, vR a_412, vI cc, vI 1, vU, vI 7, vI pp, vU] []))
      refine Go.step (fun _ k => XS.iload X_424.here hx rfl (hb hby at_167) rfl  k) ?_
      show Go p e below _ (T_424.setTop (mkF m 169 #[vI p0, vI p1, vI p2, vI p3, vI 3, vR a_412, vI cc, vI 1, vU, vI 7, vI pp, vU] [(.int (7 : Int32))]))
      obtain ⟨v_425, T_425, L_425, X_425, hQ_425, st_425⟩ := goS X_424 hx hZ_412 (y := Y_12) hown_412 (wd_22 hw) (wd_23 hw) (wd_24 hw) (wd_25 hw) (by decide) (backOf (W := 0) (rm_make7 l Z a0 hw zc vfm va kv ea eb ec ed wa wb wc wd h_412 n0 (Nat.le_trans Z0 KP_412.1) hSt O_412) hZ_412 (wd_25 hw) (wd_24 hw) (by decide) (by decide)) e_424 (g := (mkF m 169 #[vI p0, vI p1, vI p2, vI p3, vI 3, vR a_412, vI cc, vI 1, vU, vI 7, vI pp, vU] [(.int (7 : Int32))])) rfl (by rw [hml]; rfl) (argsL := [(.int (7 : Int32))]) (rest := []) rfl (lenOf pd_11 rfl) rfl (by show 2 * 0 + _ ≤ _; exact Nat.le_of_eq rfl) (hb hby at_169) (by decide) (by decide)
      obtain ⟨r_425, kr_425, rfl, Nq_425, K_425, u0_425, u1_425⟩ := hQ_425
      have N_425 := Fr.app N_424 Nq_425
      have C_425 := CHr.keep K_425 sf0 C_412.1
      have CR_425 := CHr.trans CR_412 C_425
      have le_425 : h_412.size ≤ T_425.heap.size := K_425.1
      have KP_425 := KP_412.trans K_425 all0
      have O_425 := O_412.keep K_425 all0
      have sz_r_425 : h0.size ≤ r_425 := Nat.le_trans le_412 u0_425
      have g_r_425 : n0 ≤ r_425 := Nat.le_trans Z0 sz_r_425
      have Sf_r_425 := Safe.keep K_425 sf0 C_412.1 (Safe.new u0_425)
      refine Go.step st_425 ?_
      show Go p e below _ (T_425.setTop (mkF m 172 #[vI p0, vI p1, vI p2, vI p3, vI 3, vR a_412, vI cc, vI 1, vU, vI 7, vI pp, vU] [(.ref r_425)]))
      refine Go.step (fun _ k => XS.astore X_425.here hx rfl (hb hby at_172) rfl rfl (l' := #[vI p0, vI p1, vI p2, vI p3, vI 3, vR a_412, vI cc, vI 1, vU, vI 7, vI pp, vR r_425]) rfl k) ?_
      show Go p e below _ (T_425.setTop (mkF m 174 #[vI p0, vI p1, vI p2, vI p3, vI 3, vR a_412, vI cc, vI 1, vU, vI 7, vI pp, vR r_425] []))
      have f426 : Str Z h_412.size T_425.heap a_412 ([(101 : Int32), (120 : Int32), (112 : Int32), (105 : Int32), (114 : Int32), (101 : Int32), (100 : Int32)] : List Int32) := (Sx_412.keep K_425 all0)
      refine sg_puts l Z a0 hw zc vfm va kv ea eb ec ed wa wb wc wd (p0) (p1) (p2) (p3) ((3 : Int32)) ((7 : Int32)) (r_425) (kr_425) ((7 : Int32)) (([(0 : Int32), (0 : Int32), (0 : Int32), (0 : Int32), (0 : Int32), (0 : Int32), (0 : Int32)] : List Int32)) (a_412) (([(101 : Int32), (120 : Int32), (112 : Int32), (105 : Int32), (114 : Int32), (101 : Int32), (100 : Int32)] : List Int32)) ((1 : Int32)) (pp) (cc) (h_412.size) T_425.heap n0 (Nat.le_trans Z0 KP_425.1) u1_425 g_r_425 f426 (Nat.le_trans (Nat.le_refl _) u0_425) rfl (by decide) (by decide) (fun i1 a b => by have a2 : 0 ≤ i1.toInt := Int.not_lt.mp (fun q => a (Int32.lt_iff_toInt_lt.mpr q)); have b2 : i1.toInt < 7 := Int32.lt_iff_toInt_lt.mp b; have hp := h_p; exact ⟨by decide, a2, hp.1, by show _ ≤ ((7 : Nat) : Int); omega, fun _ => by show _ < ((7 : Nat) : Int); omega, fun q => absurd q (by decide), fun _ b _ => absurd rfl b⟩) l_c hSt O_425 hx hby hml hZ_412 hown_412 X_425 rfl N_425 (by decide) (by decide) ?_
      intro T_427 L_427 vs2_427 X_427 hQ_427
      obtain ⟨N_427, K_427, u0_427, u1_427⟩ := hQ_427
      have C_427 := CHr.keep K_427 (sfS (Safe.arv hZ_412.alike u1_425 (by decide)) sf0) C_425.1
      have CR_427 := CHr.trans CR_425 C_427
      have le_427 : T_425.heap.size ≤ T_427.heap.size := K_427.1
      have KP_427 := KP_425.trans K_427 (allS (Or.inr sz_r_425) all0)
      have O_427 := O_425.keep K_427 (allS g_r_425 all0)
      have hv2_427 := u1_427
      show Go p e below _ (T_427.setTop (mkF m 303 #[vI p0, vI p1, vI p2, vI p3, vI 3, vR a_412, vI cc, vI 1, vU, vI 7, vI pp, vR r_425] []))
      have hL_427 : vs2_427.length = 7 := hv2_427.1
      show Go p e below _ (T_427.setTop (mkF m 303 #[vI p0, vI p1, vI p2, vI p3, vI 3, vR a_412, vI cc, vI 1, vU, vI 7, vI pp, vR r_425] []))
      obtain ⟨T_428, h_428, X_428, e_428, E_428, A_428, D_428, Un_428, st_428⟩ := newO X_427 hx hZ_412 hown_412 (wd_55 hw) (wd_2 hw) (wd_1 hw) rfl (g := (mkF m 303 #[vI p0, vI p1, vI p2, vI p3, vI 3, vR a_412, vI cc, vI 1, vU, vI 7, vI pp, vR r_425] [])) rfl (hb hby at_303) (by decide) (by decide)
      obtain ⟨b428, q_428⟩ : ∃ z, z = T_427.heap.size := ⟨_, rfl⟩
      rw [← q_428] at A_428 D_428 Un_428 st_428
      refine Go.step st_428 ?_
      have C_428 := CHr.ext E_428 C_427.1
      have CR_428 := CHr.trans CR_427 C_428
      have le_428 : T_427.heap.size ≤ h_428.size := E_428.1
      have KP_428 := KP_427.ext E_428
      have O_428 := O_427.ext E_428
      have ge_428 : T_427.heap.size ≤ b428 := Nat.le_of_eq q_428.symm
      have sz_b428 : h0.size ≤ b428 := Nat.le_trans (Nat.le_trans le_412 (Nat.le_trans le_425 le_427)) ge_428
      have g_b428 : n0 ≤ b428 := Nat.le_trans Z0 sz_b428
      have F_428_4 : Fld Z h_428 b428 "java/lang/String" "value" "[B" .null := D_428 (Or.inr (wd_4 hw)) (ty := (.array .byte)) pf_0
      have F_428_5 : Fld Z h_428 b428 "java/lang/String" "coder" "B" (.int (0 : Int32)) := D_428 (Or.inr (wd_5 hw)) (ty := .byte) pf_1
      have Sf_b428 := Safe.ext E_428 C_427.1 (Safe.new ge_428)
      show Go p e below _ (T_428.setTop (mkF m 306 #[vI p0, vI p1, vI p2, vI p3, vI 3, vR a_412, vI cc, vI 1, vU, vI 7, vI pp, vR r_425] [(.ref b428)]))
      refine Go.step (fun _ k => XS.dup X_428.here hx rfl (hb hby at_306) rfl rfl k) ?_
      refine Go.step (fun _ k => XS.aload X_428.here hx rfl (hb hby at_307) rfl rfl k) ?_
      show Go p e below _ (T_428.setTop (mkF m 309 #[vI p0, vI p1, vI p2, vI p3, vI 3, vR a_412, vI cc, vI 1, vU, vI 7, vI pp, vR r_425] [(.ref r_425), (.ref b428), (.ref b428)]))
      have f429 : Arv Z h_428 r_425 kr_425 .char (7 : Int32) (vs2_427.map Value.int) (.int (0 : Int32)) := (u0_427.ext E_428)
      obtain ⟨v_430, T_430, L_430, X_430, hQ_430, st_430⟩ := goC X_428 hx hZ_412 (y := Y_13) hown_412 rfl (wd_56 hw) (wd_57 hw) (wd_58 hw) (by decide) (StrChars.Road.backV (W := 1) hZ_412 (sw_words hw) (kI := 4) (wd_2 hw) (cs := vs2_427) (bs := vs2_427.map (fun c => c.toInt8.toInt32)) (n := 7) g_b428 (Nat.le_trans Z0 KP_428.1) A_428 F_428_4 F_428_5 f429 (S_cs.ext O_428.2) n_cs hL_427 rfl (by decide) (by decide) hv2_427.2 rfl (by decide) (by decide)) e_428 (g := (mkF m 309 #[vI p0, vI p1, vI p2, vI p3, vI 3, vR a_412, vI cc, vI 1, vU, vI 7, vI pp, vR r_425] [(.ref r_425), (.ref b428), (.ref b428)])) rfl (by rw [hml]; rfl) (a := b428) (argsL := [(.ref r_425)]) (rest := [(.ref b428)]) rfl (lenOf pd_12 rfl) rfl (by show 2 * 0 + _ ≤ _; exact Nat.le_of_eq rfl) (hb hby at_309) (by decide) (by decide)
      obtain ⟨rfl, Nq_430, K_430, Ex_430, Fc_430, t_430, kb_430, -, gt_430, -, Fv_430, Av_430⟩ := hQ_430
      have N_430 := Fr.app N_427 Nq_430
      have C_430 := CHr.keep K_430 (sfS Sf_b428 sf0) C_428.1
      have CR_430 := CHr.trans CR_428 C_430
      have le_430 : h_428.size ≤ T_430.heap.size := K_430.1
      have KP_430 := KP_428.trans K_430 (allS (Or.inr sz_b428) all0)
      have O_430 := O_428.keep K_430 (allS g_b428 all0)
      have Sx_430 : Str Z (T_430.heap).size (T_430.heap) b428 vs2_427 := ⟨t_430, kb_430, Ex_430.lt, Av_430.lt, Ex_430, Fv_430, Fc_430, by rw [show vs2_427.length = 7 from hL_427]; exact Av_430, hv2_427.2, by rw [show vs2_427.length = 7 from hL_427]; decide⟩
      refine Go.step st_430 ?_
      show Go p e below _ (T_430.setTop (mkF m 312 #[vI p0, vI p1, vI p2, vI p3, vI 3, vR a_412, vI cc, vI 1, vU, vI 7, vI pp, vR r_425] [(.ref b428)]))
      refine Go.step (fun _ k => XS.astore X_430.here hx rfl (hb hby at_312) rfl rfl (l' := #[vI p0, vI p1, vI p2, vI p3, vI 3, vR a_412, vI cc, vI 1, vR b428, vI 7, vI pp, vR r_425]) rfl k) ?_
      show Go p e below _ (T_430.setTop (mkF m 314 #[vI p0, vI p1, vI p2, vI p3, vI 3, vR a_412, vI cc, vI 1, vR b428, vI 7, vI pp, vR r_425] []))
      exact tg_tailS l Z a0 hw zc vfm va kv ea eb ec ed wa wb wc wd ((vI p0)) ((vI p1)) ((vI p2)) ((vI p3)) ((vI 3)) ((vR a_412)) ((vI cc)) ((vI 1)) ((vI 7)) ((vI pp)) ((vR r_425)) (b428) (vs2_427) T_430.heap n0 (Nat.le_trans Z0 KP_430.1) Sx_430 hSt O_430 hx hby hml hret hlk hZ_412 hown_412 X_430 rfl N_430 hS_412 (Nat.le_trans hk_412 (Nat.le_trans le_425 (Nat.le_trans le_427 (Nat.le_trans le_428 le_430)))) C_430.1 CR_430 hh0 (by decide) (by decide)
    · skip
      show Go p e below _ (T_412.setTop (mkF m 58 #[vI p0, vI p1, vI p2, vI p3, vI 3, vR a_412, vI cc, vI 2, vU, vU, vU, vU] []))
      refine Go.step (fun _ k => XS.iload X_412.here hx rfl (hb hby at_58) rfl  k) ?_
      refine Go.step (fun _ k => XS.iconst X_412.here hx rfl (hb hby at_60) k) ?_
      show Go p e below _ (T_412.setTop (mkF m 61 #[vI p0, vI p1, vI p2, vI p3, vI 3, vR a_412, vI cc, vI 2, vU, vU, vU, vU] [(.int (4 : Int32)), (.int (2 : Int32))]))
      refine Go.step (fun _ k => XS.icmpYes X_412.here hx rfl (pc0 := 61) (pc' := 74) rfl (hb hby at_61) rfl (feq ((by decide) : ¬ ((2 : Int32) = (4 : Int32)))).2 (by decide) (by decide) k) ?_
      show Go p e below _ (T_412.setTop (mkF m 74 #[vI p0, vI p1, vI p2, vI p3, vI 3, vR a_412, vI cc, vI 2, vU, vU, vU, vU] []))
      refine Go.step (fun _ k => XS.iload X_412.here hx rfl (hb hby at_74) rfl  k) ?_
      refine Go.step (fun _ k => XS.iconst X_412.here hx rfl (hb hby at_76) k) ?_
      show Go p e below _ (T_412.setTop (mkF m 77 #[vI p0, vI p1, vI p2, vI p3, vI 3, vR a_412, vI cc, vI 2, vU, vU, vU, vU] [(.int (5 : Int32)), (.int (2 : Int32))]))
      refine Go.step (fun _ k => XS.icmpYes X_412.here hx rfl (pc0 := 77) (pc' := 105) rfl (hb hby at_77) rfl (feq ((by decide) : ¬ ((2 : Int32) = (5 : Int32)))).2 (by decide) (by decide) k) ?_
      show Go p e below _ (T_412.setTop (mkF m 105 #[vI p0, vI p1, vI p2, vI p3, vI 3, vR a_412, vI cc, vI 2, vU, vU, vU, vU] []))
      refine Go.step (fun _ k => XS.iload X_412.here hx rfl (hb hby at_105) rfl  k) ?_
      refine Go.step (fun _ k => XS.iconst X_412.here hx rfl (hb hby at_107) k) ?_
      show Go p e below _ (T_412.setTop (mkF m 108 #[vI p0, vI p1, vI p2, vI p3, vI 3, vR a_412, vI cc, vI 2, vU, vU, vU, vU] [(.int (2 : Int32)), (.int (2 : Int32))]))
      refine Go.step (fun _ k => XS.icmpNo X_412.here hx rfl (hb hby at_108) rfl (teq ((by decide) : (2 : Int32) = (2 : Int32))).2 k) ?_
      show Go p e below _ (T_412.setTop (mkF m 111 #[vI p0, vI p1, vI p2, vI p3, vI 3, vR a_412, vI cc, vI 2, vU, vU, vU, vU] []))
      refine Go.step (fun _ k => XS.aload X_412.here hx rfl (hb hby at_111) rfl rfl k) ?_
      show Go p e below _ (T_412.setTop (mkF m 113 #[vI p0, vI p1, vI p2, vI p3, vI 3, vR a_412, vI cc, vI 2, vU, vU, vU, vU] [(.ref a_412)]))
      have cp431 := Sx_412
      obtain ⟨t432, kb432, -, -, Ex432, Fv432, Fc432, Av432, hl432, hn432⟩ := cp431
      obtain ⟨v_433, T_433, L_433, X_433, hQ_433, st_433⟩ := goV X_412 hx hZ_412 (y := Y_11) (z := Y_11) (kc := 0) (ks := 0) (QQ := fun v h' L => v = some (.int (7 : Int32)) ∧ L = [] ∧ h' = h_412) hown_412 (wd_9 hw) (wd_10 hw) (notFace_of_selects (args := #[]) (mvT hZ_412 (wd_12 hw))) (wd_12 hw) (wd_11 hw) (by decide) (StrChars.Road.lenW (W := 0) hZ_412 (sw_wordsLen hw) (kI := 4) (wd_2 hw) Ex432 Fv432 Fc432 Av432 (StrChars.Road.codOf rfl (fun c hc => (hl432 c hc).2)) (up255 hl432) (S_cs.ext O_412.2) n_cs hn432 (by decide) (by decide)) e_412 Ex432 (g := (mkF m 113 #[vI p0, vI p1, vI p2, vI p3, vI 3, vR a_412, vI cc, vI 2, vU, vU, vU, vU] [(.ref a_412)])) rfl (by rw [hml]; rfl) (argsL := []) (rest := []) rfl (lenOf pd_10 rfl) rfl (by show 2 * 0 + _ ≤ _; exact Nat.le_of_eq rfl) (hb hby at_113) (by decide) (by decide)
      obtain ⟨rfl, rfl, e_433⟩ := hQ_433
      have N_433 := Fr.app N0 (Fr.nil n0)
      refine Go.step st_433 ?_
      show Go p e below _ (T_433.setTop (mkF m 116 #[vI p0, vI p1, vI p2, vI p3, vI 3, vR a_412, vI cc, vI 2, vU, vU, vU, vU] [(.int (7 : Int32))]))
      refine Go.step (fun _ k => XS.iconst X_433.here hx rfl (hb hby at_116) k) ?_
      show Go p e below _ (T_433.setTop (mkF m 117 #[vI p0, vI p1, vI p2, vI p3, vI 3, vR a_412, vI cc, vI 2, vU, vU, vU, vU] [(.int (1 : Int32)), (.int (7 : Int32))]))
      refine Go.step (fun _ k => XS.isub X_433.here hx rfl (hb hby at_117) rfl k) ?_
      show Go p e below _ (T_433.setTop (mkF m 118 #[vI p0, vI p1, vI p2, vI p3, vI 3, vR a_412, vI cc, vI 2, vU, vU, vU, vU] [(.int ((7 : Int32) - (1 : Int32)))]))
      refine own_top (congrArg Value.int (show ((7 : Int32) - (1 : Int32)) = (6 : Int32) from by decide)) ?_
      show Go p e below _ (T_433.setTop (mkF m 118 #[vI p0, vI p1, vI p2, vI p3, vI 3, vR a_412, vI cc, vI 2, vU, vU, vU, vU] [(.int (6 : Int32))]))
      refine Go.step (fun _ k => XS.goto X_433.here hx rfl (pc0 := 118) (pc' := 142) rfl (hb hby at_118) (by decide) (by decide) k) ?_
      show Go p e below _ (T_433.setTop (mkF m 142 #[vI p0, vI p1, vI p2, vI p3, vI 3, vR a_412, vI cc, vI 2, vU, vU, vU, vU] [(.int (6 : Int32))]))
      refine Go.step (fun _ k => XS.istore X_433.here hx rfl (hb hby at_142) rfl (l' := #[vI p0, vI p1, vI p2, vI p3, vI 3, vR a_412, vI cc, vI 2, vU, vI 6, vU, vU]) rfl k) ?_
      show Go p e below _ (T_433.setTop (mkF m 144 #[vI p0, vI p1, vI p2, vI p3, vI 3, vR a_412, vI cc, vI 2, vU, vI 6, vU, vU] []))
      refine Go.step (fun _ k => XS.iloadN X_433.here hx rfl (hb hby at_144) rfl  k) ?_
      show Go p e below _ (T_433.setTop (mkF m 145 #[vI p0, vI p1, vI p2, vI p3, vI 3, vR a_412, vI cc, vI 2, vU, vI 6, vU, vU] [(.int p2)]))
      refine Go.step (fun _ k => X_433.ldcInt hx hown_412 (mvT hZ_412 (wd_8 hw)) (g := (mkF m 145 #[vI p0, vI p1, vI p2, vI p3, vI 3, vR a_412, vI cc, vI 2, vU, vI 6, vU, vU] [(.int p2)])) rfl (hb hby at_145) _ k) ?_
      show Go p e below _ (T_433.setTop (mkF m 147 #[vI p0, vI p1, vI p2, vI p3, vI 3, vR a_412, vI cc, vI 2, vU, vI 6, vU, vU] [(.int (2147483647 : Int32)), (.int p2)]))
      refine Go.step (fun _ k => XS.iand X_433.here hx rfl (hb hby at_147) rfl k) ?_
      show Go p e below _ (T_433.setTop (mkF m 148 #[vI p0, vI p1, vI p2, vI p3, vI 3, vR a_412, vI cc, vI 2, vU, vI 6, vU, vU] [(.int (p2 &&& (2147483647 : Int32)))]))
      refine Go.step (fun _ k => XS.iload X_433.here hx rfl (hb hby at_148) rfl  k) ?_
      refine Go.step (fun _ k => XS.iconst X_433.here hx rfl (hb hby at_150) k) ?_
      show Go p e below _ (T_433.setTop (mkF m 151 #[vI p0, vI p1, vI p2, vI p3, vI 3, vR a_412, vI cc, vI 2, vU, vI 6, vU, vU] [(.int (2 : Int32)), (.int (2 : Int32)), (.int (p2 &&& (2147483647 : Int32)))]))
      refine Go.step (fun _ k => XS.icmpNo X_433.here hx rfl (hb hby at_151) rfl (teq ((by decide) : (2 : Int32) = (2 : Int32))).2 k) ?_
      show Go p e below _ (T_433.setTop (mkF m 154 #[vI p0, vI p1, vI p2, vI p3, vI 3, vR a_412, vI cc, vI 2, vU, vI 6, vU, vU] [(.int (p2 &&& (2147483647 : Int32)))]))
      refine Go.step (fun _ k => XS.aload X_433.here hx rfl (hb hby at_154) rfl rfl k) ?_
      show Go p e below _ (T_433.setTop (mkF m 156 #[vI p0, vI p1, vI p2, vI p3, vI 3, vR a_412, vI cc, vI 2, vU, vI 6, vU, vU] [(.ref a_412), (.int (p2 &&& (2147483647 : Int32)))]))
      have cp434 := Sx_412
      obtain ⟨t435, kb435, -, -, Ex435, Fv435, Fc435, Av435, hl435, hn435⟩ := cp434
      obtain ⟨v_436, T_436, L_436, X_436, hQ_436, st_436⟩ := goV X_433 hx hZ_412 (y := Y_11) (z := Y_11) (kc := 0) (ks := 0) (QQ := fun v h' L => v = some (.int (7 : Int32)) ∧ L = [] ∧ h' = h_412) hown_412 (wd_9 hw) (wd_10 hw) (notFace_of_selects (args := #[]) (mvT hZ_412 (wd_12 hw))) (wd_12 hw) (wd_11 hw) (by decide) (StrChars.Road.lenW (W := 1) hZ_412 (sw_wordsLen hw) (kI := 4) (wd_2 hw) Ex435 Fv435 Fc435 Av435 (StrChars.Road.codOf rfl (fun c hc => (hl435 c hc).2)) (up255 hl435) (S_cs.ext O_412.2) n_cs hn435 (by decide) (by decide)) e_433 Ex435 (g := (mkF m 156 #[vI p0, vI p1, vI p2, vI p3, vI 3, vR a_412, vI cc, vI 2, vU, vI 6, vU, vU] [(.ref a_412), (.int (p2 &&& (2147483647 : Int32)))])) rfl (by rw [hml]; rfl) (argsL := []) (rest := [(.int (p2 &&& (2147483647 : Int32)))]) rfl (lenOf pd_10 rfl) rfl (by show 2 * 0 + _ ≤ _; exact Nat.le_of_eq rfl) (hb hby at_156) (by decide) (by decide)
      obtain ⟨rfl, rfl, e_436⟩ := hQ_436
      have N_436 := Fr.app N_433 (Fr.nil n0)
      refine Go.step st_436 ?_
      show Go p e below _ (T_436.setTop (mkF m 159 #[vI p0, vI p1, vI p2, vI p3, vI 3, vR a_412, vI cc, vI 2, vU, vI 6, vU, vU] [(.int (7 : Int32)), (.int (p2 &&& (2147483647 : Int32)))]))
      refine Go.step (fun _ k => XS.goto X_436.here hx rfl (pc0 := 159) (pc' := 164) rfl (hb hby at_159) (by decide) (by decide) k) ?_
      show Go p e below _ (T_436.setTop (mkF m 164 #[vI p0, vI p1, vI p2, vI p3, vI 3, vR a_412, vI cc, vI 2, vU, vI 6, vU, vU] [(.int (7 : Int32)), (.int (p2 &&& (2147483647 : Int32)))]))
      refine Go.step (fun _ k => iremM X_436 hx rfl (hb hby at_164) rfl (by decide) k) ?_
      show Go p e below _ (T_436.setTop (mkF m 165 #[vI p0, vI p1, vI p2, vI p3, vI 3, vR a_412, vI cc, vI 2, vU, vI 6, vU, vU] [(.int ((p2 &&& (2147483647 : Int32)) % (7 : Int32)))]))
      refine Go.step (fun _ k => XS.istore X_436.here hx rfl (hb hby at_165) rfl (l' := #[vI p0, vI p1, vI p2, vI p3, vI 3, vR a_412, vI cc, vI 2, vU, vI 6, vI ((p2 &&& (2147483647 : Int32)) % (7 : Int32)), vU]) rfl k) ?_
      show Go p e below _ (T_436.setTop (mkF m 167 #[vI p0, vI p1, vI p2, vI p3, vI 3, vR a_412, vI cc, vI 2, vU, vI 6, vI ((p2 &&& (2147483647 : Int32)) % (7 : Int32)), vU] []))
      obtain ⟨pp, h_pp⟩ : ∃ z, z = ((p2 &&& (2147483647 : Int32)) % (7 : Int32)) := ⟨_, rfl⟩
      rw [← h_pp]
      show Go p e below _ (T_436.setTop (mkF m 167 #[vI p0, vI p1, vI p2, vI p3, vI 3, vR a_412, vI cc, vI 2, vU, vI 6, vI pp, vU] []))
      have h_p : 0 ≤ pp.toInt ∧ pp.toInt < 7 := by rw [h_pp]; exact rem7 _
      show Go p e below _ (T_436.setTop (mkF m 167 #[vI p0, vI p1, vI p2, vI p3, vI 3, vR a_412, vI cc, vI 2, vU, vI 6, vI pp, vU] []))
      refine Go.step (fun _ k => XS.iload X_436.here hx rfl (hb hby at_167) rfl  k) ?_
      show Go p e below _ (T_436.setTop (mkF m 169 #[vI p0, vI p1, vI p2, vI p3, vI 3, vR a_412, vI cc, vI 2, vU, vI 6, vI pp, vU] [(.int (6 : Int32))]))
      obtain ⟨v_437, T_437, L_437, X_437, hQ_437, st_437⟩ := goS X_436 hx hZ_412 (y := Y_12) hown_412 (wd_22 hw) (wd_23 hw) (wd_24 hw) (wd_25 hw) (by decide) (backOf (W := 0) (rm_make6 l Z a0 hw zc vfm va kv ea eb ec ed wa wb wc wd h_412 n0 (Nat.le_trans Z0 KP_412.1) hSt O_412) hZ_412 (wd_25 hw) (wd_24 hw) (by decide) (by decide)) e_436 (g := (mkF m 169 #[vI p0, vI p1, vI p2, vI p3, vI 3, vR a_412, vI cc, vI 2, vU, vI 6, vI pp, vU] [(.int (6 : Int32))])) rfl (by rw [hml]; rfl) (argsL := [(.int (6 : Int32))]) (rest := []) rfl (lenOf pd_11 rfl) rfl (by show 2 * 0 + _ ≤ _; exact Nat.le_of_eq rfl) (hb hby at_169) (by decide) (by decide)
      obtain ⟨r_437, kr_437, rfl, Nq_437, K_437, u0_437, u1_437⟩ := hQ_437
      have N_437 := Fr.app N_436 Nq_437
      have C_437 := CHr.keep K_437 sf0 C_412.1
      have CR_437 := CHr.trans CR_412 C_437
      have le_437 : h_412.size ≤ T_437.heap.size := K_437.1
      have KP_437 := KP_412.trans K_437 all0
      have O_437 := O_412.keep K_437 all0
      have sz_r_437 : h0.size ≤ r_437 := Nat.le_trans le_412 u0_437
      have g_r_437 : n0 ≤ r_437 := Nat.le_trans Z0 sz_r_437
      have Sf_r_437 := Safe.keep K_437 sf0 C_412.1 (Safe.new u0_437)
      refine Go.step st_437 ?_
      show Go p e below _ (T_437.setTop (mkF m 172 #[vI p0, vI p1, vI p2, vI p3, vI 3, vR a_412, vI cc, vI 2, vU, vI 6, vI pp, vU] [(.ref r_437)]))
      refine Go.step (fun _ k => XS.astore X_437.here hx rfl (hb hby at_172) rfl rfl (l' := #[vI p0, vI p1, vI p2, vI p3, vI 3, vR a_412, vI cc, vI 2, vU, vI 6, vI pp, vR r_437]) rfl k) ?_
      show Go p e below _ (T_437.setTop (mkF m 174 #[vI p0, vI p1, vI p2, vI p3, vI 3, vR a_412, vI cc, vI 2, vU, vI 6, vI pp, vR r_437] []))
      have f438 : Str Z h_412.size T_437.heap a_412 ([(101 : Int32), (120 : Int32), (112 : Int32), (105 : Int32), (114 : Int32), (101 : Int32), (100 : Int32)] : List Int32) := (Sx_412.keep K_437 all0)
      refine sg_puts l Z a0 hw zc vfm va kv ea eb ec ed wa wb wc wd (p0) (p1) (p2) (p3) ((3 : Int32)) ((6 : Int32)) (r_437) (kr_437) ((6 : Int32)) (([(0 : Int32), (0 : Int32), (0 : Int32), (0 : Int32), (0 : Int32), (0 : Int32)] : List Int32)) (a_412) (([(101 : Int32), (120 : Int32), (112 : Int32), (105 : Int32), (114 : Int32), (101 : Int32), (100 : Int32)] : List Int32)) ((2 : Int32)) (pp) (cc) (h_412.size) T_437.heap n0 (Nat.le_trans Z0 KP_437.1) u1_437 g_r_437 f438 (Nat.le_trans (Nat.le_refl _) u0_437) rfl (by decide) (by decide) (fun i1 a b => by have a2 : 0 ≤ i1.toInt := Int.not_lt.mp (fun q => a (Int32.lt_iff_toInt_lt.mpr q)); have b2 : i1.toInt < 6 := Int32.lt_iff_toInt_lt.mp b; have hp := h_p; exact ⟨by decide, a2, hp.1, by show _ ≤ ((7 : Nat) : Int); omega, fun q => absurd q (by decide), fun _ => by show _ < ((7 : Nat) : Int); omega, fun _ _ c => absurd rfl c⟩) l_c hSt O_437 hx hby hml hZ_412 hown_412 X_437 rfl N_437 (by decide) (by decide) ?_
      intro T_439 L_439 vs2_439 X_439 hQ_439
      obtain ⟨N_439, K_439, u0_439, u1_439⟩ := hQ_439
      have C_439 := CHr.keep K_439 (sfS (Safe.arv hZ_412.alike u1_437 (by decide)) sf0) C_437.1
      have CR_439 := CHr.trans CR_437 C_439
      have le_439 : T_437.heap.size ≤ T_439.heap.size := K_439.1
      have KP_439 := KP_437.trans K_439 (allS (Or.inr sz_r_437) all0)
      have O_439 := O_437.keep K_439 (allS g_r_437 all0)
      have hv2_439 := u1_439
      show Go p e below _ (T_439.setTop (mkF m 303 #[vI p0, vI p1, vI p2, vI p3, vI 3, vR a_412, vI cc, vI 2, vU, vI 6, vI pp, vR r_437] []))
      have hL_439 : vs2_439.length = 6 := hv2_439.1
      show Go p e below _ (T_439.setTop (mkF m 303 #[vI p0, vI p1, vI p2, vI p3, vI 3, vR a_412, vI cc, vI 2, vU, vI 6, vI pp, vR r_437] []))
      obtain ⟨T_440, h_440, X_440, e_440, E_440, A_440, D_440, Un_440, st_440⟩ := newO X_439 hx hZ_412 hown_412 (wd_55 hw) (wd_2 hw) (wd_1 hw) rfl (g := (mkF m 303 #[vI p0, vI p1, vI p2, vI p3, vI 3, vR a_412, vI cc, vI 2, vU, vI 6, vI pp, vR r_437] [])) rfl (hb hby at_303) (by decide) (by decide)
      obtain ⟨b440, q_440⟩ : ∃ z, z = T_439.heap.size := ⟨_, rfl⟩
      rw [← q_440] at A_440 D_440 Un_440 st_440
      refine Go.step st_440 ?_
      have C_440 := CHr.ext E_440 C_439.1
      have CR_440 := CHr.trans CR_439 C_440
      have le_440 : T_439.heap.size ≤ h_440.size := E_440.1
      have KP_440 := KP_439.ext E_440
      have O_440 := O_439.ext E_440
      have ge_440 : T_439.heap.size ≤ b440 := Nat.le_of_eq q_440.symm
      have sz_b440 : h0.size ≤ b440 := Nat.le_trans (Nat.le_trans le_412 (Nat.le_trans le_437 le_439)) ge_440
      have g_b440 : n0 ≤ b440 := Nat.le_trans Z0 sz_b440
      have F_440_4 : Fld Z h_440 b440 "java/lang/String" "value" "[B" .null := D_440 (Or.inr (wd_4 hw)) (ty := (.array .byte)) pf_0
      have F_440_5 : Fld Z h_440 b440 "java/lang/String" "coder" "B" (.int (0 : Int32)) := D_440 (Or.inr (wd_5 hw)) (ty := .byte) pf_1
      have Sf_b440 := Safe.ext E_440 C_439.1 (Safe.new ge_440)
      show Go p e below _ (T_440.setTop (mkF m 306 #[vI p0, vI p1, vI p2, vI p3, vI 3, vR a_412, vI cc, vI 2, vU, vI 6, vI pp, vR r_437] [(.ref b440)]))
      refine Go.step (fun _ k => XS.dup X_440.here hx rfl (hb hby at_306) rfl rfl k) ?_
      refine Go.step (fun _ k => XS.aload X_440.here hx rfl (hb hby at_307) rfl rfl k) ?_
      show Go p e below _ (T_440.setTop (mkF m 309 #[vI p0, vI p1, vI p2, vI p3, vI 3, vR a_412, vI cc, vI 2, vU, vI 6, vI pp, vR r_437] [(.ref r_437), (.ref b440), (.ref b440)]))
      have f441 : Arv Z h_440 r_437 kr_437 .char (6 : Int32) (vs2_439.map Value.int) (.int (0 : Int32)) := (u0_439.ext E_440)
      obtain ⟨v_442, T_442, L_442, X_442, hQ_442, st_442⟩ := goC X_440 hx hZ_412 (y := Y_13) hown_412 rfl (wd_56 hw) (wd_57 hw) (wd_58 hw) (by decide) (StrChars.Road.backV (W := 1) hZ_412 (sw_words hw) (kI := 4) (wd_2 hw) (cs := vs2_439) (bs := vs2_439.map (fun c => c.toInt8.toInt32)) (n := 6) g_b440 (Nat.le_trans Z0 KP_440.1) A_440 F_440_4 F_440_5 f441 (S_cs.ext O_440.2) n_cs hL_439 rfl (by decide) (by decide) hv2_439.2 rfl (by decide) (by decide)) e_440 (g := (mkF m 309 #[vI p0, vI p1, vI p2, vI p3, vI 3, vR a_412, vI cc, vI 2, vU, vI 6, vI pp, vR r_437] [(.ref r_437), (.ref b440), (.ref b440)])) rfl (by rw [hml]; rfl) (a := b440) (argsL := [(.ref r_437)]) (rest := [(.ref b440)]) rfl (lenOf pd_12 rfl) rfl (by show 2 * 0 + _ ≤ _; exact Nat.le_of_eq rfl) (hb hby at_309) (by decide) (by decide)
      obtain ⟨rfl, Nq_442, K_442, Ex_442, Fc_442, t_442, kb_442, -, gt_442, -, Fv_442, Av_442⟩ := hQ_442
      have N_442 := Fr.app N_439 Nq_442
      have C_442 := CHr.keep K_442 (sfS Sf_b440 sf0) C_440.1
      have CR_442 := CHr.trans CR_440 C_442
      have le_442 : h_440.size ≤ T_442.heap.size := K_442.1
      have KP_442 := KP_440.trans K_442 (allS (Or.inr sz_b440) all0)
      have O_442 := O_440.keep K_442 (allS g_b440 all0)
      have Sx_442 : Str Z (T_442.heap).size (T_442.heap) b440 vs2_439 := ⟨t_442, kb_442, Ex_442.lt, Av_442.lt, Ex_442, Fv_442, Fc_442, by rw [show vs2_439.length = 6 from hL_439]; exact Av_442, hv2_439.2, by rw [show vs2_439.length = 6 from hL_439]; decide⟩
      refine Go.step st_442 ?_
      show Go p e below _ (T_442.setTop (mkF m 312 #[vI p0, vI p1, vI p2, vI p3, vI 3, vR a_412, vI cc, vI 2, vU, vI 6, vI pp, vR r_437] [(.ref b440)]))
      refine Go.step (fun _ k => XS.astore X_442.here hx rfl (hb hby at_312) rfl rfl (l' := #[vI p0, vI p1, vI p2, vI p3, vI 3, vR a_412, vI cc, vI 2, vR b440, vI 6, vI pp, vR r_437]) rfl k) ?_
      show Go p e below _ (T_442.setTop (mkF m 314 #[vI p0, vI p1, vI p2, vI p3, vI 3, vR a_412, vI cc, vI 2, vR b440, vI 6, vI pp, vR r_437] []))
      exact tg_tailS l Z a0 hw zc vfm va kv ea eb ec ed wa wb wc wd ((vI p0)) ((vI p1)) ((vI p2)) ((vI p3)) ((vI 3)) ((vR a_412)) ((vI cc)) ((vI 2)) ((vI 6)) ((vI pp)) ((vR r_437)) (b440) (vs2_439) T_442.heap n0 (Nat.le_trans Z0 KP_442.1) Sx_442 hSt O_442 hx hby hml hret hlk hZ_412 hown_412 X_442 rfl N_442 hS_412 (Nat.le_trans hk_412 (Nat.le_trans le_437 (Nat.le_trans le_439 (Nat.le_trans le_440 le_442)))) C_442.1 CR_442 hh0 (by decide) (by decide)
    · skip
      show Go p e below _ (T_412.setTop (mkF m 58 #[vI p0, vI p1, vI p2, vI p3, vI 3, vR a_412, vI cc, vI 3, vU, vU, vU, vU] []))
      refine Go.step (fun _ k => XS.iload X_412.here hx rfl (hb hby at_58) rfl  k) ?_
      refine Go.step (fun _ k => XS.iconst X_412.here hx rfl (hb hby at_60) k) ?_
      show Go p e below _ (T_412.setTop (mkF m 61 #[vI p0, vI p1, vI p2, vI p3, vI 3, vR a_412, vI cc, vI 3, vU, vU, vU, vU] [(.int (4 : Int32)), (.int (3 : Int32))]))
      refine Go.step (fun _ k => XS.icmpYes X_412.here hx rfl (pc0 := 61) (pc' := 74) rfl (hb hby at_61) rfl (feq ((by decide) : ¬ ((3 : Int32) = (4 : Int32)))).2 (by decide) (by decide) k) ?_
      show Go p e below _ (T_412.setTop (mkF m 74 #[vI p0, vI p1, vI p2, vI p3, vI 3, vR a_412, vI cc, vI 3, vU, vU, vU, vU] []))
      refine Go.step (fun _ k => XS.iload X_412.here hx rfl (hb hby at_74) rfl  k) ?_
      refine Go.step (fun _ k => XS.iconst X_412.here hx rfl (hb hby at_76) k) ?_
      show Go p e below _ (T_412.setTop (mkF m 77 #[vI p0, vI p1, vI p2, vI p3, vI 3, vR a_412, vI cc, vI 3, vU, vU, vU, vU] [(.int (5 : Int32)), (.int (3 : Int32))]))
      refine Go.step (fun _ k => XS.icmpYes X_412.here hx rfl (pc0 := 77) (pc' := 105) rfl (hb hby at_77) rfl (feq ((by decide) : ¬ ((3 : Int32) = (5 : Int32)))).2 (by decide) (by decide) k) ?_
      show Go p e below _ (T_412.setTop (mkF m 105 #[vI p0, vI p1, vI p2, vI p3, vI 3, vR a_412, vI cc, vI 3, vU, vU, vU, vU] []))
      refine Go.step (fun _ k => XS.iload X_412.here hx rfl (hb hby at_105) rfl  k) ?_
      refine Go.step (fun _ k => XS.iconst X_412.here hx rfl (hb hby at_107) k) ?_
      show Go p e below _ (T_412.setTop (mkF m 108 #[vI p0, vI p1, vI p2, vI p3, vI 3, vR a_412, vI cc, vI 3, vU, vU, vU, vU] [(.int (2 : Int32)), (.int (3 : Int32))]))
      refine Go.step (fun _ k => XS.icmpYes X_412.here hx rfl (pc0 := 108) (pc' := 121) rfl (hb hby at_108) rfl (feq ((by decide) : ¬ ((3 : Int32) = (2 : Int32)))).2 (by decide) (by decide) k) ?_
      show Go p e below _ (T_412.setTop (mkF m 121 #[vI p0, vI p1, vI p2, vI p3, vI 3, vR a_412, vI cc, vI 3, vU, vU, vU, vU] []))
      refine Go.step (fun _ k => XS.iload X_412.here hx rfl (hb hby at_121) rfl  k) ?_
      refine Go.step (fun _ k => XS.iconst X_412.here hx rfl (hb hby at_123) k) ?_
      show Go p e below _ (T_412.setTop (mkF m 124 #[vI p0, vI p1, vI p2, vI p3, vI 3, vR a_412, vI cc, vI 3, vU, vU, vU, vU] [(.int (3 : Int32)), (.int (3 : Int32))]))
      refine Go.step (fun _ k => XS.icmpNo X_412.here hx rfl (hb hby at_124) rfl (teq ((by decide) : (3 : Int32) = (3 : Int32))).2 k) ?_
      show Go p e below _ (T_412.setTop (mkF m 127 #[vI p0, vI p1, vI p2, vI p3, vI 3, vR a_412, vI cc, vI 3, vU, vU, vU, vU] []))
      refine Go.step (fun _ k => XS.aload X_412.here hx rfl (hb hby at_127) rfl rfl k) ?_
      show Go p e below _ (T_412.setTop (mkF m 129 #[vI p0, vI p1, vI p2, vI p3, vI 3, vR a_412, vI cc, vI 3, vU, vU, vU, vU] [(.ref a_412)]))
      have cp443 := Sx_412
      obtain ⟨t444, kb444, -, -, Ex444, Fv444, Fc444, Av444, hl444, hn444⟩ := cp443
      obtain ⟨v_445, T_445, L_445, X_445, hQ_445, st_445⟩ := goV X_412 hx hZ_412 (y := Y_11) (z := Y_11) (kc := 0) (ks := 0) (QQ := fun v h' L => v = some (.int (7 : Int32)) ∧ L = [] ∧ h' = h_412) hown_412 (wd_9 hw) (wd_10 hw) (notFace_of_selects (args := #[]) (mvT hZ_412 (wd_12 hw))) (wd_12 hw) (wd_11 hw) (by decide) (StrChars.Road.lenW (W := 0) hZ_412 (sw_wordsLen hw) (kI := 4) (wd_2 hw) Ex444 Fv444 Fc444 Av444 (StrChars.Road.codOf rfl (fun c hc => (hl444 c hc).2)) (up255 hl444) (S_cs.ext O_412.2) n_cs hn444 (by decide) (by decide)) e_412 Ex444 (g := (mkF m 129 #[vI p0, vI p1, vI p2, vI p3, vI 3, vR a_412, vI cc, vI 3, vU, vU, vU, vU] [(.ref a_412)])) rfl (by rw [hml]; rfl) (argsL := []) (rest := []) rfl (lenOf pd_10 rfl) rfl (by show 2 * 0 + _ ≤ _; exact Nat.le_of_eq rfl) (hb hby at_129) (by decide) (by decide)
      obtain ⟨rfl, rfl, e_445⟩ := hQ_445
      have N_445 := Fr.app N0 (Fr.nil n0)
      refine Go.step st_445 ?_
      show Go p e below _ (T_445.setTop (mkF m 132 #[vI p0, vI p1, vI p2, vI p3, vI 3, vR a_412, vI cc, vI 3, vU, vU, vU, vU] [(.int (7 : Int32))]))
      refine Go.step (fun _ k => XS.iconst X_445.here hx rfl (hb hby at_132) k) ?_
      show Go p e below _ (T_445.setTop (mkF m 133 #[vI p0, vI p1, vI p2, vI p3, vI 3, vR a_412, vI cc, vI 3, vU, vU, vU, vU] [(.int (1 : Int32)), (.int (7 : Int32))]))
      refine Go.step (fun _ k => XS.iadd X_445.here hx rfl (hb hby at_133) rfl k) ?_
      show Go p e below _ (T_445.setTop (mkF m 134 #[vI p0, vI p1, vI p2, vI p3, vI 3, vR a_412, vI cc, vI 3, vU, vU, vU, vU] [(.int ((7 : Int32) + (1 : Int32)))]))
      refine own_top (congrArg Value.int (show ((7 : Int32) + (1 : Int32)) = (8 : Int32) from by decide)) ?_
      show Go p e below _ (T_445.setTop (mkF m 134 #[vI p0, vI p1, vI p2, vI p3, vI 3, vR a_412, vI cc, vI 3, vU, vU, vU, vU] [(.int (8 : Int32))]))
      refine Go.step (fun _ k => XS.goto X_445.here hx rfl (pc0 := 134) (pc' := 142) rfl (hb hby at_134) (by decide) (by decide) k) ?_
      show Go p e below _ (T_445.setTop (mkF m 142 #[vI p0, vI p1, vI p2, vI p3, vI 3, vR a_412, vI cc, vI 3, vU, vU, vU, vU] [(.int (8 : Int32))]))
      refine Go.step (fun _ k => XS.istore X_445.here hx rfl (hb hby at_142) rfl (l' := #[vI p0, vI p1, vI p2, vI p3, vI 3, vR a_412, vI cc, vI 3, vU, vI 8, vU, vU]) rfl k) ?_
      show Go p e below _ (T_445.setTop (mkF m 144 #[vI p0, vI p1, vI p2, vI p3, vI 3, vR a_412, vI cc, vI 3, vU, vI 8, vU, vU] []))
      refine Go.step (fun _ k => XS.iloadN X_445.here hx rfl (hb hby at_144) rfl  k) ?_
      show Go p e below _ (T_445.setTop (mkF m 145 #[vI p0, vI p1, vI p2, vI p3, vI 3, vR a_412, vI cc, vI 3, vU, vI 8, vU, vU] [(.int p2)]))
      refine Go.step (fun _ k => X_445.ldcInt hx hown_412 (mvT hZ_412 (wd_8 hw)) (g := (mkF m 145 #[vI p0, vI p1, vI p2, vI p3, vI 3, vR a_412, vI cc, vI 3, vU, vI 8, vU, vU] [(.int p2)])) rfl (hb hby at_145) _ k) ?_
      show Go p e below _ (T_445.setTop (mkF m 147 #[vI p0, vI p1, vI p2, vI p3, vI 3, vR a_412, vI cc, vI 3, vU, vI 8, vU, vU] [(.int (2147483647 : Int32)), (.int p2)]))
      refine Go.step (fun _ k => XS.iand X_445.here hx rfl (hb hby at_147) rfl k) ?_
      show Go p e below _ (T_445.setTop (mkF m 148 #[vI p0, vI p1, vI p2, vI p3, vI 3, vR a_412, vI cc, vI 3, vU, vI 8, vU, vU] [(.int (p2 &&& (2147483647 : Int32)))]))
      refine Go.step (fun _ k => XS.iload X_445.here hx rfl (hb hby at_148) rfl  k) ?_
      refine Go.step (fun _ k => XS.iconst X_445.here hx rfl (hb hby at_150) k) ?_
      show Go p e below _ (T_445.setTop (mkF m 151 #[vI p0, vI p1, vI p2, vI p3, vI 3, vR a_412, vI cc, vI 3, vU, vI 8, vU, vU] [(.int (2 : Int32)), (.int (3 : Int32)), (.int (p2 &&& (2147483647 : Int32)))]))
      refine Go.step (fun _ k => XS.icmpYes X_445.here hx rfl (pc0 := 151) (pc' := 162) rfl (hb hby at_151) rfl (feq ((by decide) : ¬ ((3 : Int32) = (2 : Int32)))).2 (by decide) (by decide) k) ?_
      show Go p e below _ (T_445.setTop (mkF m 162 #[vI p0, vI p1, vI p2, vI p3, vI 3, vR a_412, vI cc, vI 3, vU, vI 8, vU, vU] [(.int (p2 &&& (2147483647 : Int32)))]))
      refine Go.step (fun _ k => XS.iload X_445.here hx rfl (hb hby at_162) rfl  k) ?_
      show Go p e below _ (T_445.setTop (mkF m 164 #[vI p0, vI p1, vI p2, vI p3, vI 3, vR a_412, vI cc, vI 3, vU, vI 8, vU, vU] [(.int (8 : Int32)), (.int (p2 &&& (2147483647 : Int32)))]))
      refine Go.step (fun _ k => iremM X_445 hx rfl (hb hby at_164) rfl (by decide) k) ?_
      show Go p e below _ (T_445.setTop (mkF m 165 #[vI p0, vI p1, vI p2, vI p3, vI 3, vR a_412, vI cc, vI 3, vU, vI 8, vU, vU] [(.int ((p2 &&& (2147483647 : Int32)) % (8 : Int32)))]))
      refine Go.step (fun _ k => XS.istore X_445.here hx rfl (hb hby at_165) rfl (l' := #[vI p0, vI p1, vI p2, vI p3, vI 3, vR a_412, vI cc, vI 3, vU, vI 8, vI ((p2 &&& (2147483647 : Int32)) % (8 : Int32)), vU]) rfl k) ?_
      show Go p e below _ (T_445.setTop (mkF m 167 #[vI p0, vI p1, vI p2, vI p3, vI 3, vR a_412, vI cc, vI 3, vU, vI 8, vI ((p2 &&& (2147483647 : Int32)) % (8 : Int32)), vU] []))
      obtain ⟨pp, h_pp⟩ : ∃ z, z = ((p2 &&& (2147483647 : Int32)) % (8 : Int32)) := ⟨_, rfl⟩
      rw [← h_pp]
      show Go p e below _ (T_445.setTop (mkF m 167 #[vI p0, vI p1, vI p2, vI p3, vI 3, vR a_412, vI cc, vI 3, vU, vI 8, vI pp, vU] []))
      have h_p : 0 ≤ pp.toInt ∧ pp.toInt < 8 := by rw [h_pp]; exact rem8 _
      show Go p e below _ (T_445.setTop (mkF m 167 #[vI p0, vI p1, vI p2, vI p3, vI 3, vR a_412, vI cc, vI 3, vU, vI 8, vI pp, vU] []))
      refine Go.step (fun _ k => XS.iload X_445.here hx rfl (hb hby at_167) rfl  k) ?_
      show Go p e below _ (T_445.setTop (mkF m 169 #[vI p0, vI p1, vI p2, vI p3, vI 3, vR a_412, vI cc, vI 3, vU, vI 8, vI pp, vU] [(.int (8 : Int32))]))
      obtain ⟨v_446, T_446, L_446, X_446, hQ_446, st_446⟩ := goS X_445 hx hZ_412 (y := Y_12) hown_412 (wd_22 hw) (wd_23 hw) (wd_24 hw) (wd_25 hw) (by decide) (backOf (W := 0) (rm_make8 l Z a0 hw zc vfm va kv ea eb ec ed wa wb wc wd h_412 n0 (Nat.le_trans Z0 KP_412.1) hSt O_412) hZ_412 (wd_25 hw) (wd_24 hw) (by decide) (by decide)) e_445 (g := (mkF m 169 #[vI p0, vI p1, vI p2, vI p3, vI 3, vR a_412, vI cc, vI 3, vU, vI 8, vI pp, vU] [(.int (8 : Int32))])) rfl (by rw [hml]; rfl) (argsL := [(.int (8 : Int32))]) (rest := []) rfl (lenOf pd_11 rfl) rfl (by show 2 * 0 + _ ≤ _; exact Nat.le_of_eq rfl) (hb hby at_169) (by decide) (by decide)
      obtain ⟨r_446, kr_446, rfl, Nq_446, K_446, u0_446, u1_446⟩ := hQ_446
      have N_446 := Fr.app N_445 Nq_446
      have C_446 := CHr.keep K_446 sf0 C_412.1
      have CR_446 := CHr.trans CR_412 C_446
      have le_446 : h_412.size ≤ T_446.heap.size := K_446.1
      have KP_446 := KP_412.trans K_446 all0
      have O_446 := O_412.keep K_446 all0
      have sz_r_446 : h0.size ≤ r_446 := Nat.le_trans le_412 u0_446
      have g_r_446 : n0 ≤ r_446 := Nat.le_trans Z0 sz_r_446
      have Sf_r_446 := Safe.keep K_446 sf0 C_412.1 (Safe.new u0_446)
      refine Go.step st_446 ?_
      show Go p e below _ (T_446.setTop (mkF m 172 #[vI p0, vI p1, vI p2, vI p3, vI 3, vR a_412, vI cc, vI 3, vU, vI 8, vI pp, vU] [(.ref r_446)]))
      refine Go.step (fun _ k => XS.astore X_446.here hx rfl (hb hby at_172) rfl rfl (l' := #[vI p0, vI p1, vI p2, vI p3, vI 3, vR a_412, vI cc, vI 3, vU, vI 8, vI pp, vR r_446]) rfl k) ?_
      show Go p e below _ (T_446.setTop (mkF m 174 #[vI p0, vI p1, vI p2, vI p3, vI 3, vR a_412, vI cc, vI 3, vU, vI 8, vI pp, vR r_446] []))
      have f447 : Str Z h_412.size T_446.heap a_412 ([(101 : Int32), (120 : Int32), (112 : Int32), (105 : Int32), (114 : Int32), (101 : Int32), (100 : Int32)] : List Int32) := (Sx_412.keep K_446 all0)
      refine sg_puts l Z a0 hw zc vfm va kv ea eb ec ed wa wb wc wd (p0) (p1) (p2) (p3) ((3 : Int32)) ((8 : Int32)) (r_446) (kr_446) ((8 : Int32)) (([(0 : Int32), (0 : Int32), (0 : Int32), (0 : Int32), (0 : Int32), (0 : Int32), (0 : Int32), (0 : Int32)] : List Int32)) (a_412) (([(101 : Int32), (120 : Int32), (112 : Int32), (105 : Int32), (114 : Int32), (101 : Int32), (100 : Int32)] : List Int32)) ((3 : Int32)) (pp) (cc) (h_412.size) T_446.heap n0 (Nat.le_trans Z0 KP_446.1) u1_446 g_r_446 f447 (Nat.le_trans (Nat.le_refl _) u0_446) rfl (by decide) (by decide) (fun i1 a b => by have a2 : 0 ≤ i1.toInt := Int.not_lt.mp (fun q => a (Int32.lt_iff_toInt_lt.mpr q)); have b2 : i1.toInt < 8 := Int32.lt_iff_toInt_lt.mp b; have hp := h_p; exact ⟨by decide, a2, hp.1, by show _ ≤ ((7 : Nat) : Int); omega, fun q => absurd q (by decide), fun q => absurd q (by decide), fun _ _ _ => by show _ ≤ ((7 : Nat) : Int); omega⟩) l_c hSt O_446 hx hby hml hZ_412 hown_412 X_446 rfl N_446 (by decide) (by decide) ?_
      intro T_448 L_448 vs2_448 X_448 hQ_448
      obtain ⟨N_448, K_448, u0_448, u1_448⟩ := hQ_448
      have C_448 := CHr.keep K_448 (sfS (Safe.arv hZ_412.alike u1_446 (by decide)) sf0) C_446.1
      have CR_448 := CHr.trans CR_446 C_448
      have le_448 : T_446.heap.size ≤ T_448.heap.size := K_448.1
      have KP_448 := KP_446.trans K_448 (allS (Or.inr sz_r_446) all0)
      have O_448 := O_446.keep K_448 (allS g_r_446 all0)
      have hv2_448 := u1_448
      show Go p e below _ (T_448.setTop (mkF m 303 #[vI p0, vI p1, vI p2, vI p3, vI 3, vR a_412, vI cc, vI 3, vU, vI 8, vI pp, vR r_446] []))
      have hL_448 : vs2_448.length = 8 := hv2_448.1
      show Go p e below _ (T_448.setTop (mkF m 303 #[vI p0, vI p1, vI p2, vI p3, vI 3, vR a_412, vI cc, vI 3, vU, vI 8, vI pp, vR r_446] []))
      obtain ⟨T_449, h_449, X_449, e_449, E_449, A_449, D_449, Un_449, st_449⟩ := newO X_448 hx hZ_412 hown_412 (wd_55 hw) (wd_2 hw) (wd_1 hw) rfl (g := (mkF m 303 #[vI p0, vI p1, vI p2, vI p3, vI 3, vR a_412, vI cc, vI 3, vU, vI 8, vI pp, vR r_446] [])) rfl (hb hby at_303) (by decide) (by decide)
      obtain ⟨b449, q_449⟩ : ∃ z, z = T_448.heap.size := ⟨_, rfl⟩
      rw [← q_449] at A_449 D_449 Un_449 st_449
      refine Go.step st_449 ?_
      have C_449 := CHr.ext E_449 C_448.1
      have CR_449 := CHr.trans CR_448 C_449
      have le_449 : T_448.heap.size ≤ h_449.size := E_449.1
      have KP_449 := KP_448.ext E_449
      have O_449 := O_448.ext E_449
      have ge_449 : T_448.heap.size ≤ b449 := Nat.le_of_eq q_449.symm
      have sz_b449 : h0.size ≤ b449 := Nat.le_trans (Nat.le_trans le_412 (Nat.le_trans le_446 le_448)) ge_449
      have g_b449 : n0 ≤ b449 := Nat.le_trans Z0 sz_b449
      have F_449_4 : Fld Z h_449 b449 "java/lang/String" "value" "[B" .null := D_449 (Or.inr (wd_4 hw)) (ty := (.array .byte)) pf_0
      have F_449_5 : Fld Z h_449 b449 "java/lang/String" "coder" "B" (.int (0 : Int32)) := D_449 (Or.inr (wd_5 hw)) (ty := .byte) pf_1
      have Sf_b449 := Safe.ext E_449 C_448.1 (Safe.new ge_449)
      show Go p e below _ (T_449.setTop (mkF m 306 #[vI p0, vI p1, vI p2, vI p3, vI 3, vR a_412, vI cc, vI 3, vU, vI 8, vI pp, vR r_446] [(.ref b449)]))
      refine Go.step (fun _ k => XS.dup X_449.here hx rfl (hb hby at_306) rfl rfl k) ?_
      refine Go.step (fun _ k => XS.aload X_449.here hx rfl (hb hby at_307) rfl rfl k) ?_
      show Go p e below _ (T_449.setTop (mkF m 309 #[vI p0, vI p1, vI p2, vI p3, vI 3, vR a_412, vI cc, vI 3, vU, vI 8, vI pp, vR r_446] [(.ref r_446), (.ref b449), (.ref b449)]))
      have f450 : Arv Z h_449 r_446 kr_446 .char (8 : Int32) (vs2_448.map Value.int) (.int (0 : Int32)) := (u0_448.ext E_449)
      obtain ⟨v_451, T_451, L_451, X_451, hQ_451, st_451⟩ := goC X_449 hx hZ_412 (y := Y_13) hown_412 rfl (wd_56 hw) (wd_57 hw) (wd_58 hw) (by decide) (StrChars.Road.backV (W := 1) hZ_412 (sw_words hw) (kI := 4) (wd_2 hw) (cs := vs2_448) (bs := vs2_448.map (fun c => c.toInt8.toInt32)) (n := 8) g_b449 (Nat.le_trans Z0 KP_449.1) A_449 F_449_4 F_449_5 f450 (S_cs.ext O_449.2) n_cs hL_448 rfl (by decide) (by decide) hv2_448.2 rfl (by decide) (by decide)) e_449 (g := (mkF m 309 #[vI p0, vI p1, vI p2, vI p3, vI 3, vR a_412, vI cc, vI 3, vU, vI 8, vI pp, vR r_446] [(.ref r_446), (.ref b449), (.ref b449)])) rfl (by rw [hml]; rfl) (a := b449) (argsL := [(.ref r_446)]) (rest := [(.ref b449)]) rfl (lenOf pd_12 rfl) rfl (by show 2 * 0 + _ ≤ _; exact Nat.le_of_eq rfl) (hb hby at_309) (by decide) (by decide)
      obtain ⟨rfl, Nq_451, K_451, Ex_451, Fc_451, t_451, kb_451, -, gt_451, -, Fv_451, Av_451⟩ := hQ_451
      have N_451 := Fr.app N_448 Nq_451
      have C_451 := CHr.keep K_451 (sfS Sf_b449 sf0) C_449.1
      have CR_451 := CHr.trans CR_449 C_451
      have le_451 : h_449.size ≤ T_451.heap.size := K_451.1
      have KP_451 := KP_449.trans K_451 (allS (Or.inr sz_b449) all0)
      have O_451 := O_449.keep K_451 (allS g_b449 all0)
      have Sx_451 : Str Z (T_451.heap).size (T_451.heap) b449 vs2_448 := ⟨t_451, kb_451, Ex_451.lt, Av_451.lt, Ex_451, Fv_451, Fc_451, by rw [show vs2_448.length = 8 from hL_448]; exact Av_451, hv2_448.2, by rw [show vs2_448.length = 8 from hL_448]; decide⟩
      refine Go.step st_451 ?_
      show Go p e below _ (T_451.setTop (mkF m 312 #[vI p0, vI p1, vI p2, vI p3, vI 3, vR a_412, vI cc, vI 3, vU, vI 8, vI pp, vR r_446] [(.ref b449)]))
      refine Go.step (fun _ k => XS.astore X_451.here hx rfl (hb hby at_312) rfl rfl (l' := #[vI p0, vI p1, vI p2, vI p3, vI 3, vR a_412, vI cc, vI 3, vR b449, vI 8, vI pp, vR r_446]) rfl k) ?_
      show Go p e below _ (T_451.setTop (mkF m 314 #[vI p0, vI p1, vI p2, vI p3, vI 3, vR a_412, vI cc, vI 3, vR b449, vI 8, vI pp, vR r_446] []))
      exact tg_tailS l Z a0 hw zc vfm va kv ea eb ec ed wa wb wc wd ((vI p0)) ((vI p1)) ((vI p2)) ((vI p3)) ((vI 3)) ((vR a_412)) ((vI cc)) ((vI 3)) ((vI 8)) ((vI pp)) ((vR r_446)) (b449) (vs2_448) T_451.heap n0 (Nat.le_trans Z0 KP_451.1) Sx_451 hSt O_451 hx hby hml hret hlk hZ_412 hown_412 X_451 rfl N_451 hS_412 (Nat.le_trans hk_412 (Nat.le_trans le_446 (Nat.le_trans le_448 (Nat.le_trans le_449 le_451)))) C_451.1 CR_451 hh0 (by decide) (by decide)
    · skip
      show Go p e below _ (T_412.setTop (mkF m 58 #[vI p0, vI p1, vI p2, vI p3, vI 3, vR a_412, vI cc, vI 4, vU, vU, vU, vU] []))
      refine Go.step (fun _ k => XS.iload X_412.here hx rfl (hb hby at_58) rfl  k) ?_
      refine Go.step (fun _ k => XS.iconst X_412.here hx rfl (hb hby at_60) k) ?_
      show Go p e below _ (T_412.setTop (mkF m 61 #[vI p0, vI p1, vI p2, vI p3, vI 3, vR a_412, vI cc, vI 4, vU, vU, vU, vU] [(.int (4 : Int32)), (.int (4 : Int32))]))
      refine Go.step (fun _ k => XS.icmpNo X_412.here hx rfl (hb hby at_61) rfl (teq ((by decide) : (4 : Int32) = (4 : Int32))).2 k) ?_
      show Go p e below _ (T_412.setTop (mkF m 64 #[vI p0, vI p1, vI p2, vI p3, vI 3, vR a_412, vI cc, vI 4, vU, vU, vU, vU] []))
      refine Go.step (fun _ k => XS.iload X_412.here hx rfl (hb hby at_64) rfl  k) ?_
      show Go p e below _ (T_412.setTop (mkF m 66 #[vI p0, vI p1, vI p2, vI p3, vI 3, vR a_412, vI cc, vI 4, vU, vU, vU, vU] [(.int cc)]))
      obtain ⟨v_452, T_452, L_452, X_452, hQ_452, st_452⟩ := goS X_412 hx hZ_412 (y := Y_14) hown_412 (wd_117 hw) (wd_118 hw) (wd_1 hw) (wd_119 hw) (by decide) (backOf (W := 0) (rm_valueOf l Z a0 hw zc vfm va kv ea eb ec ed wa wb wc wd (cc) h_412 n0 (Nat.le_trans Z0 KP_412.1) l_c hSt O_412) hZ_412 (wd_119 hw) (wd_1 hw) (by decide) (by decide)) e_412 (g := (mkF m 66 #[vI p0, vI p1, vI p2, vI p3, vI 3, vR a_412, vI cc, vI 4, vU, vU, vU, vU] [(.int cc)])) rfl (by rw [hml]; rfl) (argsL := [(.int cc)]) (rest := []) rfl (lenOf pd_13 rfl) rfl (by show 2 * 0 + _ ≤ _; exact Nat.le_of_eq rfl) (hb hby at_66) (by decide) (by decide)
      obtain ⟨r_452, rfl, Nq_452, K_452, u0_452, u1_452⟩ := hQ_452
      have N_452 := Fr.app N0 Nq_452
      have C_452 := CHr.keep K_452 sf0 C_412.1
      have CR_452 := CHr.trans CR_412 C_452
      have le_452 : h_412.size ≤ T_452.heap.size := K_452.1
      have KP_452 := KP_412.trans K_452 all0
      have O_452 := O_412.keep K_452 all0
      have sz_r_452 : h0.size ≤ r_452 := Nat.le_trans le_412 u0_452
      have g_r_452 : n0 ≤ r_452 := Nat.le_trans Z0 sz_r_452
      have Sf_r_452 := Safe.keep K_452 sf0 C_412.1 (Safe.new u0_452)
      refine Go.step st_452 ?_
      show Go p e below _ (T_452.setTop (mkF m 69 #[vI p0, vI p1, vI p2, vI p3, vI 3, vR a_412, vI cc, vI 4, vU, vU, vU, vU] [(.ref r_452)]))
      refine Go.step (fun _ k => XS.astore X_452.here hx rfl (hb hby at_69) rfl rfl (l' := #[vI p0, vI p1, vI p2, vI p3, vI 3, vR a_412, vI cc, vI 4, vR r_452, vU, vU, vU]) rfl k) ?_
      show Go p e below _ (T_452.setTop (mkF m 71 #[vI p0, vI p1, vI p2, vI p3, vI 3, vR a_412, vI cc, vI 4, vR r_452, vU, vU, vU] []))
      refine Go.step (fun _ k => XS.goto X_452.here hx rfl (pc0 := 71) (pc' := 314) rfl (hb hby at_71) (by decide) (by decide) k) ?_
      show Go p e below _ (T_452.setTop (mkF m 314 #[vI p0, vI p1, vI p2, vI p3, vI 3, vR a_412, vI cc, vI 4, vR r_452, vU, vU, vU] []))
      exact tg_tailS l Z a0 hw zc vfm va kv ea eb ec ed wa wb wc wd ((vI p0)) ((vI p1)) ((vI p2)) ((vI p3)) ((vI 3)) ((vR a_412)) ((vI cc)) ((vI 4)) ((vU)) ((vU)) ((vU)) (r_452) (([cc] : List Int32)) T_452.heap n0 (Nat.le_trans Z0 KP_452.1) u1_452 hSt O_452 hx hby hml hret hlk hZ_412 hown_412 X_452 rfl N_452 hS_412 (Nat.le_trans hk_412 le_452) C_452.1 CR_452 hh0 (by decide) (by decide)
    · skip
      show Go p e below _ (T_412.setTop (mkF m 58 #[vI p0, vI p1, vI p2, vI p3, vI 3, vR a_412, vI cc, vI 5, vU, vU, vU, vU] []))
      refine Go.step (fun _ k => XS.iload X_412.here hx rfl (hb hby at_58) rfl  k) ?_
      refine Go.step (fun _ k => XS.iconst X_412.here hx rfl (hb hby at_60) k) ?_
      show Go p e below _ (T_412.setTop (mkF m 61 #[vI p0, vI p1, vI p2, vI p3, vI 3, vR a_412, vI cc, vI 5, vU, vU, vU, vU] [(.int (4 : Int32)), (.int (5 : Int32))]))
      refine Go.step (fun _ k => XS.icmpYes X_412.here hx rfl (pc0 := 61) (pc' := 74) rfl (hb hby at_61) rfl (feq ((by decide) : ¬ ((5 : Int32) = (4 : Int32)))).2 (by decide) (by decide) k) ?_
      show Go p e below _ (T_412.setTop (mkF m 74 #[vI p0, vI p1, vI p2, vI p3, vI 3, vR a_412, vI cc, vI 5, vU, vU, vU, vU] []))
      refine Go.step (fun _ k => XS.iload X_412.here hx rfl (hb hby at_74) rfl  k) ?_
      refine Go.step (fun _ k => XS.iconst X_412.here hx rfl (hb hby at_76) k) ?_
      show Go p e below _ (T_412.setTop (mkF m 77 #[vI p0, vI p1, vI p2, vI p3, vI 3, vR a_412, vI cc, vI 5, vU, vU, vU, vU] [(.int (5 : Int32)), (.int (5 : Int32))]))
      refine Go.step (fun _ k => XS.icmpNo X_412.here hx rfl (hb hby at_77) rfl (teq ((by decide) : (5 : Int32) = (5 : Int32))).2 k) ?_
      show Go p e below _ (T_412.setTop (mkF m 80 #[vI p0, vI p1, vI p2, vI p3, vI 3, vR a_412, vI cc, vI 5, vU, vU, vU, vU] []))
      refine Go.step (fun _ k => XS.iloadN X_412.here hx rfl (hb hby at_80) rfl  k) ?_
      refine Go.step (fun _ k => XS.iconst X_412.here hx rfl (hb hby at_81) k) ?_
      show Go p e below _ (T_412.setTop (mkF m 82 #[vI p0, vI p1, vI p2, vI p3, vI 3, vR a_412, vI cc, vI 5, vU, vU, vU, vU] [(.int (1 : Int32)), (.int p2)]))
      refine Go.step (fun _ k => XS.iand X_412.here hx rfl (hb hby at_82) rfl k) ?_
      show Go p e below _ (T_412.setTop (mkF m 83 #[vI p0, vI p1, vI p2, vI p3, vI 3, vR a_412, vI cc, vI 5, vU, vU, vU, vU] [(.int (p2 &&& (1 : Int32)))]))
      by_cases hp0 : (p2 &&& (1 : Int32)) = (0 : Int32)
      · skip
        refine Go.step (fun _ k => XS.ifNo X_412.here hx rfl (hb hby at_83) rfl ((if0 _ _).trans (teq hp0).2) k) ?_
        show Go p e below _ (T_412.setTop (mkF m 86 #[vI p0, vI p1, vI p2, vI p3, vI 3, vR a_412, vI cc, vI 5, vU, vU, vU, vU] []))
        refine Go.step (fun _ k => XS.aconstNull X_412.here hx rfl (hb hby at_86) k) ?_
        show Go p e below _ (T_412.setTop (mkF m 87 #[vI p0, vI p1, vI p2, vI p3, vI 3, vR a_412, vI cc, vI 5, vU, vU, vU, vU] [.null]))
        refine Go.step (fun _ k => XS.goto X_412.here hx rfl (pc0 := 87) (pc' := 100) rfl (hb hby at_87) (by decide) (by decide) k) ?_
        show Go p e below _ (T_412.setTop (mkF m 100 #[vI p0, vI p1, vI p2, vI p3, vI 3, vR a_412, vI cc, vI 5, vU, vU, vU, vU] [.null]))
        refine Go.step (fun _ k => XS.astore X_412.here hx rfl (hb hby at_100) rfl rfl (l' := #[vI p0, vI p1, vI p2, vI p3, vI 3, vR a_412, vI cc, vI 5, .val .null, vU, vU, vU]) rfl k) ?_
        show Go p e below _ (T_412.setTop (mkF m 102 #[vI p0, vI p1, vI p2, vI p3, vI 3, vR a_412, vI cc, vI 5, .val .null, vU, vU, vU] []))
        refine Go.step (fun _ k => XS.goto X_412.here hx rfl (pc0 := 102) (pc' := 314) rfl (hb hby at_102) (by decide) (by decide) k) ?_
        show Go p e below _ (T_412.setTop (mkF m 314 #[vI p0, vI p1, vI p2, vI p3, vI 3, vR a_412, vI cc, vI 5, .val .null, vU, vU, vU] []))
        exact tg_tailN l Z a0 hw zc vfm va kv ea eb ec ed wa wb wc wd ((vI p0)) ((vI p1)) ((vI p2)) ((vI p3)) ((vI 3)) ((vR a_412)) ((vI cc)) ((vI 5)) ((vU)) ((vU)) ((vU)) h_412 n0 (Nat.le_trans Z0 KP_412.1) hSt O_412 hx hby hml hret hlk hZ_412 hown_412 X_412 e_412 N0 hS_412 hk_412 C_412.1 CR_412 hh0 (by decide) (by decide)
      · skip
        refine Go.step (fun _ k => XS.ifYes X_412.here hx rfl (pc0 := 83) (pc' := 90) rfl (hb hby at_83) rfl ((if0 _ _).trans (feq hp0).2) (by decide) (by decide) k) ?_
        show Go p e below _ (T_412.setTop (mkF m 90 #[vI p0, vI p1, vI p2, vI p3, vI 3, vR a_412, vI cc, vI 5, vU, vU, vU, vU] []))
        obtain ⟨T_453, h_453, X_453, e_453, E_453, A_453, D_453, Un_453, st_453⟩ := newO X_412 hx hZ_412 hown_412 (wd_55 hw) (wd_2 hw) (wd_1 hw) e_412 (g := (mkF m 90 #[vI p0, vI p1, vI p2, vI p3, vI 3, vR a_412, vI cc, vI 5, vU, vU, vU, vU] [])) rfl (hb hby at_90) (by decide) (by decide)
        obtain ⟨b453, q_453⟩ : ∃ z, z = h_412.size := ⟨_, rfl⟩
        rw [← q_453] at A_453 D_453 Un_453 st_453
        refine Go.step st_453 ?_
        have C_453 := CHr.ext E_453 C_412.1
        have CR_453 := CHr.trans CR_412 C_453
        have le_453 : h_412.size ≤ h_453.size := E_453.1
        have KP_453 := KP_412.ext E_453
        have O_453 := O_412.ext E_453
        have ge_453 : h_412.size ≤ b453 := Nat.le_of_eq q_453.symm
        have sz_b453 : h0.size ≤ b453 := Nat.le_trans le_412 ge_453
        have g_b453 : n0 ≤ b453 := Nat.le_trans Z0 sz_b453
        have F_453_4 : Fld Z h_453 b453 "java/lang/String" "value" "[B" .null := D_453 (Or.inr (wd_4 hw)) (ty := (.array .byte)) pf_0
        have F_453_5 : Fld Z h_453 b453 "java/lang/String" "coder" "B" (.int (0 : Int32)) := D_453 (Or.inr (wd_5 hw)) (ty := .byte) pf_1
        have Sf_b453 := Safe.ext E_453 C_412.1 (Safe.new ge_453)
        show Go p e below _ (T_453.setTop (mkF m 93 #[vI p0, vI p1, vI p2, vI p3, vI 3, vR a_412, vI cc, vI 5, vU, vU, vU, vU] [(.ref b453)]))
        refine Go.step (fun _ k => XS.dup X_453.here hx rfl (hb hby at_93) rfl rfl k) ?_
        refine Go.step (fun _ k => XS.iconst X_453.here hx rfl (hb hby at_94) k) ?_
        show Go p e below _ (T_453.setTop (mkF m 95 #[vI p0, vI p1, vI p2, vI p3, vI 3, vR a_412, vI cc, vI 5, vU, vU, vU, vU] [(.int (0 : Int32)), (.ref b453), (.ref b453)]))
        obtain ⟨T_454, h_454, k_454, X_454, e_454, E_454, A_454, st_454⟩ := newP X_453 hx hZ_412 (aty := .char) (wd_26 hw) e_453 (g := (mkF m 95 #[vI p0, vI p1, vI p2, vI p3, vI 3, vR a_412, vI cc, vI 5, vU, vU, vU, vU] [(.int (0 : Int32)), (.ref b453), (.ref b453)])) rfl (hb hby at_95) rfl (by decide) (cap := 0) (by decide) (by decide) (by decide) (by decide)
        obtain ⟨b454, q_454⟩ : ∃ z, z = h_453.size := ⟨_, rfl⟩
        rw [← q_454] at A_454 st_454
        refine Go.step st_454 ?_
        have C_454 := CHr.ext E_454 C_453.1
        have CR_454 := CHr.trans CR_453 C_454
        have le_454 : h_453.size ≤ h_454.size := E_454.1
        have KP_454 := KP_453.ext E_454
        have O_454 := O_453.ext E_454
        have ge_454 : h_453.size ≤ b454 := Nat.le_of_eq q_454.symm
        have sz_b454 : h0.size ≤ b454 := Nat.le_trans (Nat.le_trans le_412 le_453) ge_454
        have g_b454 : n0 ≤ b454 := Nat.le_trans Z0 sz_b454
        have V_454 : Arv Z h_454 b454 k_454 .char (0 : Int32) [] (.int (0 : Int32)) := Arv.new A_454 (by decide)
        have Sf_b454 := Safe.ext E_454 C_453.1 (Safe.new ge_454)
        show Go p e below _ (T_454.setTop (mkF m 97 #[vI p0, vI p1, vI p2, vI p3, vI 3, vR a_412, vI cc, vI 5, vU, vU, vU, vU] [(.ref b454), (.ref b453), (.ref b453)]))
        have f455 : Exa Z h_454 b453 "java/lang/String" := (A_453.ext E_454)
        have f456 : Fld Z h_454 b453 "java/lang/String" "value" "[B" .null := (F_453_4.ext E_454)
        have f457 : Fld Z h_454 b453 "java/lang/String" "coder" "B" (.int (0 : Int32)) := (F_453_5.ext E_454)
        obtain ⟨v_458, T_458, L_458, X_458, hQ_458, hS_458, hZ_458, hown_458, C_458, st_458⟩ := goCW X_454 hx hZ_412 (y := Y_13) hown_412 hS_412 (Nat.le_trans hk_412 (Nat.le_trans le_453 le_454)) rfl (wd_56 hw) (wd_57 hw) (wd_58 hw) (by decide) (backOfSH (W := 1) (rm_init1e l Z a0 hw zc vfm va kv ea eb ec ed wa wb wc wd (b453) (b454) (k_454) h_454 n0 (Nat.le_trans Z0 KP_454.1) f455 f456 f457 g_b453 V_454 hSt O_454) hZ_412 (wd_58 hw) (wd_1 hw) (by decide) (by decide) hEL C_454.1) e_454 (g := (mkF m 97 #[vI p0, vI p1, vI p2, vI p3, vI 3, vR a_412, vI cc, vI 5, vU, vU, vU, vU] [(.ref b454), (.ref b453), (.ref b453)])) rfl (by rw [hml]; rfl) (a := b453) (argsL := [(.ref b454)]) (rest := [(.ref b453)]) rfl (lenOf pd_12 rfl) rfl (by show 2 * 0 + _ ≤ _; exact Nat.le_of_eq rfl) (hb hby at_97) (by decide) (by decide)
        obtain ⟨rfl, Nq_458, K_458, u0_458⟩ := hQ_458
        have N_458 := Fr.app N0 Nq_458
        have CR_458 := CHr.trans CR_454 C_458
        have le_458 : h_454.size ≤ T_458.heap.size := K_458.1
        have KP_458 := KP_454.trans K_458 (allS (Or.inr sz_b453) all0)
        have O_458 := O_454.keep K_458 (allS g_b453 all0)
        refine Go.step st_458 ?_
        show Go p e below _ (T_458.setTop (mkF m 100 #[vI p0, vI p1, vI p2, vI p3, vI 3, vR a_412, vI cc, vI 5, vU, vU, vU, vU] [(.ref b453)]))
        refine Go.step (fun _ k => XS.astore X_458.here hx rfl (hb hby at_100) rfl rfl (l' := #[vI p0, vI p1, vI p2, vI p3, vI 3, vR a_412, vI cc, vI 5, vR b453, vU, vU, vU]) rfl k) ?_
        show Go p e below _ (T_458.setTop (mkF m 102 #[vI p0, vI p1, vI p2, vI p3, vI 3, vR a_412, vI cc, vI 5, vR b453, vU, vU, vU] []))
        refine Go.step (fun _ k => XS.goto X_458.here hx rfl (pc0 := 102) (pc' := 314) rfl (hb hby at_102) (by decide) (by decide) k) ?_
        show Go p e below _ (T_458.setTop (mkF m 314 #[vI p0, vI p1, vI p2, vI p3, vI 3, vR a_412, vI cc, vI 5, vR b453, vU, vU, vU] []))
        exact tg_tailS l Z a0 hw zc vfm va kv ea eb ec ed wa wb wc wd ((vI p0)) ((vI p1)) ((vI p2)) ((vI p3)) ((vI 3)) ((vR a_412)) ((vI cc)) ((vI 5)) ((vU)) ((vU)) ((vU)) (b453) (([] : List Int32)) T_458.heap n0 (Nat.le_trans Z0 KP_458.1) u0_458 hSt O_458 hx hby hml hret hlk hZ_458 hown_458 X_458 rfl N_458 hS_458 (Nat.le_refl _) C_458.1 CR_458 hh0 (by decide) (by decide)
--@E
set_option maxRecDepth 65536 in
set_option maxHeartbeats 40000000 in
theorem comes_1 {Post : Tables → Env → Array Value → State → Outcome → State → Prop} (hpost : ∀ tb e args s v u, (limb_1_1.after args s (.returned v) u = true ∧ limb_1_2.after args s (.returned v) u = true ∧ True) → ReturnedEndW s (.returned v) u (Jvm.fieldLocs frame_1_writes args s ++ Jvm.arrayLocs frame_1_arrays args s ++ Jvm.staticLocs frame_1_statics s) 32 5312 → Post tb e args s (.returned v) u) :
    ArmFor flags0 classFile x code maxLocals ret World_1 tables_1 room_1 Calls_1 rest_1 Pre_1 Post := by
  intro l hfl _ _ p e ha hc hk s m args below hf hA hF happ hP
  obtain ⟨hcalls, hrest, hpre⟩ := hP
  obtain ⟨-, -, -, hnamed, -, -, -, hat⟩ := (Spec.applies_iff hf).mp happ
  obtain ⟨hg, hn⟩ := and_e (Cond.before_iff.mp (show (Jvm.Cond.and given_1 narrow_1).before args s = true from hpre))
  obtain ⟨g_c, g_0⟩ := and_e hg
  obtain ⟨ga_0, g_1⟩ := and_e g_0
  obtain ⟨ga_1, g_2⟩ := and_e g_1
  obtain ⟨ga_2, g_3⟩ := and_e g_2
  have ga_3 := g_3
  obtain ⟨w0, w1, w2, w3, rfl⟩ : ∃ w0 w1 w2 w3 : Value, args = #[w0, w1, w2, w3] := by
    have hs : args.size = 4 := by simpa [Cond.value, given_1] using g_c
    obtain ⟨L⟩ := args
    match L, hs with
    | [w0, w1, w2, w3], _ => exact ⟨w0, w1, w2, w3, rfl⟩
  have hw := fun d (hd : d ∈ tables_1) => atoms_spec (ws := Jvm.Cond.code x code maxLocals ret :: tables_1) hat d (List.mem_cons_of_mem _ hd)
  obtain ⟨hsets, hown0⟩ := atoms_of _ (rest_1_c_eq ▸ (show rest_1_c.before _ s = true from hrest))
  obtain ⟨i0, ei0⟩ := is_v ga_0
  obtain rfl : w0 = (.int i0) := Option.some.inj ei0
  obtain ⟨i1, ei1⟩ := is_v ga_1
  obtain rfl : w1 = (.int i1) := Option.some.inj ei1
  obtain ⟨i2, ei2⟩ := is_v ga_2
  obtain rfl : w2 = (.int i2) := Option.some.inj ei2
  obtain ⟨i3, ei3⟩ := is_v ga_3
  obtain rfl : w3 = (.int i3) := Option.some.inj ei3
  have hs := fun (k : Nat) (d : Jvm.Cond) (h : jdkStatics_1[k]? = some d) => Cond.before_iff.mp (hsets d (List.mem_of_getElem? h))
  obtain ⟨zc, ezc⟩ := is_v (hs 1 _ rfl)
  have S_cs : Sta s s.heap "java/lang/String" "COMPACT_STRINGS" "Z" (.int zc) := Sta.start ezc (Or.inl (hsets _ (List.mem_of_getElem? (i := 0) rfl)))
  have n_cs : ¬ (zc = (0 : Int32)) := gotF (Cond.eq_ints ezc (Term.int_eval (0))) (not_v (hs 2 _ rfl))
  obtain ⟨vfm, v_fm, r_fm⟩ := isR_v (hs 8 _ rfl)
  have S_fm : Sta s s.heap "jdk/internal/util/Preconditions" "SIOOBE_FORMATTER" "Ljava/util/function/BiFunction;" vfm := Sta.start v_fm (Or.inl (hsets _ (List.mem_of_getElem? (i := 7) rfl)))
  obtain ⟨na_0, nb_0⟩ := and_e hn
  obtain ⟨na_1, nb_1⟩ := and_e nb_0
  obtain ⟨na_2, nb_2⟩ := and_e nb_1
  obtain ⟨na_3, nb_3⟩ := and_e nb_2
  obtain ⟨na_4, nb_4⟩ := and_e nb_3
  obtain ⟨na_5, nb_5⟩ := and_e nb_4
  obtain ⟨na_6, nb_6⟩ := and_e nb_5
  obtain ⟨na_7, nb_7⟩ := and_e nb_6
  obtain ⟨na_8, nb_8⟩ := and_e nb_7
  obtain ⟨na_9, nb_9⟩ := and_e nb_8
  obtain ⟨na_10, nb_10⟩ := and_e nb_9
  obtain ⟨na_11, nb_11⟩ := and_e nb_10
  obtain ⟨na_12, nb_12⟩ := and_e nb_11
  obtain ⟨na_13, nb_13⟩ := and_e nb_12
  obtain ⟨na_14, nb_14⟩ := and_e nb_13
  obtain ⟨na_15, nb_15⟩ := and_e nb_14
  obtain ⟨na_16, nb_16⟩ := and_e nb_15
  obtain ⟨na_17, nb_17⟩ := and_e nb_16
  obtain ⟨na_18, nb_18⟩ := and_e nb_17
  obtain ⟨na_19, nb_19⟩ := and_e nb_18
  obtain ⟨na_20, nb_20⟩ := and_e nb_19
  obtain ⟨na_21, nb_21⟩ := and_e nb_20
  obtain ⟨na_22, nb_22⟩ := and_e nb_21
  obtain ⟨na_23, nb_23⟩ := and_e nb_22
  obtain ⟨na_24, nb_24⟩ := and_e nb_23
  obtain ⟨na_25, nb_25⟩ := and_e nb_24
  obtain ⟨na_26, nb_26⟩ := and_e nb_25
  obtain ⟨na_27, nb_27⟩ := and_e nb_26
  obtain ⟨na_28, nb_28⟩ := and_e nb_27
  obtain ⟨na_29, nb_29⟩ := and_e nb_28
  obtain ⟨na_30, nb_30⟩ := and_e nb_29
  obtain ⟨na_31, nb_31⟩ := and_e nb_30
  obtain ⟨na_32, nb_32⟩ := and_e nb_31
  obtain ⟨na_33, nb_33⟩ := and_e nb_32
  obtain ⟨na_34, nb_34⟩ := and_e nb_33
  obtain ⟨na_35, nb_35⟩ := and_e nb_34
  obtain ⟨na_36, nb_36⟩ := and_e nb_35
  obtain ⟨na_37, nb_37⟩ := and_e nb_36
  obtain ⟨na_38, nb_38⟩ := and_e nb_37
  obtain ⟨na_39, nb_39⟩ := and_e nb_38
  obtain ⟨na_40, nb_40⟩ := and_e nb_39
  obtain ⟨na_41, nb_41⟩ := and_e nb_40
  obtain ⟨na_42, nb_42⟩ := and_e nb_41
  obtain ⟨na_43, nb_43⟩ := and_e nb_42
  obtain ⟨na_44, nb_44⟩ := and_e nb_43
  obtain ⟨na_45, nb_45⟩ := and_e nb_44
  obtain ⟨na_46, nb_46⟩ := and_e nb_45
  obtain ⟨na_47, nb_47⟩ := and_e nb_46
  obtain ⟨na_48, nb_48⟩ := and_e nb_47
  obtain ⟨na_49, nb_49⟩ := and_e nb_48
  obtain ⟨na_50, nb_50⟩ := and_e nb_49
  obtain ⟨na_51, nb_51⟩ := and_e nb_50
  obtain ⟨na_52, nb_52⟩ := and_e nb_51
  obtain ⟨na_53, nb_53⟩ := and_e nb_52
  have na_54 := nb_53
  have hfit : Fit s := own_fit hF
  obtain ⟨va, S_va, E_va, v_va⟩ := sta_obj (Or.inr ⟨(wd_78 hw), (wd_84 hw)⟩) na_1
  obtain ⟨ea, S_ea, E_ea, v_ea⟩ := sta_obj (Or.inr ⟨(wd_78 hw), (wd_92 hw)⟩) na_3
  obtain ⟨wa, v_wa⟩ := exa_v na_11
  have F_ea : Fld s s.heap ea "com/example/patient_ledger/patientledger/HoldStatus" "wireName" "Ljava/lang/String;" (.ref wa) := Fld.start (by rw [← fld_at v_ea]; exact v_wa)
  have S_wa : Str s s.heap.size s.heap wa ([(112 : Int32), (101 : Int32), (110 : Int32), (100 : Int32), (105 : Int32), (110 : Int32), (103 : Int32)] : List Int32) := str_start hfit v_wa na_11 na_12 na_13 na_14 (by decide) rfl rfl (by decide) (by decide) (fun b cl eb A => ⟨el_i na_27 eb A (by decide), el_i na_28 eb A (by decide), el_i na_29 eb A (by decide), el_i na_30 eb A (by decide), el_i na_31 eb A (by decide), el_i na_32 eb A (by decide), el_i na_33 eb A (by decide), trivial⟩)
  obtain ⟨eb, S_eb, E_eb, v_eb⟩ := sta_obj (Or.inr ⟨(wd_78 hw), (wd_93 hw)⟩) na_5
  obtain ⟨wb, v_wb⟩ := exa_v na_15
  have F_eb : Fld s s.heap eb "com/example/patient_ledger/patientledger/HoldStatus" "wireName" "Ljava/lang/String;" (.ref wb) := Fld.start (by rw [← fld_at v_eb]; exact v_wb)
  have S_wb : Str s s.heap.size s.heap wb ([(99 : Int32), (97 : Int32), (112 : Int32), (116 : Int32), (117 : Int32), (114 : Int32), (101 : Int32), (100 : Int32)] : List Int32) := str_start hfit v_wb na_15 na_16 na_17 na_18 (by decide) rfl rfl (by decide) (by decide) (fun b cl eb A => ⟨el_i na_34 eb A (by decide), el_i na_35 eb A (by decide), el_i na_36 eb A (by decide), el_i na_37 eb A (by decide), el_i na_38 eb A (by decide), el_i na_39 eb A (by decide), el_i na_40 eb A (by decide), el_i na_41 eb A (by decide), trivial⟩)
  obtain ⟨ec, S_ec, E_ec, v_ec⟩ := sta_obj (Or.inr ⟨(wd_78 hw), (wd_94 hw)⟩) na_7
  obtain ⟨wc, v_wc⟩ := exa_v na_19
  have F_ec : Fld s s.heap ec "com/example/patient_ledger/patientledger/HoldStatus" "wireName" "Ljava/lang/String;" (.ref wc) := Fld.start (by rw [← fld_at v_ec]; exact v_wc)
  have S_wc : Str s s.heap.size s.heap wc ([(118 : Int32), (111 : Int32), (105 : Int32), (100 : Int32), (101 : Int32), (100 : Int32)] : List Int32) := str_start hfit v_wc na_19 na_20 na_21 na_22 (by decide) rfl rfl (by decide) (by decide) (fun b cl eb A => ⟨el_i na_42 eb A (by decide), el_i na_43 eb A (by decide), el_i na_44 eb A (by decide), el_i na_45 eb A (by decide), el_i na_46 eb A (by decide), el_i na_47 eb A (by decide), trivial⟩)
  obtain ⟨ed, S_ed, E_ed, v_ed⟩ := sta_obj (Or.inr ⟨(wd_78 hw), (wd_95 hw)⟩) na_9
  obtain ⟨wd, v_wd⟩ := exa_v na_23
  have F_ed : Fld s s.heap ed "com/example/patient_ledger/patientledger/HoldStatus" "wireName" "Ljava/lang/String;" (.ref wd) := Fld.start (by rw [← fld_at v_ed]; exact v_wd)
  have S_wd : Str s s.heap.size s.heap wd ([(101 : Int32), (120 : Int32), (112 : Int32), (105 : Int32), (114 : Int32), (101 : Int32), (100 : Int32)] : List Int32) := str_start hfit v_wd na_23 na_24 na_25 na_26 (by decide) rfl rfl (by decide) (by decide) (fun b cl eb A => ⟨el_i na_48 eb A (by decide), el_i na_49 eb A (by decide), el_i na_50 eb A (by decide), el_i na_51 eb A (by decide), el_i na_52 eb A (by decide), el_i na_53 eb A (by decide), el_i na_54 eb A (by decide), trivial⟩)
  obtain ⟨kv, A_va⟩ := arv_start (vs := [(.ref ea), (.ref eb), (.ref ec), (.ref ed)]) (dv := .null) hfit v_va na_0 na_2 (by decide) rfl (fun cl A => ⟨el_r na_4 v_ea v_va A (by decide), el_r na_6 v_eb v_va A (by decide), el_r na_8 v_ec v_va A (by decide), el_r na_10 v_ed v_va A (by decide), trivial⟩)
  have hSt : St s zc vfm va kv ea eb ec ed wa wb wc wd := ⟨S_cs, n_cs, S_fm, r_fm, S_va, E_va, A_va, S_ea, F_ea, S_wa, S_eb, F_eb, S_wb, S_ec, F_ec, S_wc, S_ed, F_ed, S_wd⟩
  have hCV : CHv s EL s.vm s.heap := CHv.start (hEL_ hw) hcalls.1 (hsets _ (List.mem_of_getElem? (i := 2) rfl)) (wd_3 hw) (wd_2 hw)
  obtain ⟨n, o, h1, h2, h3, _, L, rfl, ⟨rfl, N⟩, -, hq⟩ := rm_law l s _ hw zc vfm va kv ea eb ec ed wa wb wc wd i0 i1 i2 i3 s.heap s.heap.size (Nat.le_refl _) hSt (Old.start s) p e ha hc hk s m _ below hf ((Spec.applies_iff_loose hf).mp happ).1 ⟨rfl, State.Warmed39.refl s, rfl, hCV⟩ trivial
  refine ⟨n, _, h1, h2, h3, hpost _ _ _ _ _ _ ⟨Cond.after_iff.mpr rfl, Cond.after_iff.mpr (eq_i res_at (Term.int_eval (1)) rfl), trivial⟩ ⟨hq.1, hq.2.1, hq.2.2.1, (hq.2.2.2.sift fun y hy => Or.inr (N y hy)).mono (by decide) (by decide)⟩⟩
theorem main_1_1 : Claimed_1_1 := comes_1 fun _ _ _ _ _ _ h hF => ⟨h.1, hF⟩
theorem main_1_2 : Claimed_1_2 := comes_1 fun _ _ _ _ _ _ h hF => ⟨h.2.1, hF⟩
end Jvm.Pilot.@@N@@
namespace Jvm.Pilot.@@N@@
open Jvm Jvm.ClassFile Sem Op Lib Jvm.Free Jvm.Stand Jvm.Pilot.@@N@@.Jvm.D
/-! MADE BY PROGRAM (witnessworld.py) out of the Statement's table words and the real class files: 22 classes; the members and pool entries that the words name. The judged class is class 1, her method 1. -/
namespace start1
open Jvm.ClassFile
def u (s : String) : CpInfo := .utf8 (stringToUtf16 s)
/-- a pool by its gaps: so many unusable entries, then the entry; so many at the end -/
def gap : Nat → List CpInfo → List CpInfo
  | 0, r => r
  | n + 1, r => .unusable :: gap n r
def poolList (es : List (Nat × CpInfo)) (last : Nat) : List CpInfo := es.foldr (fun e r => gap e.1 (e.2 :: r)) (gap last [])
def pool (es : List (Nat × CpInfo)) (last : Nat) : Array CpInfo := ⟨poolList es last⟩
def fileOf (pool : Array CpInfo) (this : Nat) (attrs : Array Attribute := #[]) (ms : Array MethodInfo := #[]) (fl : Nat := 33) (sup : Nat := 0) (ifs : Array Nat := #[]) (fds : Array FieldInfo := #[]) : ClassFile where
  minorVersion := 0
  majorVersion := 65
  constantPool := pool
  accessFlags := fl
  thisClass := this
  superClass := sup
  interfaces := ifs
  fields := fds
  methods := ms
  attributes := attrs
def plain (name : String) (sup : Option ClassId) : Class where
  name := name
  kind := .ordinary
  loader := none
  accessFlags := 33
  super := sup
  interfaces := #[]
  cf := none
  fields := #[]
  methods := #[]
  instanceTypes := #[]
  staticTypes := #[]
  resolved := #[]
  callSites := []
  init := .initialized
  statics := none
  mirror := none

def pool0 : Array CpInfo := pool [(5, u "<init>"), (0, u "()V"), (1, .class_ 10), (1, u "java/lang/Object"), (85, u "clone"), (0, u "()Ljava/lang/Object;")] 26

def k0c0 : Code := { maxStack := 0, maxLocals := 1, code := object_method_1_code, exceptionTable := #[], attributes := #[] }
def k0m0 : Method := { name := "<init>", desc := "()V", sig := { parameters := [], returnType := none }, accessFlags := 1, code := some k0c0 }
def k0m1 : Method := { name := "clone", desc := "()Ljava/lang/Object;", sig := { parameters := [], returnType := some (.object "java/lang/Object") }, accessFlags := 260, code := none }
/-- java/lang/Object -/
def k0 : Class := { plain "java/lang/Object" none with
  accessFlags := 33
  interfaces := #[]
  cf := some (fileOf pool0 8 #[] #[{ accessFlags := 1, nameIndex := 5, descriptorIndex := 6, attributes := #[] }, { accessFlags := 260, nameIndex := 96, descriptorIndex := 97, attributes := #[] }] 33 0 #[] #[])
  fields := #[]
  methods := #[k0m0, k0m1]
  instanceTypes := #[]
  staticTypes := #[]
  resolved := Array.replicate 124 none
  statics := none }

def pool1 : Array CpInfo := pool [(2, .class_ 4), (1, u "java/lang/Object"), (0, u "<init>"), (0, u "()V"), (0, .string 8), (0, u "pending"), (0, .string 10), (0, u "captured"), (0, .string 12), (0, u "voided"), (0, .string 14), (0, u "expired"), (0, .integer 2147483647), (0, .methodref 17 18), (0, .class_ 19), (0, .nameAndType 20 21), (0, u "java/lang/String"), (0, u "valueOf"), (0, u "(C)Ljava/lang/String;"), (0, .methodref 17 23), (0, .nameAndType 5 24), (0, u "([C)V"), (0, .methodref 17 26), (0, .nameAndType 27 28), (0, u "length"), (0, u "()I"), (0, .methodref 30 31), (0, .class_ 32), (0, .nameAndType 33 34), (0, u "com/example/patient_ledger/patientledger/HoldStatusFromWireNamePinLaw"), (0, u "make"), (0, u "(I)[C"), (0, .methodref 30 36), (0, .nameAndType 37 38), (0, u "put"), (0, u "([CILjava/lang/String;IIC)V"), (0, .methodref 40 41), (0, .class_ 42), (0, .nameAndType 43 44), (0, u "com/example/patient_ledger/patientledger/HoldStatus"), (0, u "fromWireName"), (0, u "(Ljava/lang/String;)Lcom/example/patient_ledger/patientledger/HoldStatus;"), (0, .methodref 30 46), (0, .nameAndType 47 44), (0, u "expected"), (0, .methodref 17 49), (0, .nameAndType 50 51), (0, u "equals"), (0, u "(Ljava/lang/Object;)Z"), (0, .fieldref 40 53), (0, .nameAndType 54 55), (0, u "PENDING"), (0, u "Lcom/example/patient_ledger/patientledger/HoldStatus;"), (0, .fieldref 40 57), (0, .nameAndType 58 55), (0, u "CAPTURED"), (0, .fieldref 40 60), (0, .nameAndType 61 55), (0, u "VOIDED"), (0, .fieldref 40 63), (0, .nameAndType 64 55), (0, u "EXPIRED"), (0, .methodref 30 66), (0, .nameAndType 67 68), (0, u "at"), (0, u "(Ljava/lang/String;IICI)C"), (0, .methodref 17 70), (0, .nameAndType 71 72), (0, u "charAt"), (0, u "(I)C"), (2, u "law"), (0, u "(IIII)Z")] 3

def k1m0 : Method := { name := "<init>", desc := "()V", sig := { parameters := [], returnType := none }, accessFlags := 1, code := none }
def k1c1 : Code := { maxStack := 6, maxLocals := 12, code := code, exceptionTable := #[], attributes := #[] }
def k1m1 : Method := { name := "law", desc := "(IIII)Z", sig := { parameters := [.int, .int, .int, .int], returnType := some .boolean }, accessFlags := 9, code := some k1c1 }
def k1c2 : Code := { maxStack := 2, maxLocals := 1, code := method_3_code, exceptionTable := #[], attributes := #[] }
def k1m2 : Method := { name := "expected", desc := "(Ljava/lang/String;)Lcom/example/patient_ledger/patientledger/HoldStatus;", sig := { parameters := [(.object "java/lang/String")], returnType := some (.object "com/example/patient_ledger/patientledger/HoldStatus") }, accessFlags := 10, code := some k1c2 }
def k1c3 : Code := { maxStack := 2, maxLocals := 1, code := method_4_code, exceptionTable := #[], attributes := #[] }
def k1m3 : Method := { name := "make", desc := "(I)[C", sig := { parameters := [.int], returnType := some (.array .char) }, accessFlags := 10, code := some k1c3 }
def k1c4 : Code := { maxStack := 7, maxLocals := 6, code := method_5_code, exceptionTable := #[], attributes := #[] }
def k1m4 : Method := { name := "put", desc := "([CILjava/lang/String;IIC)V", sig := { parameters := [(.array .char), .int, (.object "java/lang/String"), .int, .int, .char], returnType := none }, accessFlags := 10, code := some k1c4 }
def k1c5 : Code := { maxStack := 3, maxLocals := 5, code := method_6_code, exceptionTable := #[], attributes := #[] }
def k1m5 : Method := { name := "at", desc := "(Ljava/lang/String;IICI)C", sig := { parameters := [(.object "java/lang/String"), .int, .int, .char, .int], returnType := some .char }, accessFlags := 10, code := some k1c5 }
/-- com/example/patient_ledger/patientledger/HoldStatusFromWireNamePinLaw -/
def k1 : Class := { plain "com/example/patient_ledger/patientledger/HoldStatusFromWireNamePinLaw" (some 0) with
  accessFlags := 49
  interfaces := #[]
  cf := some (fileOf pool1 30 #[] #[{ accessFlags := 1, nameIndex := 5, descriptorIndex := 6, attributes := #[] }, { accessFlags := 9, nameIndex := 75, descriptorIndex := 76, attributes := #[] }, { accessFlags := 10, nameIndex := 47, descriptorIndex := 44, attributes := #[] }, { accessFlags := 10, nameIndex := 33, descriptorIndex := 34, attributes := #[] }, { accessFlags := 10, nameIndex := 37, descriptorIndex := 38, attributes := #[] }, { accessFlags := 10, nameIndex := 67, descriptorIndex := 68, attributes := #[] }] 49 2 #[] #[])
  fields := #[]
  methods := #[k1m0, k1m1, k1m2, k1m3, k1m4, k1m5]
  instanceTypes := #[]
  staticTypes := #[]
  resolved := Array.replicate 80 none
  statics := none }

def pool2 : Array CpInfo := pool [(1, .class_ 2), (0, u "java/io/Serializable"), (0, .class_ 4), (0, u "java/lang/Object")] 2

/-- java/io/Serializable -/
def k2 : Class := { plain "java/io/Serializable" (some 0) with
  accessFlags := 1537
  interfaces := #[]
  cf := some (fileOf pool2 1 #[] #[] 1537 3 #[] #[])
  fields := #[]
  methods := #[]
  instanceTypes := #[]
  staticTypes := #[]
  resolved := Array.replicate 7 none
  statics := none }

def pool3 : Array CpInfo := pool [(1, .class_ 2), (0, u "java/lang/Comparable"), (0, .class_ 4), (0, u "java/lang/Object")] 7

/-- java/lang/Comparable -/
def k3 : Class := { plain "java/lang/Comparable" (some 0) with
  accessFlags := 1537
  interfaces := #[]
  cf := some (fileOf pool3 1 #[] #[] 1537 3 #[] #[])
  fields := #[]
  methods := #[]
  instanceTypes := #[]
  staticTypes := #[]
  resolved := Array.replicate 12 none
  statics := none }

def pool4 : Array CpInfo := pool [(2, .class_ 4), (1, u "java/lang/CharSequence"), (42, .class_ 48), (0, u "java/lang/CharSequence$1CodePointIterator"), (10, .class_ 60), (0, u "java/lang/CharSequence$1CharIterator"), (5, .class_ 67), (0, u "java/lang/Object")] 63

/-- java/lang/CharSequence -/
def k4 : Class := { plain "java/lang/CharSequence" (some 0) with
  accessFlags := 1537
  interfaces := #[]
  cf := some (fileOf pool4 2 #[.nestMembers #[47, 59]] #[] 1537 66 #[] #[])
  fields := #[]
  methods := #[]
  instanceTypes := #[]
  staticTypes := #[]
  resolved := Array.replicate 131 none
  statics := none }

def pool5 : Array CpInfo := pool [(1, .class_ 2), (0, u "java/lang/constant/Constable"), (0, .class_ 4), (0, u "java/lang/Object")] 6

/-- java/lang/constant/Constable -/
def k5 : Class := { plain "java/lang/constant/Constable" (some 0) with
  accessFlags := 1537
  interfaces := #[]
  cf := some (fileOf pool5 1 #[] #[] 1537 3 #[] #[])
  fields := #[]
  methods := #[]
  instanceTypes := #[]
  staticTypes := #[]
  resolved := Array.replicate 11 none
  statics := none }

def pool6 : Array CpInfo := pool [(1, .class_ 2), (0, u "java/lang/constant/ConstantDesc"), (0, .class_ 4), (0, u "java/lang/Object")] 32

/-- java/lang/constant/ConstantDesc -/
def k6 : Class := { plain "java/lang/constant/ConstantDesc" (some 0) with
  accessFlags := 1537
  interfaces := #[]
  cf := some (fileOf pool6 1 #[] #[] 1537 3 #[] #[])
  fields := #[]
  methods := #[]
  instanceTypes := #[]
  staticTypes := #[]
  resolved := Array.replicate 37 none
  statics := none }

def pool7 : Array CpInfo := pool [(1, .methodref 2 3), (0, .class_ 4), (0, .nameAndType 5 6), (0, u "java/lang/Object"), (0, u "<init>"), (0, u "()V"), (0, .string 8), (0, u ""), (0, .fieldref 10 11), (0, .class_ 12), (0, .nameAndType 13 14), (0, u "java/lang/String"), (0, u "value"), (0, u "[B"), (0, .fieldref 10 16), (0, .nameAndType 17 18), (0, u "coder"), (0, u "B"), (2, u "hash"), (0, u "I"), (2, u "hashIsZero"), (0, u "Z"), (0, .methodref 10 28), (0, .nameAndType 5 29), (0, u "([CIILjava/lang/Void;)V"), (8, .fieldref 10 39), (0, .nameAndType 40 26), (0, u "COMPACT_STRINGS"), (1, .class_ 44), (1, u "java/lang/StringUTF16"), (0, u "compress"), (1, .methodref 42 48), (0, .nameAndType 49 50), (0, u "coderFromArrayLen"), (0, u "([BI)B"), (2, u "toBytes"), (53, .class_ 109), (1, u "java/lang/StringLatin1"), (32, u "()Z"), (34, .methodref 42 178), (0, .nameAndType 45 179), (0, u "([CII)[B"), (29, .methodref 10 210), (0, .nameAndType 5 211), (0, u "([BB)V"), (122, u "()I"), (0, .methodref 10 336), (0, .nameAndType 17 337), (0, u "()B"), (25, u "([BI)C"), (5, u "(C)Z"), (21, u "(II)V"), (35, u "(I)C"), (64, .methodref 10 493), (0, .nameAndType 494 142), (0, u "isLatin1"), (0, .methodref 107 496), (0, .nameAndType 497 363), (0, u "charAt"), (3, u "checkIndex"), (5, u "length"), (33, .methodref 107 542), (0, .nameAndType 543 544), (0, u "equals"), (0, u "([B[B)Z"), (28, u "(Ljava/lang/Object;)Z"), (1, .class_ 576), (0, u "java/lang/CharSequence"), (22, u "CASE_INSENSITIVE_ORDER"), (0, u "Ljava/util/Comparator;"), (181, u "valueOf"), (0, u "(C)Ljava/lang/String;"), (226, u "([C)V"), (4, .methodref 107 1016), (0, .nameAndType 1017 369), (0, u "canEncode"), (0, .methodref 107 1019), (0, .nameAndType 53 1020), (0, u "(C)[B"), (32, .fieldref 1054 1055), (0, .class_ 1056), (0, .nameAndType 1057 1058), (0, u "jdk/internal/util/Preconditions"), (0, u "SIOOBE_FORMATTER"), (0, u "Ljava/util/function/BiFunction;"), (0, .methodref 1054 1060), (0, .nameAndType 501 1061), (0, u "(IILjava/util/function/BiFunction;)I"), (39, u "serialPersistentFields"), (0, u "[Ljava/io/ObjectStreamField;"), (0, .class_ 1104), (0, u "java/lang/String$CaseInsensitiveComparator"), (1, .class_ 1107), (0, u "java/io/Serializable"), (0, .class_ 1109), (0, u "java/lang/Comparable"), (0, .class_ 1111), (0, u "java/lang/constant/Constable"), (0, .class_ 1113), (0, u "java/lang/constant/ConstantDesc"), (2, u "serialVersionUID"), (0, u "J"), (3, u "REPL"), (0, u "C"), (2, u "LATIN1"), (1, u "UTF16")] 323

def k7m0 : Method := { name := "<init>", desc := "()V", sig := { parameters := [], returnType := none }, accessFlags := 1, code := none }
def k7c1 : Code := { maxStack := 5, maxLocals := 2, code := jdk_42_method_3_code, exceptionTable := #[], attributes := #[] }
def k7m1 : Method := { name := "<init>", desc := "([C)V", sig := { parameters := [(.array .char)], returnType := none }, accessFlags := 1, code := some k7c1 }
def k7c2 : Code := { maxStack := 2, maxLocals := 1, code := jdk_42_method_54_code, exceptionTable := #[], attributes := #[] }
def k7m2 : Method := { name := "length", desc := "()I", sig := { parameters := [], returnType := some .int }, accessFlags := 1, code := some k7c2 }
def k7c3 : Code := { maxStack := 2, maxLocals := 2, code := jdk_42_method_56_code, exceptionTable := #[], attributes := #[] }
def k7m3 : Method := { name := "charAt", desc := "(I)C", sig := { parameters := [.int], returnType := some .char }, accessFlags := 1, code := some k7c3 }
def k7c4 : Code := { maxStack := 2, maxLocals := 3, code := jdk_42_method_66_code, exceptionTable := #[], attributes := #[] }
def k7m4 : Method := { name := "equals", desc := "(Ljava/lang/Object;)Z", sig := { parameters := [(.object "java/lang/Object")], returnType := some .boolean }, accessFlags := 1, code := some k7c4 }
def k7c5 : Code := { maxStack := 4, maxLocals := 1, code := jdk_42_method_139_code, exceptionTable := #[], attributes := #[] }
def k7m5 : Method := { name := "valueOf", desc := "(C)Ljava/lang/String;", sig := { parameters := [.char], returnType := some (.object "java/lang/String") }, accessFlags := 9, code := some k7c5 }
def k7c6 : Code := { maxStack := 4, maxLocals := 6, code := jdk_42_method_149_code, exceptionTable := #[], attributes := #[] }
def k7m6 : Method := { name := "<init>", desc := "([CIILjava/lang/Void;)V", sig := { parameters := [(.array .char), .int, .int, (.object "java/lang/Void")], returnType := none }, accessFlags := 2, code := some k7c6 }
def k7c7 : Code := { maxStack := 2, maxLocals := 3, code := jdk_42_method_151_code, exceptionTable := #[], attributes := #[] }
def k7m7 : Method := { name := "<init>", desc := "([BB)V", sig := { parameters := [(.array .byte), .byte], returnType := none }, accessFlags := 0, code := some k7c7 }
def k7c8 : Code := { maxStack := 1, maxLocals := 1, code := jdk_42_method_152_code, exceptionTable := #[], attributes := #[] }
def k7m8 : Method := { name := "coder", desc := "()B", sig := { parameters := [], returnType := some .byte }, accessFlags := 0, code := some k7c8 }
def k7c9 : Code := { maxStack := 1, maxLocals := 1, code := jdk_42_method_154_code, exceptionTable := #[], attributes := #[] }
def k7m9 : Method := { name := "isLatin1", desc := "()Z", sig := { parameters := [], returnType := some .boolean }, accessFlags := 0, code := some k7c9 }
def k7c10 : Code := { maxStack := 3, maxLocals := 2, code := jdk_42_method_155_code, exceptionTable := #[], attributes := #[] }
def k7m10 : Method := { name := "checkIndex", desc := "(II)V", sig := { parameters := [.int, .int], returnType := none }, accessFlags := 8, code := some k7c10 }
/-- java/lang/String -/
def k7 : Class := { plain "java/lang/String" (some 0) with
  accessFlags := 49
  interfaces := #[2, 3, 4, 5, 6]
  cf := some (fileOf pool7 10 #[.nestMembers #[1103]] #[{ accessFlags := 1, nameIndex := 5, descriptorIndex := 6, attributes := #[] }, { accessFlags := 1, nameIndex := 5, descriptorIndex := 1010, attributes := #[] }, { accessFlags := 1, nameIndex := 507, descriptorIndex := 334, attributes := #[] }, { accessFlags := 1, nameIndex := 497, descriptorIndex := 427, attributes := #[] }, { accessFlags := 1, nameIndex := 543, descriptorIndex := 573, attributes := #[] }, { accessFlags := 9, nameIndex := 782, descriptorIndex := 783, attributes := #[] }, { accessFlags := 2, nameIndex := 5, descriptorIndex := 29, attributes := #[] }, { accessFlags := 0, nameIndex := 5, descriptorIndex := 211, attributes := #[] }, { accessFlags := 0, nameIndex := 17, descriptorIndex := 337, attributes := #[] }, { accessFlags := 0, nameIndex := 494, descriptorIndex := 142, attributes := #[] }, { accessFlags := 8, nameIndex := 501, descriptorIndex := 391, attributes := #[] }] 49 2 #[1106, 1108, 575, 1110, 1112] #[{ accessFlags := 18, nameIndex := 13, descriptorIndex := 14, attributes := #[] }, { accessFlags := 18, nameIndex := 17, descriptorIndex := 18, attributes := #[] }, { accessFlags := 2, nameIndex := 21, descriptorIndex := 22, attributes := #[] }, { accessFlags := 2, nameIndex := 25, descriptorIndex := 26, attributes := #[] }, { accessFlags := 26, nameIndex := 1116, descriptorIndex := 1117, attributes := #[] }, { accessFlags := 24, nameIndex := 40, descriptorIndex := 26, attributes := #[] }, { accessFlags := 26, nameIndex := 1101, descriptorIndex := 1102, attributes := #[] }, { accessFlags := 26, nameIndex := 1121, descriptorIndex := 1122, attributes := #[] }, { accessFlags := 25, nameIndex := 599, descriptorIndex := 600, attributes := #[] }, { accessFlags := 24, nameIndex := 1125, descriptorIndex := 18, attributes := #[] }, { accessFlags := 24, nameIndex := 1127, descriptorIndex := 18, attributes := #[] }])
  fields := #[{ name := "value", type := (.array .byte), accessFlags := 18, slot := 0, constantValue := 0 }, { name := "coder", type := .byte, accessFlags := 18, slot := 1, constantValue := 0 }, { name := "hash", type := .int, accessFlags := 2, slot := 2, constantValue := 0 }, { name := "hashIsZero", type := .boolean, accessFlags := 2, slot := 3, constantValue := 0 }, { name := "serialVersionUID", type := .long, accessFlags := 26, slot := 0, constantValue := 0 }, { name := "COMPACT_STRINGS", type := .boolean, accessFlags := 24, slot := 1, constantValue := 0 }, { name := "serialPersistentFields", type := (.array (.object "java/io/ObjectStreamField")), accessFlags := 26, slot := 2, constantValue := 0 }, { name := "REPL", type := .char, accessFlags := 26, slot := 3, constantValue := 0 }, { name := "CASE_INSENSITIVE_ORDER", type := (.object "java/util/Comparator"), accessFlags := 25, slot := 4, constantValue := 0 }, { name := "LATIN1", type := .byte, accessFlags := 24, slot := 5, constantValue := 0 }, { name := "UTF16", type := .byte, accessFlags := 24, slot := 6, constantValue := 0 }]
  methods := #[k7m0, k7m1, k7m2, k7m3, k7m4, k7m5, k7m6, k7m7, k7m8, k7m9, k7m10]
  instanceTypes := #[(.array .byte), .byte, .int, .boolean]
  staticTypes := #[.long, .boolean, (.array (.object "java/io/ObjectStreamField")), .char, (.object "java/util/Comparator"), .byte, .byte]
  resolved := Array.replicate 1451 none
  statics := some 0 }

def pool8 : Array CpInfo := pool [(1, .class_ 2), (0, u "java/lang/String"), (1, .class_ 6), (1, u "java/lang/Object"), (0, u "<init>"), (0, u "()V"), (0, .methodref 1 10), (0, .nameAndType 11 12), (0, u "checkIndex"), (0, u "(II)V"), (1, .class_ 16), (1, u "java/lang/StringLatin1"), (36, u "([BI)C"), (36, u "canEncode"), (14, u "(C)Z"), (15, u "$assertionsDisabled"), (0, u "Z"), (98, .class_ 223), (1, u "java/lang/StringLatin1$LinesSpliterator"), (28, u "charAt"), (28, u "equals"), (0, u "([B[B)Z"), (97, u "toBytes"), (1, u "(C)[B"), (7, .class_ 391), (0, u "java/lang/StringLatin1$CharsSpliterator")] 3

def k8m0 : Method := { name := "<init>", desc := "()V", sig := { parameters := [], returnType := none }, accessFlags := 0, code := none }
def k8c1 : Code := { maxStack := 2, maxLocals := 2, code := jdk_43_method_2_code, exceptionTable := #[], attributes := #[] }
def k8m1 : Method := { name := "charAt", desc := "([BI)C", sig := { parameters := [(.array .byte), .int], returnType := some .char }, accessFlags := 9, code := some k8c1 }
def k8c2 : Code := { maxStack := 2, maxLocals := 1, code := jdk_43_method_3_code, exceptionTable := #[], attributes := #[] }
def k8m2 : Method := { name := "canEncode", desc := "(C)Z", sig := { parameters := [.char], returnType := some .boolean }, accessFlags := 9, code := some k8c2 }
def k8c3 : Code := { maxStack := 3, maxLocals := 3, code := jdk_43_method_13_code, exceptionTable := #[], attributes := #[] }
def k8m3 : Method := { name := "equals", desc := "([B[B)Z", sig := { parameters := [(.array .byte), (.array .byte)], returnType := some .boolean }, accessFlags := 9, code := some k8c3 }
def k8c4 : Code := { maxStack := 4, maxLocals := 1, code := jdk_43_method_46_code, exceptionTable := #[], attributes := #[] }
def k8m4 : Method := { name := "toBytes", desc := "(C)[B", sig := { parameters := [.char], returnType := some (.array .byte) }, accessFlags := 9, code := some k8c4 }
/-- java/lang/StringLatin1 -/
def k8 : Class := { plain "java/lang/StringLatin1" (some 0) with
  accessFlags := 48
  interfaces := #[]
  cf := some (fileOf pool8 14 #[.nestMembers #[390, 221]] #[{ accessFlags := 0, nameIndex := 7, descriptorIndex := 8, attributes := #[] }, { accessFlags := 9, nameIndex := 252, descriptorIndex := 53, attributes := #[] }, { accessFlags := 9, nameIndex := 90, descriptorIndex := 105, attributes := #[] }, { accessFlags := 9, nameIndex := 281, descriptorIndex := 282, attributes := #[] }, { accessFlags := 9, nameIndex := 380, descriptorIndex := 382, attributes := #[] }] 48 4 #[] #[{ accessFlags := 4120, nameIndex := 121, descriptorIndex := 122, attributes := #[] }])
  fields := #[{ name := "$assertionsDisabled", type := .boolean, accessFlags := 4120, slot := 0, constantValue := 0 }]
  methods := #[k8m0, k8m1, k8m2, k8m3, k8m4]
  instanceTypes := #[]
  staticTypes := #[.boolean]
  resolved := Array.replicate 395 none
  statics := none }

def pool9 : Array CpInfo := pool [(2, .class_ 4), (1, u "java/lang/Object"), (0, u "<init>"), (0, u "()V"), (17, .class_ 26), (1, u "jdk/internal/util/Preconditions"), (6, u "checkIndex"), (21, .class_ 56), (0, u "jdk/internal/util/Preconditions$4"), (57, .class_ 115), (0, u "jdk/internal/util/Preconditions$1"), (7, u "SIOOBE_FORMATTER"), (0, u "Ljava/util/function/BiFunction;"), (0, .class_ 126), (0, u "jdk/internal/util/Preconditions$2"), (3, u "AIOOBE_FORMATTER"), (0, .class_ 132), (0, u "jdk/internal/util/Preconditions$3"), (3, u "IOOBE_FORMATTER"), (41, u "(IILjava/util/function/BiFunction;)I")] 15

def k9m0 : Method := { name := "<init>", desc := "()V", sig := { parameters := [], returnType := none }, accessFlags := 1, code := none }
def k9c1 : Code := { maxStack := 3, maxLocals := 3, code := jdk_41_method_11_code, exceptionTable := #[], attributes := #[] }
def k9m1 : Method := { name := "checkIndex", desc := "(IILjava/util/function/BiFunction;)I", sig := { parameters := [.int, .int, (.object "java/util/function/BiFunction")], returnType := some .int }, accessFlags := 9, code := some k9c1 }
/-- jdk/internal/util/Preconditions -/
def k9 : Class := { plain "jdk/internal/util/Preconditions" (some 0) with
  accessFlags := 33
  interfaces := #[]
  cf := some (fileOf pool9 24 #[.nestMembers #[55, 131, 125, 114]] #[{ accessFlags := 1, nameIndex := 5, descriptorIndex := 6, attributes := #[] }, { accessFlags := 9, nameIndex := 33, descriptorIndex := 178, attributes := #[] }] 33 2 #[] #[{ accessFlags := 25, nameIndex := 123, descriptorIndex := 124, attributes := #[] }, { accessFlags := 25, nameIndex := 130, descriptorIndex := 124, attributes := #[] }, { accessFlags := 25, nameIndex := 136, descriptorIndex := 124, attributes := #[] }])
  fields := #[{ name := "SIOOBE_FORMATTER", type := (.object "java/util/function/BiFunction"), accessFlags := 25, slot := 0, constantValue := 0 }, { name := "AIOOBE_FORMATTER", type := (.object "java/util/function/BiFunction"), accessFlags := 25, slot := 1, constantValue := 0 }, { name := "IOOBE_FORMATTER", type := (.object "java/util/function/BiFunction"), accessFlags := 25, slot := 2, constantValue := 0 }]
  methods := #[k9m0, k9m1]
  instanceTypes := #[]
  staticTypes := #[(.object "java/util/function/BiFunction"), (.object "java/util/function/BiFunction"), (.object "java/util/function/BiFunction")]
  resolved := Array.replicate 194 none
  statics := some 1 }

def pool10 : Array CpInfo := pool [(6, .class_ 8), (1, u "java/lang/Object"), (0, u "<init>"), (0, u "()V"), (1, .class_ 14), (1, u "java/lang/StringUTF16"), (31, u "$assertionsDisabled"), (0, u "Z"), (13, u "HI_BYTE_SHIFT"), (0, u "I"), (2, u "LO_BYTE_SHIFT"), (49, .methodref 12 116), (0, .nameAndType 117 118), (0, u "compress"), (0, u "([CI[BII)I"), (3, u "([CII)[B"), (138, u "coderFromArrayLen"), (0, u "([BI)B"), (106, .class_ 371), (1, u "java/lang/StringUTF16$LinesSpliterator"), (58, u "MAX_LENGTH"), (196, .class_ 628), (0, u "java/lang/StringUTF16$CodePointsSpliterator"), (0, .class_ 630), (0, u "java/lang/StringUTF16$CharsSpliterator")] 4

def k10m0 : Method := { name := "<init>", desc := "()V", sig := { parameters := [], returnType := none }, accessFlags := 0, code := none }
def k10c1 : Code := { maxStack := 2, maxLocals := 2, code := jdk_52_method_15_code, exceptionTable := #[], attributes := #[] }
def k10m1 : Method := { name := "coderFromArrayLen", desc := "([BI)B", sig := { parameters := [(.array .byte), .int], returnType := some .byte }, accessFlags := 8, code := some k10c1 }
def k10c2 : Code := { maxStack := 5, maxLocals := 6, code := jdk_52_method_16_code, exceptionTable := #[], attributes := #[] }
def k10m2 : Method := { name := "compress", desc := "([CII)[B", sig := { parameters := [(.array .char), .int, .int], returnType := some (.array .byte) }, accessFlags := 9, code := some k10c2 }
def k10c3 : Code := { maxStack := 3, maxLocals := 7, code := jdk_52_method_21_code, exceptionTable := #[], attributes := #[] }
def k10m3 : Method := { name := "compress", desc := "([CI[BII)I", sig := { parameters := [(.array .char), .int, (.array .byte), .int, .int], returnType := some .int }, accessFlags := 9, code := some k10c3 }
/-- java/lang/StringUTF16 -/
def k10 : Class := { plain "java/lang/StringUTF16" (some 0) with
  accessFlags := 48
  interfaces := #[]
  cf := some (fileOf pool10 12 #[.nestMembers #[627, 629, 369]] #[{ accessFlags := 0, nameIndex := 9, descriptorIndex := 10, attributes := #[] }, { accessFlags := 8, nameIndex := 261, descriptorIndex := 262, attributes := #[] }, { accessFlags := 9, nameIndex := 117, descriptorIndex := 122, attributes := #[] }, { accessFlags := 9, nameIndex := 117, descriptorIndex := 118, attributes := #[] }] 48 6 #[] #[{ accessFlags := 26, nameIndex := 61, descriptorIndex := 62, attributes := #[] }, { accessFlags := 26, nameIndex := 65, descriptorIndex := 62, attributes := #[] }, { accessFlags := 24, nameIndex := 430, descriptorIndex := 62, attributes := #[] }, { accessFlags := 4120, nameIndex := 46, descriptorIndex := 47, attributes := #[] }])
  fields := #[{ name := "HI_BYTE_SHIFT", type := .int, accessFlags := 26, slot := 0, constantValue := 0 }, { name := "LO_BYTE_SHIFT", type := .int, accessFlags := 26, slot := 1, constantValue := 0 }, { name := "MAX_LENGTH", type := .int, accessFlags := 24, slot := 2, constantValue := 0 }, { name := "$assertionsDisabled", type := .boolean, accessFlags := 4120, slot := 3, constantValue := 0 }]
  methods := #[k10m0, k10m1, k10m2, k10m3]
  instanceTypes := #[]
  staticTypes := #[.int, .int, .int, .boolean]
  resolved := Array.replicate 635 none
  statics := none }

def pool11 : Array CpInfo := pool [(2, .class_ 4), (1, u "java/lang/Enum"), (0, u "name"), (0, u "Ljava/lang/String;"), (2, u "ordinal"), (0, u "I"), (1, .class_ 14), (1, u "java/lang/Object"), (4, u "hash"), (86, .class_ 108), (1, u "java/lang/Enum$EnumDesc"), (2, .class_ 112), (0, u "java/lang/constant/Constable"), (0, .class_ 114), (0, u "java/lang/Comparable"), (0, .class_ 116), (0, u "java/io/Serializable")] 87

/-- java/lang/Enum -/
def k11 : Class := { plain "java/lang/Enum" (some 0) with
  accessFlags := 1057
  interfaces := #[5, 3, 2]
  cf := some (fileOf pool11 2 #[.nestMembers #[106]] #[] 1057 12 #[111, 113, 115] #[{ accessFlags := 18, nameIndex := 5, descriptorIndex := 6, attributes := #[] }, { accessFlags := 18, nameIndex := 9, descriptorIndex := 10, attributes := #[] }, { accessFlags := 2, nameIndex := 19, descriptorIndex := 10, attributes := #[] }])
  fields := #[{ name := "name", type := (.object "java/lang/String"), accessFlags := 18, slot := 0, constantValue := 0 }, { name := "ordinal", type := .int, accessFlags := 18, slot := 1, constantValue := 0 }, { name := "hash", type := .int, accessFlags := 2, slot := 2, constantValue := 0 }]
  methods := #[]
  instanceTypes := #[(.object "java/lang/String"), .int, .int]
  staticTypes := #[]
  resolved := Array.replicate 204 none
  statics := none }

def pool12 : Array CpInfo := pool [(1, .class_ 2), (0, u "com/example/patient_ledger/patientledger/HoldStatus"), (2, u "PENDING"), (0, u "Lcom/example/patient_ledger/patientledger/HoldStatus;"), (2, u "CAPTURED"), (2, u "VOIDED"), (2, u "EXPIRED"), (0, .fieldref 1 17), (0, .nameAndType 18 19), (0, u "$VALUES"), (0, u "[Lcom/example/patient_ledger/patientledger/HoldStatus;"), (0, .methodref 21 22), (0, .class_ 19), (0, .nameAndType 23 24), (0, u "clone"), (0, u "()Ljava/lang/Object;"), (1, .class_ 28), (1, u "java/lang/Enum"), (6, .fieldref 1 36), (0, .nameAndType 37 38), (0, u "wireName"), (0, u "Ljava/lang/String;"), (0, .methodref 1 40), (0, .nameAndType 41 42), (0, u "values"), (0, u "()[Lcom/example/patient_ledger/patientledger/HoldStatus;"), (0, .methodref 44 45), (0, .class_ 46), (0, .nameAndType 47 48), (0, u "java/lang/String"), (0, u "equals"), (0, u "(Ljava/lang/Object;)Z"), (18, u "LAPSED"), (3, u "CURRENT"), (4, u "(Ljava/lang/String;)Lcom/example/patient_ledger/patientledger/HoldStatus;"), (4, u "fromWireName")] 6

def k12c0 : Code := { maxStack := 1, maxLocals := 0, code := prog_8_method_1_code, exceptionTable := #[], attributes := #[] }
def k12m0 : Method := { name := "values", desc := "()[Lcom/example/patient_ledger/patientledger/HoldStatus;", sig := { parameters := [], returnType := some (.array (.object "com/example/patient_ledger/patientledger/HoldStatus")) }, accessFlags := 9, code := some k12c0 }
def k12c1 : Code := { maxStack := 2, maxLocals := 6, code := prog_8_method_5_code, exceptionTable := #[], attributes := #[] }
def k12m1 : Method := { name := "fromWireName", desc := "(Ljava/lang/String;)Lcom/example/patient_ledger/patientledger/HoldStatus;", sig := { parameters := [(.object "java/lang/String")], returnType := some (.object "com/example/patient_ledger/patientledger/HoldStatus") }, accessFlags := 8, code := some k12c1 }
/-- com/example/patient_ledger/patientledger/HoldStatus -/
def k12 : Class := { plain "com/example/patient_ledger/patientledger/HoldStatus" (some 11) with
  accessFlags := 16432
  interfaces := #[]
  cf := some (fileOf pool12 1 #[] #[{ accessFlags := 9, nameIndex := 41, descriptorIndex := 42, attributes := #[] }, { accessFlags := 8, nameIndex := 81, descriptorIndex := 76, attributes := #[] }] 16432 26 #[] #[{ accessFlags := 16409, nameIndex := 5, descriptorIndex := 6, attributes := #[] }, { accessFlags := 16409, nameIndex := 9, descriptorIndex := 6, attributes := #[] }, { accessFlags := 16409, nameIndex := 12, descriptorIndex := 6, attributes := #[] }, { accessFlags := 16409, nameIndex := 15, descriptorIndex := 6, attributes := #[] }, { accessFlags := 24, nameIndex := 67, descriptorIndex := 38, attributes := #[] }, { accessFlags := 24, nameIndex := 71, descriptorIndex := 38, attributes := #[] }, { accessFlags := 18, nameIndex := 37, descriptorIndex := 38, attributes := #[] }, { accessFlags := 4122, nameIndex := 18, descriptorIndex := 19, attributes := #[] }])
  fields := #[{ name := "PENDING", type := (.object "com/example/patient_ledger/patientledger/HoldStatus"), accessFlags := 16409, slot := 0, constantValue := 0 }, { name := "CAPTURED", type := (.object "com/example/patient_ledger/patientledger/HoldStatus"), accessFlags := 16409, slot := 1, constantValue := 0 }, { name := "VOIDED", type := (.object "com/example/patient_ledger/patientledger/HoldStatus"), accessFlags := 16409, slot := 2, constantValue := 0 }, { name := "EXPIRED", type := (.object "com/example/patient_ledger/patientledger/HoldStatus"), accessFlags := 16409, slot := 3, constantValue := 0 }, { name := "LAPSED", type := (.object "java/lang/String"), accessFlags := 24, slot := 4, constantValue := 0 }, { name := "CURRENT", type := (.object "java/lang/String"), accessFlags := 24, slot := 5, constantValue := 0 }, { name := "wireName", type := (.object "java/lang/String"), accessFlags := 18, slot := 3, constantValue := 0 }, { name := "$VALUES", type := (.array (.object "com/example/patient_ledger/patientledger/HoldStatus")), accessFlags := 4122, slot := 6, constantValue := 0 }]
  methods := #[k12m0, k12m1]
  instanceTypes := #[(.object "java/lang/String"), .int, .int, (.object "java/lang/String")]
  staticTypes := #[(.object "com/example/patient_ledger/patientledger/HoldStatus"), (.object "com/example/patient_ledger/patientledger/HoldStatus"), (.object "com/example/patient_ledger/patientledger/HoldStatus"), (.object "com/example/patient_ledger/patientledger/HoldStatus"), (.object "java/lang/String"), (.object "java/lang/String"), (.array (.object "com/example/patient_ledger/patientledger/HoldStatus"))]
  resolved := Array.replicate 88 none
  statics := some 2 }

def pool13 : Array CpInfo := pool [(1, .class_ 2), (0, u "java/lang/Cloneable"), (0, .class_ 4), (0, u "java/lang/Object")] 2

/-- java/lang/Cloneable -/
def k13 : Class := { plain "java/lang/Cloneable" (some 0) with
  accessFlags := 1537
  interfaces := #[]
  cf := some (fileOf pool13 1 #[] #[] 1537 3 #[] #[])
  fields := #[]
  methods := #[]
  instanceTypes := #[]
  staticTypes := #[]
  resolved := Array.replicate 7 none
  statics := none }

def pool14 : Array CpInfo := pool [(9, u "<init>"), (6, .class_ 18), (1, u "java/lang/Object"), (0, u "()V"), (1, .class_ 23), (1, u "jdk/internal/util/ArraysSupport"), (0, u "LOG2_ARRAY_LONG_INDEX_SCALE"), (0, u "I"), (2, u "U"), (0, u "Ljdk/internal/misc/Unsafe;"), (8, u "BIG_ENDIAN"), (0, u "Z"), (8, u "LOG2_BYTE_BIT_SIZE"), (4, u "LOG2_ARRAY_INT_INDEX_SCALE"), (54, u "JLA"), (0, u "Ljdk/internal/access/JavaLangAccess;"), (11, u "LOG2_ARRAY_BOOLEAN_INDEX_SCALE"), (9, u "LOG2_ARRAY_BYTE_INDEX_SCALE"), (5, u "LOG2_ARRAY_CHAR_INDEX_SCALE"), (5, u "LOG2_ARRAY_SHORT_INDEX_SCALE"), (18, u "LOG2_ARRAY_FLOAT_INDEX_SCALE"), (24, u "LOG2_ARRAY_DOUBLE_INDEX_SCALE"), (89, u "T_BOOLEAN"), (2, u "T_CHAR"), (1, u "T_FLOAT"), (1, u "T_DOUBLE"), (1, u "T_BYTE"), (1, u "T_SHORT"), (1, u "T_INT"), (1, u "T_LONG"), (1, u "SOFT_MAX_ARRAY_LENGTH")] 83

def k14m0 : Method := { name := "<init>", desc := "()V", sig := { parameters := [], returnType := none }, accessFlags := 2, code := none }
/-- jdk/internal/util/ArraysSupport -/
def k14 : Class := { plain "jdk/internal/util/ArraysSupport" (some 0) with
  accessFlags := 33
  interfaces := #[]
  cf := some (fileOf pool14 21 #[] #[{ accessFlags := 2, nameIndex := 9, descriptorIndex := 19, attributes := #[] }] 33 16 #[] #[{ accessFlags := 24, nameIndex := 28, descriptorIndex := 29, attributes := #[] }, { accessFlags := 26, nameIndex := 38, descriptorIndex := 39, attributes := #[] }, { accessFlags := 25, nameIndex := 121, descriptorIndex := 25, attributes := #[] }, { accessFlags := 25, nameIndex := 131, descriptorIndex := 25, attributes := #[] }, { accessFlags := 25, nameIndex := 137, descriptorIndex := 25, attributes := #[] }, { accessFlags := 25, nameIndex := 143, descriptorIndex := 25, attributes := #[] }, { accessFlags := 25, nameIndex := 53, descriptorIndex := 25, attributes := #[] }, { accessFlags := 25, nameIndex := 24, descriptorIndex := 25, attributes := #[] }, { accessFlags := 25, nameIndex := 162, descriptorIndex := 25, attributes := #[] }, { accessFlags := 25, nameIndex := 187, descriptorIndex := 25, attributes := #[] }, { accessFlags := 26, nameIndex := 48, descriptorIndex := 25, attributes := #[] }, { accessFlags := 25, nameIndex := 277, descriptorIndex := 25, attributes := #[] }, { accessFlags := 25, nameIndex := 280, descriptorIndex := 25, attributes := #[] }, { accessFlags := 25, nameIndex := 282, descriptorIndex := 25, attributes := #[] }, { accessFlags := 25, nameIndex := 284, descriptorIndex := 25, attributes := #[] }, { accessFlags := 25, nameIndex := 286, descriptorIndex := 25, attributes := #[] }, { accessFlags := 25, nameIndex := 288, descriptorIndex := 25, attributes := #[] }, { accessFlags := 25, nameIndex := 290, descriptorIndex := 25, attributes := #[] }, { accessFlags := 25, nameIndex := 292, descriptorIndex := 25, attributes := #[] }, { accessFlags := 26, nameIndex := 108, descriptorIndex := 109, attributes := #[] }, { accessFlags := 25, nameIndex := 294, descriptorIndex := 25, attributes := #[] }])
  fields := #[{ name := "U", type := (.object "jdk/internal/misc/Unsafe"), accessFlags := 24, slot := 0, constantValue := 0 }, { name := "BIG_ENDIAN", type := .boolean, accessFlags := 26, slot := 1, constantValue := 0 }, { name := "LOG2_ARRAY_BOOLEAN_INDEX_SCALE", type := .int, accessFlags := 25, slot := 2, constantValue := 0 }, { name := "LOG2_ARRAY_BYTE_INDEX_SCALE", type := .int, accessFlags := 25, slot := 3, constantValue := 0 }, { name := "LOG2_ARRAY_CHAR_INDEX_SCALE", type := .int, accessFlags := 25, slot := 4, constantValue := 0 }, { name := "LOG2_ARRAY_SHORT_INDEX_SCALE", type := .int, accessFlags := 25, slot := 5, constantValue := 0 }, { name := "LOG2_ARRAY_INT_INDEX_SCALE", type := .int, accessFlags := 25, slot := 6, constantValue := 0 }, { name := "LOG2_ARRAY_LONG_INDEX_SCALE", type := .int, accessFlags := 25, slot := 7, constantValue := 0 }, { name := "LOG2_ARRAY_FLOAT_INDEX_SCALE", type := .int, accessFlags := 25, slot := 8, constantValue := 0 }, { name := "LOG2_ARRAY_DOUBLE_INDEX_SCALE", type := .int, accessFlags := 25, slot := 9, constantValue := 0 }, { name := "LOG2_BYTE_BIT_SIZE", type := .int, accessFlags := 26, slot := 10, constantValue := 0 }, { name := "T_BOOLEAN", type := .int, accessFlags := 25, slot := 11, constantValue := 0 }, { name := "T_CHAR", type := .int, accessFlags := 25, slot := 12, constantValue := 0 }, { name := "T_FLOAT", type := .int, accessFlags := 25, slot := 13, constantValue := 0 }, { name := "T_DOUBLE", type := .int, accessFlags := 25, slot := 14, constantValue := 0 }, { name := "T_BYTE", type := .int, accessFlags := 25, slot := 15, constantValue := 0 }, { name := "T_SHORT", type := .int, accessFlags := 25, slot := 16, constantValue := 0 }, { name := "T_INT", type := .int, accessFlags := 25, slot := 17, constantValue := 0 }, { name := "T_LONG", type := .int, accessFlags := 25, slot := 18, constantValue := 0 }, { name := "JLA", type := (.object "jdk/internal/access/JavaLangAccess"), accessFlags := 26, slot := 19, constantValue := 0 }, { name := "SOFT_MAX_ARRAY_LENGTH", type := .int, accessFlags := 25, slot := 20, constantValue := 0 }]
  methods := #[k14m0]
  instanceTypes := #[]
  staticTypes := #[(.object "jdk/internal/misc/Unsafe"), .boolean, .int, .int, .int, .int, .int, .int, .int, .int, .int, .int, .int, .int, .int, .int, .int, .int, .int, (.object "jdk/internal/access/JavaLangAccess"), .int]
  resolved := Array.replicate 378 none
  statics := none }

/-- the primitive byte -/
def k15 : Class := { plain "byte" none with kind := .primitive 'B', accessFlags := 0x411 }
/-- [B -/
def k16 : Class := { plain "[B" (some 0) with kind := .array 15 .byte, interfaces := #[13, 2], accessFlags := 1041 }

/-- the primitive char -/
def k17 : Class := { plain "char" none with kind := .primitive 'C', accessFlags := 0x411 }
/-- [C -/
def k18 : Class := { plain "[C" (some 0) with kind := .array 17 .char, interfaces := #[13, 2], accessFlags := 1041 }

/-- the primitive int -/
def k19 : Class := { plain "int" none with kind := .primitive 'I', accessFlags := 0x411 }
/-- [I -/
def k20 : Class := { plain "[I" (some 0) with kind := .array 19 .int, interfaces := #[13, 2], accessFlags := 1041 }

/-- [Lcom/example/patient_ledger/patientledger/HoldStatus; -/
def k21 : Class := { plain "[Lcom/example/patient_ledger/patientledger/HoldStatus;" (some 0) with kind := .array 12 (.object "com/example/patient_ledger/patientledger/HoldStatus"), interfaces := #[13, 2], accessFlags := 1041 }

def heap : Heap := #[{ cls := 7, slots := #[.long 0, .int 1, .null, .int 0, .null, .int 0, .int 0], vm := .statics 7 },
  { cls := 9, slots := #[.null, .null, .null], vm := .statics 9 },
  { cls := 12, slots := #[.ref 4, .ref 5, .ref 6, .ref 7, .null, .null, .ref 3], vm := .statics 12 },
  { cls := 21, slots := #[.ref 4, .ref 5, .ref 6, .ref 7], vm := .none },
  { cls := 12, slots := #[.null, .int 0, .int 0, .ref 8], vm := .none },
  { cls := 12, slots := #[.null, .int 1, .int 0, .ref 9], vm := .none },
  { cls := 12, slots := #[.null, .int 2, .int 0, .ref 10], vm := .none },
  { cls := 12, slots := #[.null, .int 3, .int 0, .ref 11], vm := .none },
  { cls := 7, slots := #[.ref 12, .int 0, .int 0, .int 0], vm := .none },
  { cls := 7, slots := #[.ref 13, .int 0, .int 0, .int 0], vm := .none },
  { cls := 7, slots := #[.ref 14, .int 0, .int 0, .int 0], vm := .none },
  { cls := 7, slots := #[.ref 15, .int 0, .int 0, .int 0], vm := .none },
  { cls := 16, slots := #[.int 112, .int 101, .int 110, .int 100, .int 105, .int 110, .int 103], vm := .none },
  { cls := 16, slots := #[.int 99, .int 97, .int 112, .int 116, .int 117, .int 114, .int 101, .int 100], vm := .none },
  { cls := 16, slots := #[.int 118, .int 111, .int 105, .int 100, .int 101, .int 100], vm := .none },
  { cls := 16, slots := #[.int 101, .int 120, .int 112, .int 105, .int 114, .int 101, .int 100], vm := .none }]
def classes : Array Class := #[k0, k1, k2, k3, k4, k5, k6, k7, k8, k9, k10, k11, k12, k13, k14, k15, k16, k17, k18, k19, k20, k21]
def interned : List (Array UInt16 × Addr) := []
def slotsUsed : Nat := 81
def theMethod : MethodId := ⟨1, 1⟩
def args0 : Array Value := #[.int 1, .int 1, .int 2, .int 65]
def aboutOver (below : List Frame) : State where
  vm := { classes := classes, interned := interned.toArray }
  heap := heap
  slotsUsed := slotsUsed
  threads := #[{ frames := .invoking theMethod args0 :: below }]
def below0 : List Frame := [.native { method := ⟨0, 0⟩, args := #[] }]
def about1 : State := aboutOver below0
def p0 : Program := .bare "" "" ""
def e0 : Env := launch0.env 0 0 0
theorem w_frames : about1.frames = Frame.invoking theMethod args0 :: below0 := rfl
set_option maxRecDepth 65536 in
theorem w_args : argsFit about1.vm theMethod args0 = true := by decide +kernel
set_option maxRecDepth 65536 in
theorem w_heap : heapFits about1 = true := by decide +kernel
set_option maxRecDepth 65536 in
theorem w_runnable : about1.curStatus? = some .runnable := by decide +kernel
set_option maxRecDepth 65536 in
theorem w_alone : about1.alone = true := by decide +kernel
set_option maxRecDepth 65536 in
theorem w_named : about1.methodNamed? x = some theMethod := by decide +kernel
set_option maxRecDepth 65536 in
theorem w_hears : about1.hears theMethod below0 = true := by decide +kernel
set_option maxRecDepth 65536 in
theorem w_ripe : about1.ripe theMethod args0 below0 = true := by decide +kernel
theorem w_running : about1.status = .running := rfl
set_option maxRecDepth 65536 in
theorem w_room : about1.hasRoom e0.platform room_1 = true :=
  launch0.hasRoom_least _ room_1 (by decide +kernel) (by decide +kernel) (by decide +kernel) (by decide +kernel) (by decide +kernel) (by decide +kernel)
theorem allAtoms_all (ts : List Jvm.Cond) (a : Array Jvm.Value) (st : Jvm.State) : (allAtoms ts).before a st = ts.all (fun c => c.before a st) := by
  induction ts with
  | nil => rfl
  | cons c t ih =>
    show (Jvm.Cond.and c (allAtoms t)).before a st = _
    rw [Jvm.Cond.before_and, ih, List.all_cons]
def words1 : List Jvm.Cond := Jvm.Cond.code x code maxLocals ret :: tables_1
/-- a 'code' word, met by the world's own term for the bytes: nothing is compared byte by byte -/
theorem code_word {y : MethodName} {bytes : ByteArray} {mx : Nat} {rt : Option FieldType} {a : Array Value} {s : State} {m : MethodId} {meth : Method} {c : Code} (h1 : s.methodNamed? y = some m) (h2 : s.vm.method? m = some meth) (h3 : meth.code = some c) (h4 : c.code = bytes)
    (h5 : (c.maxLocals == mx && c.exceptionTable.isEmpty && decide (c.maxStack ≤ mostOperands) && decide (meth.sig.returnType = rt) && !meth.locks && decide (parseMethodDescriptor y.desc = some meth.sig)) = true) : (Jvm.Cond.code y bytes mx rt).before a s = true := by
  simp only [Bool.and_eq_true, beq_iff_eq, Bool.not_eq_true', decide_eq_true_eq] at h5
  obtain ⟨⟨⟨⟨⟨g1, g2⟩, g3⟩, g4⟩, g5⟩, g6⟩ := h5
  simp [Cond.before, Cond.holds, Cond.value, h1, h2, h3, h4, g1, g2, g3, g4, g5, g6]
def isCode : Jvm.Cond → Bool
  | .code _ _ _ _ => true
  | _ => false
theorem all_split {L : List Jvm.Cond} {P : Jvm.Cond → Bool} (h1 : L.all (fun c => isCode c || P c) = true) (h2 : ∀ c ∈ L.filter isCode, P c = true) : L.all P = true := by
  refine List.all_eq_true.mpr fun c hc => ?_
  have h := List.all_eq_true.mp h1 c hc
  rcases Bool.eq_false_or_eq_true (isCode c) with hi | hi
  · exact h2 c (List.mem_filter.mpr ⟨hc, hi⟩)
  · simpa [hi] using h
set_option maxRecDepth 65536 in
theorem w_c0 : (Jvm.Cond.code x code maxLocals ret).before args0 about1 = true := code_word (m := ⟨1, 1⟩) (meth := k1m1) (c := k1c1) (by decide +kernel) rfl rfl rfl (by decide +kernel)
set_option maxRecDepth 65536 in
theorem w_c1 : (Jvm.Cond.code ({ cls := "java/lang/String", name := "length", desc := "()I" } : Jvm.MethodName) jdk_42_method_54_code (1 : Nat) (Option.some Jvm.ClassFile.FieldType.int)).before args0 about1 = true := code_word (m := ⟨7, 2⟩) (meth := k7m2) (c := k7c2) (by decide +kernel) rfl rfl rfl (by decide +kernel)
set_option maxRecDepth 65536 in
theorem w_c2 : (Jvm.Cond.code ({ cls := "java/lang/String", name := "coder", desc := "()B" } : Jvm.MethodName) jdk_42_method_152_code (1 : Nat) (Option.some Jvm.ClassFile.FieldType.byte)).before args0 about1 = true := code_word (m := ⟨7, 8⟩) (meth := k7m8) (c := k7c8) (by decide +kernel) rfl rfl rfl (by decide +kernel)
set_option maxRecDepth 65536 in
theorem w_c3 : (Jvm.Cond.code ({ cls := "com/example/patient_ledger/patientledger/HoldStatusFromWireNamePinLaw", name := "make", desc := "(I)[C" } : Jvm.MethodName) method_4_code (1 : Nat) (Option.some (Jvm.ClassFile.FieldType.array Jvm.ClassFile.FieldType.char))).before args0 about1 = true := code_word (m := ⟨1, 3⟩) (meth := k1m3) (c := k1c3) (by decide +kernel) rfl rfl rfl (by decide +kernel)
set_option maxRecDepth 65536 in
theorem w_c4 : (Jvm.Cond.code ({ cls := "com/example/patient_ledger/patientledger/HoldStatusFromWireNamePinLaw", name := "put", desc := "([CILjava/lang/String;IIC)V" } : Jvm.MethodName) method_5_code (6 : Nat) (Option.none : Option Jvm.ClassFile.FieldType)).before args0 about1 = true := code_word (m := ⟨1, 4⟩) (meth := k1m4) (c := k1c4) (by decide +kernel) rfl rfl rfl (by decide +kernel)
set_option maxRecDepth 65536 in
theorem w_c5 : (Jvm.Cond.code ({ cls := "com/example/patient_ledger/patientledger/HoldStatusFromWireNamePinLaw", name := "at", desc := "(Ljava/lang/String;IICI)C" } : Jvm.MethodName) method_6_code (5 : Nat) (Option.some Jvm.ClassFile.FieldType.char)).before args0 about1 = true := code_word (m := ⟨1, 5⟩) (meth := k1m5) (c := k1c5) (by decide +kernel) rfl rfl rfl (by decide +kernel)
set_option maxRecDepth 65536 in
theorem w_c6 : (Jvm.Cond.code ({ cls := "java/lang/String", name := "charAt", desc := "(I)C" } : Jvm.MethodName) jdk_42_method_56_code (2 : Nat) (Option.some Jvm.ClassFile.FieldType.char)).before args0 about1 = true := code_word (m := ⟨7, 3⟩) (meth := k7m3) (c := k7c3) (by decide +kernel) rfl rfl rfl (by decide +kernel)
set_option maxRecDepth 65536 in
theorem w_c7 : (Jvm.Cond.code ({ cls := "java/lang/String", name := "isLatin1", desc := "()Z" } : Jvm.MethodName) jdk_42_method_154_code (1 : Nat) (Option.some Jvm.ClassFile.FieldType.boolean)).before args0 about1 = true := code_word (m := ⟨7, 9⟩) (meth := k7m9) (c := k7c9) (by decide +kernel) rfl rfl rfl (by decide +kernel)
set_option maxRecDepth 65536 in
theorem w_c8 : (Jvm.Cond.code ({ cls := "java/lang/StringLatin1", name := "charAt", desc := "([BI)C" } : Jvm.MethodName) jdk_43_method_2_code (2 : Nat) (Option.some Jvm.ClassFile.FieldType.char)).before args0 about1 = true := code_word (m := ⟨8, 1⟩) (meth := k8m1) (c := k8c1) (by decide +kernel) rfl rfl rfl (by decide +kernel)
set_option maxRecDepth 65536 in
theorem w_c9 : (Jvm.Cond.code ({ cls := "java/lang/String", name := "checkIndex", desc := "(II)V" } : Jvm.MethodName) jdk_42_method_155_code (2 : Nat) (Option.none : Option Jvm.ClassFile.FieldType)).before args0 about1 = true := code_word (m := ⟨7, 10⟩) (meth := k7m10) (c := k7c10) (by decide +kernel) rfl rfl rfl (by decide +kernel)
set_option maxRecDepth 65536 in
theorem w_c10 : (Jvm.Cond.code ({ cls := "jdk/internal/util/Preconditions", name := "checkIndex", desc := "(IILjava/util/function/BiFunction;)I" } : Jvm.MethodName) jdk_41_method_11_code (3 : Nat) (Option.some Jvm.ClassFile.FieldType.int)).before args0 about1 = true := code_word (m := ⟨9, 1⟩) (meth := k9m1) (c := k9c1) (by decide +kernel) rfl rfl rfl (by decide +kernel)
set_option maxRecDepth 65536 in
theorem w_c11 : (Jvm.Cond.code ({ cls := "java/lang/String", name := "<init>", desc := "([C)V" } : Jvm.MethodName) jdk_42_method_3_code (2 : Nat) (Option.none : Option Jvm.ClassFile.FieldType)).before args0 about1 = true := code_word (m := ⟨7, 1⟩) (meth := k7m1) (c := k7c1) (by decide +kernel) rfl rfl rfl (by decide +kernel)
set_option maxRecDepth 65536 in
theorem w_c12 : (Jvm.Cond.code ({ cls := "java/lang/String", name := "<init>", desc := "([CIILjava/lang/Void;)V" } : Jvm.MethodName) jdk_42_method_149_code (6 : Nat) (Option.none : Option Jvm.ClassFile.FieldType)).before args0 about1 = true := code_word (m := ⟨7, 6⟩) (meth := k7m6) (c := k7c6) (by decide +kernel) rfl rfl rfl (by decide +kernel)
set_option maxRecDepth 65536 in
theorem w_c13 : (Jvm.Cond.code ({ cls := "java/lang/Object", name := "<init>", desc := "()V" } : Jvm.MethodName) object_method_1_code (1 : Nat) (Option.none : Option Jvm.ClassFile.FieldType)).before args0 about1 = true := code_word (m := ⟨0, 0⟩) (meth := k0m0) (c := k0c0) (by decide +kernel) rfl rfl rfl (by decide +kernel)
set_option maxRecDepth 65536 in
theorem w_c14 : (Jvm.Cond.code ({ cls := "java/lang/StringUTF16", name := "compress", desc := "([CII)[B" } : Jvm.MethodName) jdk_52_method_16_code (6 : Nat) (Option.some (Jvm.ClassFile.FieldType.array Jvm.ClassFile.FieldType.byte))).before args0 about1 = true := code_word (m := ⟨10, 2⟩) (meth := k10m2) (c := k10c2) (by decide +kernel) rfl rfl rfl (by decide +kernel)
set_option maxRecDepth 65536 in
theorem w_c15 : (Jvm.Cond.code ({ cls := "java/lang/StringUTF16", name := "compress", desc := "([CI[BII)I" } : Jvm.MethodName) jdk_52_method_21_code (7 : Nat) (Option.some Jvm.ClassFile.FieldType.int)).before args0 about1 = true := code_word (m := ⟨10, 3⟩) (meth := k10m3) (c := k10c3) (by decide +kernel) rfl rfl rfl (by decide +kernel)
set_option maxRecDepth 65536 in
theorem w_c16 : (Jvm.Cond.code ({ cls := "java/lang/StringUTF16", name := "coderFromArrayLen", desc := "([BI)B" } : Jvm.MethodName) jdk_52_method_15_code (2 : Nat) (Option.some Jvm.ClassFile.FieldType.byte)).before args0 about1 = true := code_word (m := ⟨10, 1⟩) (meth := k10m1) (c := k10c1) (by decide +kernel) rfl rfl rfl (by decide +kernel)
set_option maxRecDepth 65536 in
theorem w_c17 : (Jvm.Cond.code ({ cls := "com/example/patient_ledger/patientledger/HoldStatus", name := "fromWireName", desc := "(Ljava/lang/String;)Lcom/example/patient_ledger/patientledger/HoldStatus;" } : Jvm.MethodName) prog_8_method_5_code (6 : Nat) (Option.some (Jvm.ClassFile.FieldType.object "com/example/patient_ledger/patientledger/HoldStatus"))).before args0 about1 = true := code_word (m := ⟨12, 1⟩) (meth := k12m1) (c := k12c1) (by decide +kernel) rfl rfl rfl (by decide +kernel)
set_option maxRecDepth 65536 in
theorem w_c18 : (Jvm.Cond.code ({ cls := "com/example/patient_ledger/patientledger/HoldStatus", name := "values", desc := "()[Lcom/example/patient_ledger/patientledger/HoldStatus;" } : Jvm.MethodName) prog_8_method_1_code (0 : Nat) (Option.some (Jvm.ClassFile.FieldType.array (Jvm.ClassFile.FieldType.object "com/example/patient_ledger/patientledger/HoldStatus")))).before args0 about1 = true := code_word (m := ⟨12, 0⟩) (meth := k12m0) (c := k12c0) (by decide +kernel) rfl rfl rfl (by decide +kernel)
set_option maxRecDepth 65536 in
theorem w_c19 : (Jvm.Cond.code ({ cls := "java/lang/String", name := "equals", desc := "(Ljava/lang/Object;)Z" } : Jvm.MethodName) jdk_42_method_66_code (3 : Nat) (Option.some Jvm.ClassFile.FieldType.boolean)).before args0 about1 = true := code_word (m := ⟨7, 4⟩) (meth := k7m4) (c := k7c4) (by decide +kernel) rfl rfl rfl (by decide +kernel)
set_option maxRecDepth 65536 in
theorem w_c20 : (Jvm.Cond.code ({ cls := "java/lang/StringLatin1", name := "equals", desc := "([B[B)Z" } : Jvm.MethodName) jdk_43_method_13_code (3 : Nat) (Option.some Jvm.ClassFile.FieldType.boolean)).before args0 about1 = true := code_word (m := ⟨8, 3⟩) (meth := k8m3) (c := k8c3) (by decide +kernel) rfl rfl rfl (by decide +kernel)
set_option maxRecDepth 65536 in
theorem w_c21 : (Jvm.Cond.code ({ cls := "com/example/patient_ledger/patientledger/HoldStatusFromWireNamePinLaw", name := "expected", desc := "(Ljava/lang/String;)Lcom/example/patient_ledger/patientledger/HoldStatus;" } : Jvm.MethodName) method_3_code (1 : Nat) (Option.some (Jvm.ClassFile.FieldType.object "com/example/patient_ledger/patientledger/HoldStatus"))).before args0 about1 = true := code_word (m := ⟨1, 2⟩) (meth := k1m2) (c := k1c2) (by decide +kernel) rfl rfl rfl (by decide +kernel)
set_option maxRecDepth 65536 in
theorem w_c22 : (Jvm.Cond.code ({ cls := "java/lang/String", name := "valueOf", desc := "(C)Ljava/lang/String;" } : Jvm.MethodName) jdk_42_method_139_code (1 : Nat) (Option.some (Jvm.ClassFile.FieldType.object "java/lang/String"))).before args0 about1 = true := code_word (m := ⟨7, 5⟩) (meth := k7m5) (c := k7c5) (by decide +kernel) rfl rfl rfl (by decide +kernel)
set_option maxRecDepth 65536 in
theorem w_c23 : (Jvm.Cond.code ({ cls := "java/lang/StringLatin1", name := "canEncode", desc := "(C)Z" } : Jvm.MethodName) jdk_43_method_3_code (1 : Nat) (Option.some Jvm.ClassFile.FieldType.boolean)).before args0 about1 = true := code_word (m := ⟨8, 2⟩) (meth := k8m2) (c := k8c2) (by decide +kernel) rfl rfl rfl (by decide +kernel)
set_option maxRecDepth 65536 in
theorem w_c24 : (Jvm.Cond.code ({ cls := "java/lang/StringLatin1", name := "toBytes", desc := "(C)[B" } : Jvm.MethodName) jdk_43_method_46_code (1 : Nat) (Option.some (Jvm.ClassFile.FieldType.array Jvm.ClassFile.FieldType.byte))).before args0 about1 = true := code_word (m := ⟨8, 4⟩) (meth := k8m4) (c := k8c4) (by decide +kernel) rfl rfl rfl (by decide +kernel)
set_option maxRecDepth 65536 in
theorem w_c25 : (Jvm.Cond.code ({ cls := "java/lang/String", name := "<init>", desc := "([BB)V" } : Jvm.MethodName) jdk_42_method_151_code (3 : Nat) (Option.none : Option Jvm.ClassFile.FieldType)).before args0 about1 = true := code_word (m := ⟨7, 7⟩) (meth := k7m7) (c := k7c7) (by decide +kernel) rfl rfl rfl (by decide +kernel)
def codes1 : List Jvm.Cond := [Jvm.Cond.code x code maxLocals ret, Jvm.Cond.code ({ cls := "java/lang/String", name := "length", desc := "()I" } : Jvm.MethodName) jdk_42_method_54_code (1 : Nat) (Option.some Jvm.ClassFile.FieldType.int), Jvm.Cond.code ({ cls := "java/lang/String", name := "coder", desc := "()B" } : Jvm.MethodName) jdk_42_method_152_code (1 : Nat) (Option.some Jvm.ClassFile.FieldType.byte), Jvm.Cond.code ({ cls := "com/example/patient_ledger/patientledger/HoldStatusFromWireNamePinLaw", name := "make", desc := "(I)[C" } : Jvm.MethodName) method_4_code (1 : Nat) (Option.some (Jvm.ClassFile.FieldType.array Jvm.ClassFile.FieldType.char)), Jvm.Cond.code ({ cls := "com/example/patient_ledger/patientledger/HoldStatusFromWireNamePinLaw", name := "put", desc := "([CILjava/lang/String;IIC)V" } : Jvm.MethodName) method_5_code (6 : Nat) (Option.none : Option Jvm.ClassFile.FieldType), Jvm.Cond.code ({ cls := "com/example/patient_ledger/patientledger/HoldStatusFromWireNamePinLaw", name := "at", desc := "(Ljava/lang/String;IICI)C" } : Jvm.MethodName) method_6_code (5 : Nat) (Option.some Jvm.ClassFile.FieldType.char), Jvm.Cond.code ({ cls := "java/lang/String", name := "charAt", desc := "(I)C" } : Jvm.MethodName) jdk_42_method_56_code (2 : Nat) (Option.some Jvm.ClassFile.FieldType.char), Jvm.Cond.code ({ cls := "java/lang/String", name := "isLatin1", desc := "()Z" } : Jvm.MethodName) jdk_42_method_154_code (1 : Nat) (Option.some Jvm.ClassFile.FieldType.boolean), Jvm.Cond.code ({ cls := "java/lang/StringLatin1", name := "charAt", desc := "([BI)C" } : Jvm.MethodName) jdk_43_method_2_code (2 : Nat) (Option.some Jvm.ClassFile.FieldType.char), Jvm.Cond.code ({ cls := "java/lang/String", name := "checkIndex", desc := "(II)V" } : Jvm.MethodName) jdk_42_method_155_code (2 : Nat) (Option.none : Option Jvm.ClassFile.FieldType), Jvm.Cond.code ({ cls := "jdk/internal/util/Preconditions", name := "checkIndex", desc := "(IILjava/util/function/BiFunction;)I" } : Jvm.MethodName) jdk_41_method_11_code (3 : Nat) (Option.some Jvm.ClassFile.FieldType.int), Jvm.Cond.code ({ cls := "java/lang/String", name := "<init>", desc := "([C)V" } : Jvm.MethodName) jdk_42_method_3_code (2 : Nat) (Option.none : Option Jvm.ClassFile.FieldType), Jvm.Cond.code ({ cls := "java/lang/String", name := "<init>", desc := "([CIILjava/lang/Void;)V" } : Jvm.MethodName) jdk_42_method_149_code (6 : Nat) (Option.none : Option Jvm.ClassFile.FieldType), Jvm.Cond.code ({ cls := "java/lang/Object", name := "<init>", desc := "()V" } : Jvm.MethodName) object_method_1_code (1 : Nat) (Option.none : Option Jvm.ClassFile.FieldType), Jvm.Cond.code ({ cls := "java/lang/StringUTF16", name := "compress", desc := "([CII)[B" } : Jvm.MethodName) jdk_52_method_16_code (6 : Nat) (Option.some (Jvm.ClassFile.FieldType.array Jvm.ClassFile.FieldType.byte)), Jvm.Cond.code ({ cls := "java/lang/StringUTF16", name := "compress", desc := "([CI[BII)I" } : Jvm.MethodName) jdk_52_method_21_code (7 : Nat) (Option.some Jvm.ClassFile.FieldType.int), Jvm.Cond.code ({ cls := "java/lang/StringUTF16", name := "coderFromArrayLen", desc := "([BI)B" } : Jvm.MethodName) jdk_52_method_15_code (2 : Nat) (Option.some Jvm.ClassFile.FieldType.byte), Jvm.Cond.code ({ cls := "com/example/patient_ledger/patientledger/HoldStatus", name := "fromWireName", desc := "(Ljava/lang/String;)Lcom/example/patient_ledger/patientledger/HoldStatus;" } : Jvm.MethodName) prog_8_method_5_code (6 : Nat) (Option.some (Jvm.ClassFile.FieldType.object "com/example/patient_ledger/patientledger/HoldStatus")), Jvm.Cond.code ({ cls := "com/example/patient_ledger/patientledger/HoldStatus", name := "values", desc := "()[Lcom/example/patient_ledger/patientledger/HoldStatus;" } : Jvm.MethodName) prog_8_method_1_code (0 : Nat) (Option.some (Jvm.ClassFile.FieldType.array (Jvm.ClassFile.FieldType.object "com/example/patient_ledger/patientledger/HoldStatus"))), Jvm.Cond.code ({ cls := "java/lang/String", name := "equals", desc := "(Ljava/lang/Object;)Z" } : Jvm.MethodName) jdk_42_method_66_code (3 : Nat) (Option.some Jvm.ClassFile.FieldType.boolean), Jvm.Cond.code ({ cls := "java/lang/StringLatin1", name := "equals", desc := "([B[B)Z" } : Jvm.MethodName) jdk_43_method_13_code (3 : Nat) (Option.some Jvm.ClassFile.FieldType.boolean), Jvm.Cond.code ({ cls := "com/example/patient_ledger/patientledger/HoldStatusFromWireNamePinLaw", name := "expected", desc := "(Ljava/lang/String;)Lcom/example/patient_ledger/patientledger/HoldStatus;" } : Jvm.MethodName) method_3_code (1 : Nat) (Option.some (Jvm.ClassFile.FieldType.object "com/example/patient_ledger/patientledger/HoldStatus")), Jvm.Cond.code ({ cls := "java/lang/String", name := "valueOf", desc := "(C)Ljava/lang/String;" } : Jvm.MethodName) jdk_42_method_139_code (1 : Nat) (Option.some (Jvm.ClassFile.FieldType.object "java/lang/String")), Jvm.Cond.code ({ cls := "java/lang/StringLatin1", name := "canEncode", desc := "(C)Z" } : Jvm.MethodName) jdk_43_method_3_code (1 : Nat) (Option.some Jvm.ClassFile.FieldType.boolean), Jvm.Cond.code ({ cls := "java/lang/StringLatin1", name := "toBytes", desc := "(C)[B" } : Jvm.MethodName) jdk_43_method_46_code (1 : Nat) (Option.some (Jvm.ClassFile.FieldType.array Jvm.ClassFile.FieldType.byte)), Jvm.Cond.code ({ cls := "java/lang/String", name := "<init>", desc := "([BB)V" } : Jvm.MethodName) jdk_42_method_151_code (3 : Nat) (Option.none : Option Jvm.ClassFile.FieldType)]
set_option maxRecDepth 65536 in
theorem codes_eq : words1.filter isCode = codes1 := rfl
theorem w_codes : ∀ c ∈ words1.filter isCode, c.before args0 about1 = true := by
  rw [codes_eq]
  intro c hc
  simp only [codes1, List.mem_cons, List.not_mem_nil, or_false] at hc
  rcases hc with rfl | rfl | rfl | rfl | rfl | rfl | rfl | rfl | rfl | rfl | rfl | rfl | rfl | rfl | rfl | rfl | rfl | rfl | rfl | rfl | rfl | rfl | rfl | rfl | rfl | rfl
  · exact w_c0
  · exact w_c1
  · exact w_c2
  · exact w_c3
  · exact w_c4
  · exact w_c5
  · exact w_c6
  · exact w_c7
  · exact w_c8
  · exact w_c9
  · exact w_c10
  · exact w_c11
  · exact w_c12
  · exact w_c13
  · exact w_c14
  · exact w_c15
  · exact w_c16
  · exact w_c17
  · exact w_c18
  · exact w_c19
  · exact w_c20
  · exact w_c21
  · exact w_c22
  · exact w_c23
  · exact w_c24
  · exact w_c25
set_option maxRecDepth 65536 in
theorem w_t1 : (words1.take 24).all (fun c => isCode c || c.before args0 about1) = true := by decide +kernel
set_option maxRecDepth 65536 in
theorem w_t2 : ((words1.drop 24).take 24).all (fun c => isCode c || c.before args0 about1) = true := by decide +kernel
set_option maxRecDepth 65536 in
theorem w_t3 : (((words1.drop 24).drop 24).take 24).all (fun c => isCode c || c.before args0 about1) = true := by decide +kernel
set_option maxRecDepth 65536 in
theorem w_t4 : ((((words1.drop 24).drop 24).drop 24).take 24).all (fun c => isCode c || c.before args0 about1) = true := by decide +kernel
set_option maxRecDepth 65536 in
theorem w_t5 : (((((words1.drop 24).drop 24).drop 24).drop 24).take 24).all (fun c => isCode c || c.before args0 about1) = true := by decide +kernel
set_option maxRecDepth 65536 in
theorem w_t6 : (((((words1.drop 24).drop 24).drop 24).drop 24).drop 24).all (fun c => isCode c || c.before args0 about1) = true := by decide +kernel
theorem w_tables : (allAtoms (Jvm.Cond.code x code maxLocals ret :: tables_1)).before args0 about1 = true := by
  rw [allAtoms_all]
  show words1.all (fun c => c.before args0 about1) = true
  refine all_split ?_ w_codes
  rw [← List.take_append_drop 24 words1, List.all_append, w_t1, ← List.take_append_drop 24 (words1.drop 24), List.all_append, w_t2, ← List.take_append_drop 24 ((words1.drop 24).drop 24), List.all_append, w_t3, ← List.take_append_drop 24 (((words1.drop 24).drop 24).drop 24), List.all_append, w_t4, ← List.take_append_drop 24 ((((words1.drop 24).drop 24).drop 24).drop 24), List.all_append, w_t5, w_t6]
  rfl
set_option maxRecDepth 65536 in
theorem w_rest : rest_1_c.before args0 about1 = true := by decide +kernel
set_option maxRecDepth 65536 in
theorem w_case : (Jvm.Cond.and given_1 narrow_1).before args0 about1 = true := by decide +kernel
set_option maxRecDepth 65536 in
theorem w_consts : constsHeld consts_1 about1 := Jvm.Lit.constsHeldB_iff.mp (by decide +kernel)
theorem w_applies : (headSpec (Jvm.Cond.code x code maxLocals ret :: tables_1) room_1).applies x e0.platform about1 = true :=
  (Spec.applies_iff w_frames).mpr ⟨w_running, w_runnable, w_alone, w_named, w_hears, w_ripe, w_room, w_tables⟩
theorem atStart : AtStart classFile x code maxLocals ret World_1 tables_1 room_1 Calls_1 rest_1 Pre_1 launch0 p0 e0 about1 theMethod args0 below0 :=
  ⟨lists_1, trivial, launch0.admits_env _ _ _, launch0.least_env, fairChoices_fair.cas, fairChoices_fair.clock, w_frames, w_args, w_heap, w_applies, ⟨w_consts, trivial⟩, w_rest, w_case⟩
end start1
theorem witness_1 : WitnessClaimed_1 := ⟨start1.p0, start1.e0, start1.about1, start1.theMethod, start1.args0, start1.below0, start1.atStart⟩
end Jvm.Pilot.@@N@@
