import JvmDerived
import JvmDerived.Pilot.@@N@@Statement
import JvmDerived.Pilot.@@N@@Code
set_option linter.unusedVariables false
set_option linter.unusedSimpArgs false
namespace Jvm.Own
open Jvm Jvm.ClassFile Sem Op Lib Jvm.Free Jvm.Stand Jvm.LawKit Jvm.RoadKit Bundle
section Base
variable {p : Program} {l : Launch} {e : Env} {R : Room} {s : State} {m : MethodId} {args : Array Value} {below : List Frame} {meth : Method} {c : Code} {T : State} {locs : List Loc} {cells slots : Nat} {Z : State} {a0 : Array Value} {h : Heap}
/-- from t the run ends, and its end is as Qf says -/
def Go (p : Program) (e : Env) (below : List Frame) (Qf : Outcome → State → Prop) (t : State) : Prop :=
  ∃ s₂ o, Steps p.tables e below t s₂ ∧ s₂.status = .running ∧ Ended s₂ below o ∧ Qf o s₂
theorem Go.step {Qf : Outcome → State → Prop} {t t' : State} (k : ∀ u, Steps p.tables e below t' u → Steps p.tables e below t u) (h : Go p e below Qf t') : Go p e below Qf t := by
  obtain ⟨s₂, o, h1, h2⟩ := h
  exact ⟨s₂, o, k _ h1, h2⟩
theorem own_join {Qf : Outcome → State → Prop} {t t' : State} (h : Go p e below Qf t → Go p e below Qf t') (k : Go p e below Qf t) : Go p e below Qf t' := h k
theorem own_joinA {α : Type} {P : α → Prop} {Qf : Outcome → State → Prop} {t : α → State} {t' : State} (h : (∀ v, P v → Go p e below Qf (t v)) → Go p e below Qf t') (k : ∀ v, P v → Go p e below Qf (t v)) : Go p e below Qf t' := h k
theorem own_top {Qf : Outcome → State → Prop} {pc : Nat} {Ls : Array Slot} {rest : List Value} {a b : Value} (h : a = b) (k : Go p e below Qf (T.setTop (mkF m pc Ls (b :: rest)))) : Go p e below Qf (T.setTop (mkF m pc Ls (a :: rest))) := by subst h; exact k
/-- the end of a narrow walk -/
def QN (s : State) (rm : Room) (Q : Option Value → Heap → List Loc → Prop) (o : Outcome) (U' : State) : Prop := ∃ v L, o = .returned v ∧ Q v U'.heap L ∧ FrameEnd s o U' L rm.cells rm.slots
abbrev CN (l : Launch) (Z : State) (y : MethodName) (ws : List Jvm.Cond) (rm : Room) (as : Array Value) (h0 : Heap) (Q : Option Value → Heap → List Loc → Prop) : Prop :=
  MetFree l y (head1 ws rm) (fun a U => a = as ∧ Z.Warmed39 U.vm ∧ U.heap = h0) (fun _ _ _ _ _ => True) (fun _ U o U' => ∃ v L, o = .returned v ∧ Q v U'.heap L ∧ FrameEnd U o U' L rm.cells rm.slots)
theorem CN.of {y : MethodName} {bytes : ByteArray} {maxL : Nat} {ret : Option FieldType} {ws : List Jvm.Cond} {rm : Room} {as : Array Value} {h0 : Heap} {Q : Option Value → Heap → List Loc → Prop} {L0 : Array Slot}
    (hp : plainFor y = true) (ef : ∀ m, entryFrame m as maxL = mkF m 0 L0 [])
    (body : ∀ (p : Program) (e : Env) (s : State) (m : MethodId) (below : List Frame) (meth : Method) (c : Code) (s₁ : State), p.tables.exec = Jvm.exec → c.code = bytes → c.maxLocals = maxL → meth.sig.returnType = ret → meth.locks = false → Z.Warmed39 s.vm → s.vm.findClass y.cls = some m.cls → meth.name = y.name → Stand p l e rm s m as below meth c s₁ [] 0 0 → s₁.heap = h0 → Go p e below (QN s rm Q) (s₁.setTop (mkF m 0 L0 []))) :
    CN l Z y (Jvm.Cond.code y bytes maxL ret :: ws) rm as h0 Q := by
  refine MetFree.of_bodySF hp hisR ?_
  intro p e s m args below meth c s₁ Bd hml0 hP hK
  obtain ⟨rfl, hZ, hh⟩ := hP
  have q := body p e s m below meth c s₁ Bd.exec Bd.bytes hml0 Bd.returns Bd.notSynchronized hZ (findClass_of_methodNamed Bd.named) (name_of_methodNamed Bd.named Bd.method).1 (Stand.of_body Bd) (by rw [← hh, Bd.state]; rfl)
  rw [← ef m] at q
  exact q
theorem Go.ret {Q : Option Value → Heap → List Loc → Prop} {rm : Room} {t : State} (X : Stand p l e R s m args below meth c T locs cells slots) (hlk : meth.locks = false) (v : Option Value) (hv : meth.sig.returnType = none → v = none) (hc : cells ≤ rm.cells) (hs : slots ≤ rm.slots) (q : Q v T.heap locs)
    (st : ∀ fs, (∀ (f : JFrame) (acts : List Action), f.method = m → f.locked = none → f.entered = [] → (doReturn e (T.setTop f) acts v).1 = T.setFrames fs) → Steps p.tables e below t (T.setFrames fs)) : Go p e below (QN s rm Q) t := by
  obtain ⟨fs, hr, hrun, hended, hW, hsame⟩ := X.leave (v := v) hv hlk
  exact ⟨_, _, st fs hr, hrun, hended, v, locs, rfl, q, ⟨v, rfl⟩, hW, hsame.mono hc hs⟩
/-- a value comes back -/
theorem Go.retV {Q : Option Value → Heap → List Loc → Prop} {rm : Room} (X : Stand p l e R s m args below meth c T locs cells slots) (hx : p.tables.exec = Jvm.exec) (hlk : meth.locks = false) {pc : Nat} {Ls : Array Slot} {w : Value} {t : FieldType} {i : Instr} {rest : List Value} (hret : meth.sig.returnType = some t) (hn : narrow t w = w)
    (hi : (i = .ireturn ∧ (t = .int ∨ t = .boolean ∨ t = .byte ∨ t = .char ∨ t = .short) ∧ ∃ z, w = .int z) ∨ (i = .lreturn ∧ t = .long ∧ ∃ z, w = .long z) ∨ (i = .dreturn ∧ t = .double ∧ ∃ z, w = .double z) ∨ (i = .freturn ∧ t = .float ∧ ∃ z, w = .float z) ∨ (i = .areturn ∧ t.isReference = true ∧ w.isRef = true))
    (hd : decode c.code pc = .ok (i, 1)) (hc : cells ≤ rm.cells) (hs : slots ≤ rm.slots) (q : Q (some w) T.heap locs) : Go p e below (QN s rm Q) (T.setTop (mkF m pc Ls (w :: rest))) :=
  Go.ret X hlk (some w) (fun h => by rw [hret] at h; cases h) hc hs q fun fs hr => retOut X hx hret hn hi hd hr
/-- nothing comes back -/
theorem Go.ret0 {Q : Option Value → Heap → List Loc → Prop} {rm : Room} (X : Stand p l e R s m args below meth c T locs cells slots) (hx : p.tables.exec = Jvm.exec) (hlk : meth.locks = false) {pc : Nat} {Ls : Array Slot} (hret : meth.sig.returnType = none)
    (hd : decode c.code pc = .ok (.return_, 1)) (hc : cells ≤ rm.cells) (hs : slots ≤ rm.slots) (q : Q none T.heap locs) : Go p e below (QN s rm Q) (T.setTop (mkF m pc Ls [])) :=
  Go.ret X hlk none (fun _ => rfl) hc hs q fun fs hr => X.returnOut hx hret hd hr
/-- what pays a call -/
abbrev Pay (l : Launch) (R : Room) (p : Program) (e : Env) (below : List Frame) (s : State) (args : Array Value) (y : MethodName) (W : Nat) (as : Array Value) (h : Heap) (kc ks : Nat) (QQ : Option Value → Heap → List Loc → Prop) : Prop :=
  Back l R p e below s args y 3 W (fun P a => a = as ∧ P.U.heap = h ∧ P.cells + kc ≤ R.cells ∧ P.slots + ks ≤ R.slots) (fun P _ v B => ∃ L, QQ v B.U.heap L ∧ B.locs = P.locs ++ L ∧ B.cells = P.cells + kc ∧ B.slots = P.slots + ks)
theorem goS (X : Stand p l e R s m args below meth c T locs cells slots) (hx : p.tables.exec = Jvm.exec) (hZ : Z.Warmed39 s.vm) {own : String} {index : Nat} {y : MethodName} {bytes : ByteArray} {maxL : Nat} {ret : Option FieldType} (hown : s.vm.findClass own = some m.cls)
    (w1 : (Jvm.Cond.methodLink own index y).before a0 Z = true) (w2 : (Jvm.Cond.static y).before a0 Z = true) (w3 : (Jvm.Cond.initialized y.cls).before a0 Z = true) (w4 : (Jvm.Cond.code y bytes maxL ret).before a0 Z = true) (hy : y.cls ≠ "java/lang/invoke/MethodHandle" ∧ y.cls ≠ "java/lang/invoke/VarHandle")
    {W kc ks : Nat} {as : Array Value} {QQ : Option Value → Heap → List Loc → Prop} (K : Pay l R p e below s args y W as h kc ks QQ) (eT : T.heap = h) {g : JFrame} (hg : g.method = m) (hsize : g.locals.size = c.maxLocals) {argsL rest : List Value} (has : argsL.toArray = as)
    (hlen : ∀ sig, parseMethodDescriptor y.desc = some sig → argsL.length = sig.parameters.length) (hstack : g.stack = argsL.reverse ++ rest) (hW : 2 * g.monitorRoom + (rest.map fun v => v.category).sum ≤ W) (hd : decode c.code g.pc = .ok (.invokestatic index, 3)) (hc : cells + kc ≤ R.cells) (hs : slots + ks ≤ R.slots) :
    ∃ v T' L, Stand p l e R s m args below meth c T' (locs ++ L) (cells + kc) (slots + ks) ∧ QQ v T'.heap L ∧ ∀ u, Steps p.tables e below (T'.setTop { g with pc := g.pc + 3, stack := v.toList ++ rest }) u → Steps p.tables e below (T.setTop g) u := by
  obtain ⟨v, _, ⟨T', L', k', n'⟩, -, X', ⟨L, hQ, l1, y1, z1⟩, st⟩ := Jvm.LawKit.callS X hx hown (mvT hZ w1) (mvT hZ w2) (mvT hZ w3) (mvT hZ w4) hy K hg hsize hlen hstack hW hd (fun _ _ => ⟨has, eT, hc, hs⟩)
  try dsimp only [Pt.U, Pt.locs, Pt.cells, Pt.slots] at X' l1 y1 z1 st hQ
  subst l1 y1 z1
  exact ⟨v, T', L, X', hQ, st⟩
theorem goC (X : Stand p l e R s m args below meth c T locs cells slots) (hx : p.tables.exec = Jvm.exec) (hZ : Z.Warmed39 s.vm) {own : String} {index : Nat} {y : MethodName} {bytes : ByteArray} {maxL : Nat} (hown : s.vm.findClass own = some m.cls)
    (hy1 : y.name = "<init>") (w1 : (Jvm.Cond.methodLink own index y).before a0 Z = true) (w2 : (Jvm.Cond.instanceMethod y).before a0 Z = true) (w4 : (Jvm.Cond.code y bytes maxL none).before a0 Z = true) (hy : y.cls ≠ "java/lang/invoke/MethodHandle" ∧ y.cls ≠ "java/lang/invoke/VarHandle")
    {W kc ks : Nat} {as : Array Value} {QQ : Option Value → Heap → List Loc → Prop} (K : Pay l R p e below s args y W as h kc ks QQ) (eT : T.heap = h) {g : JFrame} (hg : g.method = m) (hsize : g.locals.size = c.maxLocals) {a : Addr} {argsL rest : List Value} (has : (.ref a :: argsL).toArray = as)
    (hlen : ∀ sig, parseMethodDescriptor y.desc = some sig → argsL.length = sig.parameters.length) (hstack : g.stack = argsL.reverse ++ .ref a :: rest) (hW : 2 * g.monitorRoom + (rest.map fun v => v.category).sum ≤ W) (hd : decode c.code g.pc = .ok (.invokespecial index, 3)) (hc : cells + kc ≤ R.cells) (hs : slots + ks ≤ R.slots) :
    ∃ v T' L, Stand p l e R s m args below meth c T' (locs ++ L) (cells + kc) (slots + ks) ∧ QQ v T'.heap L ∧ ∀ u, Steps p.tables e below (T'.setTop { g with pc := g.pc + 3, stack := v.toList ++ rest }) u → Steps p.tables e below (T.setTop g) u := by
  obtain ⟨v, _, ⟨T', L', k', n'⟩, -, X', ⟨L, hQ, l1, y1, z1⟩, st⟩ := X.specialBack hx hy1 hown (mvT hZ w1) (mvT hZ w2) (mvT hZ w4) hy K hg hsize (Steps.refl _) hlen hstack hW hd (fun _ _ => ⟨has, eT, hc, hs⟩)
  try dsimp only [Pt.U, Pt.locs, Pt.cells, Pt.slots] at X' l1 y1 z1 st hQ
  subst l1 y1 z1
  exact ⟨v, T', L, X', hQ, fun u k => st.trans k⟩
theorem goV (X : Stand p l e R s m args below meth c T locs cells slots) (hx : p.tables.exec = Jvm.exec) (hZ : Z.Warmed39 s.vm) {own C : String} {index : Nat} {y z : MethodName} (hown : s.vm.findClass own = some m.cls)
    (w1 : (Jvm.Cond.methodLink own index y).before a0 Z = true) (w2 : (Jvm.Cond.declares y).before a0 Z = true) (hnf : NotFace s y) (w3 : (Jvm.Cond.selects C y z).before a0 Z = true) (w4 : (Jvm.Cond.instanceMethod z).before a0 Z = true) (hy : y.cls ≠ "java/lang/invoke/MethodHandle" ∧ y.cls ≠ "java/lang/invoke/VarHandle")
    {W kc ks : Nat} {as : Array Value} {QQ : Option Value → Heap → List Loc → Prop} (K : Pay l R p e below s args z W as h kc ks QQ) (eT : T.heap = h) {a : Addr} (E : Exa Z h a C) {g : JFrame} (hg : g.method = m) (hsize : g.locals.size = c.maxLocals) {argsL rest : List Value} (has : (.ref a :: argsL).toArray = as)
    (hlen : ∀ sig, parseMethodDescriptor y.desc = some sig → argsL.length = sig.parameters.length) (hstack : g.stack = argsL.reverse ++ .ref a :: rest) (hW : 2 * g.monitorRoom + (rest.map fun v => v.category).sum ≤ W) (hd : decode c.code g.pc = .ok (.invokevirtual index, 3)) (hc : cells + kc ≤ R.cells) (hs : slots + ks ≤ R.slots) :
    ∃ v T' L, Stand p l e R s m args below meth c T' (locs ++ L) (cells + kc) (slots + ks) ∧ QQ v T'.heap L ∧ ∀ u, Steps p.tables e below (T'.setTop { g with pc := g.pc + 3, stack := v.toList ++ rest }) u → Steps p.tables e below (T.setTop g) u := by
  obtain ⟨cB, kB, q1, q2, q3⟩ := isOf hZ eT E
  obtain ⟨v, _, ⟨T', L', k', n'⟩, -, X', ⟨L, hQ, l1, y1, z1⟩, st⟩ := X.virtualBack hx hown (mvT hZ w1) (mvT hZ w2) hnf (mvT hZ w3) (mvT hZ w4) hy K q1 q3 hg hsize (Steps.refl _) hlen hstack hW hd (fun _ _ => ⟨has, eT, hc, hs⟩)
  try dsimp only [Pt.U, Pt.locs, Pt.cells, Pt.slots] at X' l1 y1 z1 st hQ
  subst l1 y1 z1
  exact ⟨v, T', L, X', hQ, fun u k => st.trans k⟩
/-- .. whose named class does not declare it -/
theorem goU (X : Stand p l e R s m args below meth c T locs cells slots) (hx : p.tables.exec = Jvm.exec) (hZ : Z.Warmed39 s.vm) {own C owner : String} {index : Nat} {y z : MethodName} (hown : s.vm.findClass own = some m.cls)
    (w1 : (Jvm.Cond.methodLink own index y).before a0 Z = true) (w5 : (Jvm.Cond.sameMethod y.cls owner y.name y.desc).before a0 Z = true) (w2 : (Jvm.Cond.declares ⟨owner, y.name, y.desc⟩).before a0 Z = true) (w3 : (Jvm.Cond.selects C y z).before a0 Z = true) (w4 : (Jvm.Cond.instanceMethod z).before a0 Z = true) (hy : owner ≠ "java/lang/invoke/MethodHandle" ∧ owner ≠ "java/lang/invoke/VarHandle")
    {W kc ks : Nat} {as : Array Value} {QQ : Option Value → Heap → List Loc → Prop} (K : Pay l R p e below s args z W as h kc ks QQ) (eT : T.heap = h) {a : Addr} (E : Exa Z h a C) {g : JFrame} (hg : g.method = m) (hsize : g.locals.size = c.maxLocals) {argsL rest : List Value} (has : (.ref a :: argsL).toArray = as)
    (hlen : ∀ sig, parseMethodDescriptor y.desc = some sig → argsL.length = sig.parameters.length) (hstack : g.stack = argsL.reverse ++ .ref a :: rest) (hW : 2 * g.monitorRoom + (rest.map fun v => v.category).sum ≤ W) (hd : decode c.code g.pc = .ok (.invokevirtual index, 3)) (hc : cells + kc ≤ R.cells) (hs : slots + ks ≤ R.slots) :
    ∃ v T' L, Stand p l e R s m args below meth c T' (locs ++ L) (cells + kc) (slots + ks) ∧ QQ v T'.heap L ∧ ∀ u, Steps p.tables e below (T'.setTop { g with pc := g.pc + 3, stack := v.toList ++ rest }) u → Steps p.tables e below (T.setTop g) u := by
  obtain ⟨cB, kB, q1, q2, q3⟩ := isOf hZ eT E
  obtain ⟨v, _, ⟨T', L', k', n'⟩, -, X', ⟨L, hQ, l1, y1, z1⟩, st⟩ := X.virtualBackUp hx hown (mvT hZ w1) (mvT hZ w5) (mvT hZ w2) hy (mvT hZ w3) (mvT hZ w4) K q1 q3 hg hsize (Steps.refl _) hlen hstack hW hd (fun _ _ => ⟨has, eT, hc, hs⟩)
  try dsimp only [Pt.U, Pt.locs, Pt.cells, Pt.slots] at X' l1 y1 z1 st hQ
  subst l1 y1 z1
  exact ⟨v, T', L, X', hQ, fun u k => st.trans k⟩
/-- a private method by invokevirtual -/
theorem goP (X : Stand p l e R s m args below meth c T locs cells slots) (hx : p.tables.exec = Jvm.exec) (hZ : Z.Warmed39 s.vm) {own C : String} {index : Nat} {y : MethodName} {bytes : ByteArray} {maxL : Nat} {ret : Option FieldType} (hown : s.vm.findClass own = some m.cls)
    (w1 : (Jvm.Cond.methodLink own index y).before a0 Z = true) (w2 : (Jvm.Cond.instanceMethod y).before a0 Z = true) (w3 : (Jvm.Cond.selects y.cls y y).before a0 Z = true) (w5 : (Jvm.Cond.privateMethod y).before a0 Z = true) (w4 : (Jvm.Cond.code y bytes maxL ret).before a0 Z = true) (hy : y.cls ≠ "java/lang/invoke/MethodHandle" ∧ y.cls ≠ "java/lang/invoke/VarHandle")
    {W kc ks : Nat} {as : Array Value} {QQ : Option Value → Heap → List Loc → Prop} (K : Pay l R p e below s args y W as h kc ks QQ) (eT : T.heap = h) {a : Addr} (E : Exa Z h a C) {g : JFrame} (hg : g.method = m) (hsize : g.locals.size = c.maxLocals) {argsL rest : List Value} (has : (.ref a :: argsL).toArray = as)
    (hlen : ∀ sig, parseMethodDescriptor y.desc = some sig → argsL.length = sig.parameters.length) (hstack : g.stack = argsL.reverse ++ .ref a :: rest) (hW : 2 * g.monitorRoom + (rest.map fun v => v.category).sum ≤ W) (hd : decode c.code g.pc = .ok (.invokevirtual index, 3)) (hc : cells + kc ≤ R.cells) (hs : slots + ks ≤ R.slots) :
    ∃ v T' L, Stand p l e R s m args below meth c T' (locs ++ L) (cells + kc) (slots + ks) ∧ QQ v T'.heap L ∧ ∀ u, Steps p.tables e below (T'.setTop { g with pc := g.pc + 3, stack := v.toList ++ rest }) u → Steps p.tables e below (T.setTop g) u := by
  obtain ⟨cq, q1, q2⟩ := E.cell
  obtain ⟨v, _, ⟨T', L', k', n'⟩, -, X', ⟨L, hQ, l1, y1, z1⟩, st⟩ := X.privateBack hx hown (mvT hZ w1) (mvT hZ w2) (mvT hZ w3) (Cond.privateMethod_at (mvP hZ w5 (args := #[]))) (mvT hZ w4) hy K hg hsize (Steps.refl _) (by rw [eT]; exact q1) q2 hlen hstack hW hd (fun _ _ => ⟨has, eT, hc, hs⟩)
  try dsimp only [Pt.U, Pt.locs, Pt.cells, Pt.slots] at X' l1 y1 z1 st hQ
  subst l1 y1 z1
  exact ⟨v, T', L, X', hQ, fun u k => st.trans k⟩
theorem lremM {g : JFrame} {target : State} (X : Stand p l e R s m args below meth c T locs cells slots) (hx : p.tables.exec = Jvm.exec) (hg : g.method = m) {x y : Int64} {rest : List Value} (hd : decode c.code g.pc = .ok (.lrem, 1)) (hs : g.stack = .long y :: .long x :: rest) (hy : y ≠ 0)
    (hr : Steps p.tables e below (T.setTop { g with pc := g.pc + 1, stack := .long (x % y) :: rest }) target) : Steps p.tables e below (T.setTop g) target :=
  XS.lrem X.here hx hg hd hs hy (by rw [lrem_mod]; exact hr)
theorem own_cat {v : Value} (h : v.isRef = true) : v.category = 1 := by cases v <;> first | rfl | (simp [Value.isRef] at h; done)
theorem own_narrow_ref {t : FieldType} {v : Value} (h : v.isRef = true) : narrow t v = v := by cases v <;> first | (simp [Value.isRef] at h; done) | (cases t <;> rfl)
theorem own_fits_ref {C : String} {v : Value} (h : v.isRef = true) : fits (.object C) v = true := by cases v <;> simp_all [Value.isRef, fits]
/-- what the case's words say of a static -/
theorem sta_obj {C n d K : String} (hi : (Jvm.Cond.initializedFor C n d).before args s = true ∨ ((Jvm.Cond.initialized C).before args s = true ∧ (Jvm.Cond.laysStatic C n d).before args s = true)) (hx : (Jvm.Cond.exactly (.static C n d) K).value args s none s [] = some true) :
    ∃ a, Sta s s.heap C n d (.ref a) ∧ Exa s s.heap a K ∧ (Term.static C n d).eval args s none [] s = some (.ref a) := by
  obtain ⟨a, e⟩ := exa_v hx
  exact ⟨a, Sta.start e hi, Exa.start e hx, e⟩
theorem fld_l {t : Term} {a : Addr} {C f d : String} {v : Int64} (ev : t.eval args s none [] s = some (.ref a)) (h : (Jvm.Cond.eq (.field t C f d) (.long v)).value args s none s [] = some true) : Fld s s.heap a C f d (.long v) :=
  Fld.start (by rw [← fld_at ev]; exact eqv_l (long_at v) h)
theorem fld_i {t : Term} {a : Addr} {C f d : String} {v : Int32} (ev : t.eval args s none [] s = some (.ref a)) (h : (Jvm.Cond.eq (.field t C f d) (.int v)).value args s none s [] = some true) : Fld s s.heap a C f d (.int v) :=
  Fld.start (by rw [← fld_at ev]; exact eqv_i (Term.int_eval v) h)
theorem b01_ne {P : Prop} [Decidable P] (q : P) : ¬ (if P then (1 : Int32) else 0) = 0 := by rw [if_pos q]; decide
theorem b01_eq {P : Prop} [Decidable P] (q : ¬ P) : (if P then (1 : Int32) else 0) = 0 := if_neg q
theorem b01_nar {P : Prop} [Decidable P] : narrow .boolean (.int (if P then (1 : Int32) else 0)) = .int (if P then (1 : Int32) else 0) := by split <;> rfl
end Base
end Jvm.Own
namespace Jvm.Own
open Jvm Jvm.ClassFile Sem Op Lib Jvm.Free Jvm.Stand Jvm.LawKit Jvm.RoadKit Bundle
section Wide
variable {p : Program} {l : Launch} {e : Env} {R : Room} {s : State} {m : MethodId} {args : Array Value} {below : List Frame} {meth : Method} {c : Code} {T : State} {locs : List Loc} {cells slots : Nat} {Z : State} {a0 : Array Value} {h h0 : Heap} {EL : List (String × Nat)} {vm0 : Vm} {k0 : Nat}
/-- the end of a walk that may intern -/
def QW (Z : State) (EL : List (String × Nat)) (s : State) (rm : Room) (Q : Option Value → Heap → List Loc → Prop) (o : Outcome) (U' : State) : Prop := ∃ v L, o = .returned v ∧ Q v U'.heap L ∧ CHr Z EL s.vm s.heap U'.vm U'.heap ∧ ReturnedEndW s o U' L rm.cells rm.slots
abbrev CW (l : Launch) (Z : State) (EL : List (String × Nat)) (y : MethodName) (ws : List Jvm.Cond) (rm : Room) (as : Array Value) (h0 : Heap) (Q : Option Value → Heap → List Loc → Prop) : Prop :=
  MetFree l y (head1 ws rm) (fun a U => a = as ∧ Z.Warmed39 U.vm ∧ U.heap = h0 ∧ CHv Z EL U.vm h0) (fun _ _ _ _ _ => True) (fun _ U o U' => ∃ v L, o = .returned v ∧ Q v U'.heap L ∧ CHr Z EL U.vm U.heap U'.vm U'.heap ∧ ReturnedEndW U o U' L rm.cells rm.slots)
theorem CW.of {y : MethodName} {bytes : ByteArray} {maxL : Nat} {ret : Option FieldType} {ws : List Jvm.Cond} {rm : Room} {as : Array Value} {Q : Option Value → Heap → List Loc → Prop} {L0 : Array Slot}
    (hp : plainFor y = true) (ef : ∀ m, entryFrame m as maxL = mkF m 0 L0 [])
    (body : ∀ (p : Program) (e : Env) (s : State) (m : MethodId) (below : List Frame) (meth : Method) (c : Code) (s₁ : State), p.tables.exec = Jvm.exec → c.code = bytes → c.maxLocals = maxL → meth.sig.returnType = ret → meth.locks = false → Z.Warmed39 s.vm → s.vm.findClass y.cls = some m.cls → meth.name = y.name → Stand p l e rm (s.setVm s.vm) m as below meth c s₁ [] 0 0 → s₁.heap = h0 → s.Since s.vm h0.size → h0.size ≤ h0.size → CHv Z EL s.vm h0 → s.heap = h0 → Go p e below (QW Z EL s rm Q) (s₁.setTop (mkF m 0 L0 []))) :
    CW l Z EL y (Jvm.Cond.code y bytes maxL ret :: ws) rm as h0 Q := by
  refine MetFree.of_bodySF hp hisR ?_
  intro p e s m args below meth c s₁ Bd hml0 hP hK
  obtain ⟨rfl, hZ, hh, hC⟩ := hP
  have q := body p e s m below meth c s₁ Bd.exec Bd.bytes hml0 Bd.returns Bd.notSynchronized hZ (findClass_of_methodNamed Bd.named) (name_of_methodNamed Bd.named Bd.method).1 (Stand.of_body Bd) (by rw [← hh, Bd.state]; rfl) (State.WarmedH.since (State.WarmedH.refl s) _) (Nat.le_refl _) hC hh
  rw [← ef m] at q
  exact q
theorem Go.retW {Q : Option Value → Heap → List Loc → Prop} {rm : Room} {t : State} (X : Stand p l e R (s.setVm vm0) m args below meth c T locs cells slots) (eT : T.heap = h) (hS : s.Since vm0 k0) (hk : k0 ≤ h.size) (hZ : Z.Warmed39 vm0) (hEL : EW Z a0 EL) (hh0 : s.heap = h0) (HC : CHr Z EL s.vm h0 vm0 h) (hlk : meth.locks = false) (v : Option Value) (hv : meth.sig.returnType = none → v = none) (hc : cells ≤ rm.cells) (hs : slots ≤ rm.slots) (q : Q v T.heap locs)
    (st : ∀ fs, (∀ (f : JFrame) (acts : List Action), f.method = m → f.locked = none → f.entered = [] → (doReturn e (T.setTop f) acts v).1 = T.setFrames fs) → Steps p.tables e below t (T.setFrames fs)) : Go p e below (QW Z EL s rm Q) t := by
  subst eT hh0
  obtain ⟨fs, hr, hrun, hended, hR⟩ := X.leaveW hS hk (v := v) hv hlk
  have q2 : CHr Z EL vm0 T.heap T.vm T.heap := CHv.at X hZ hEL HC.1
  exact ⟨_, _, st fs hr, hrun, hended, v, locs, rfl, q, HC.trans q2, hR.1, hR.2.1, hR.2.2.1, hR.2.2.2.mono hc hs⟩
theorem Go.retVW {Q : Option Value → Heap → List Loc → Prop} {rm : Room} (X : Stand p l e R (s.setVm vm0) m args below meth c T locs cells slots) (eT : T.heap = h) (hS : s.Since vm0 k0) (hk : k0 ≤ h.size) (hZ : Z.Warmed39 vm0) (hEL : EW Z a0 EL) (hh0 : s.heap = h0) (HC : CHr Z EL s.vm h0 vm0 h) (hx : p.tables.exec = Jvm.exec) (hlk : meth.locks = false) {pc : Nat} {Ls : Array Slot} {w : Value} {t : FieldType} {i : Instr} {rest : List Value} (hret : meth.sig.returnType = some t) (hn : narrow t w = w)
    (hi : (i = .ireturn ∧ (t = .int ∨ t = .boolean ∨ t = .byte ∨ t = .char ∨ t = .short) ∧ ∃ z, w = .int z) ∨ (i = .lreturn ∧ t = .long ∧ ∃ z, w = .long z) ∨ (i = .dreturn ∧ t = .double ∧ ∃ z, w = .double z) ∨ (i = .freturn ∧ t = .float ∧ ∃ z, w = .float z) ∨ (i = .areturn ∧ t.isReference = true ∧ w.isRef = true))
    (hd : decode c.code pc = .ok (i, 1)) (hc : cells ≤ rm.cells) (hs : slots ≤ rm.slots) (q : Q (some w) T.heap locs) : Go p e below (QW Z EL s rm Q) (T.setTop (mkF m pc Ls (w :: rest))) :=
  Go.retW X eT hS hk hZ hEL hh0 HC hlk (some w) (fun h => by rw [hret] at h; cases h) hc hs q fun fs hr => retOut X hx hret hn hi hd hr
theorem Go.ret0W {Q : Option Value → Heap → List Loc → Prop} {rm : Room} (X : Stand p l e R (s.setVm vm0) m args below meth c T locs cells slots) (eT : T.heap = h) (hS : s.Since vm0 k0) (hk : k0 ≤ h.size) (hZ : Z.Warmed39 vm0) (hEL : EW Z a0 EL) (hh0 : s.heap = h0) (HC : CHr Z EL s.vm h0 vm0 h) (hx : p.tables.exec = Jvm.exec) (hlk : meth.locks = false) {pc : Nat} {Ls : Array Slot} (hret : meth.sig.returnType = none)
    (hd : decode c.code pc = .ok (.return_, 1)) (hc : cells ≤ rm.cells) (hs : slots ≤ rm.slots) (q : Q none T.heap locs) : Go p e below (QW Z EL s rm Q) (T.setTop (mkF m pc Ls [])) :=
  Go.retW X eT hS hk hZ hEL hh0 HC hlk none (fun _ => rfl) hc hs q fun fs hr => X.returnOut hx hret hd hr
/-- a String whose value isn't set yet is no booked one -/
theorem own_safe_null {x : Addr} {k : Nat} {vm : Vm} (hal : Z.vm.Alike vm) (E : Exa Z h x "java/lang/String") (F : Fld Z h x "java/lang/String" "value" "[B" .null) (wi : (Jvm.Cond.instantiable "java/lang/String" k).before a0 Z = true) : Safe Z EL vm h x := fun B => by
  obtain ⟨p, -, u, a, -, q, -, G, rfl | rfl⟩ := B
  · obtain ⟨cell, cf, k1, i, f, e1, e2, e3, e4, e5, e6, e7⟩ := F
    cases (show h[q.sa]? = some q.sC from G.ha).symm.trans e1
    obtain ⟨cS, ⟨⟨s1, s2, s3, ⟨cv, kv, iv, s4, s4'⟩, ⟨cc, kc, ic, s5, s5'⟩, s6, s7, s8, s9, r⟩, hfS, hcS⟩, r2⟩ := G
    obtain ⟨kv', z4⟩ := ff_back (U := Wst Z vm h) hal s4
    have e8 := e2.symm.trans z4
    simp only [Option.some.injEq, Prod.mk.injEq] at e8
    rw [e8.2.2.2, s8] at e7
    cases e7
  · obtain ⟨cell, k1, e1, e2, e3, -, -⟩ := E
    cases (show h[q.sd]? = some q.SA from G.hd).symm.trans e1
    obtain ⟨cS, -, -, f, -⟩ := G
    have f : vm.findClass "[B" = some q.SA.cls := f
    rw [hal.findClass] at f
    obtain ⟨k2, q1, q2⟩ := Vm.findClass_spec f
    obtain ⟨k3, q3, q4⟩ := Vm.findClass_spec e2
    cases q1.symm.trans q3
    exact absurd (q2.symm.trans q4) (by decide)
abbrev PayW (l : Launch) (R : Room) (p : Program) (e : Env) (below : List Frame) (Z : State) (EL : List (String × Nat)) (s : State) (vm0 : Vm) (args : Array Value) (y : MethodName) (W : Nat) (as : Array Value) (h : Heap) (kc ks : Nat) (QQ : Option Value → Heap → List Loc → Prop) : Prop :=
  BackS l R p e below (s.setVm vm0) args y 3 W (fun P a => a = as ∧ P.U.heap = h ∧ P.cells + kc ≤ R.cells ∧ P.slots + ks ≤ R.slots) (fun P _ v B => ∃ L, QQ v B.U.heap L ∧ B.locs = P.locs ++ L ∧ B.cells = P.cells + kc ∧ B.slots = P.slots + ks ∧ CHr Z EL vm0 h B.U.vm B.U.heap)
/-- what stands behind a call that may intern -/
abbrev AftW (p : Program) (l : Launch) (e : Env) (R : Room) (s : State) (m : MethodId) (args : Array Value) (below : List Frame) (meth : Method) (c : Code) (T : State) (locs : List Loc) (cells slots : Nat) (Z : State) (EL : List (String × Nat)) (vm0 : Vm) (h : Heap) (own : String) (kc ks : Nat) (QQ : Option Value → Heap → List Loc → Prop) (g : JFrame) (rest : List Value) : Prop :=
  ∃ v T' L, Stand p l e R (s.setVm T'.vm) m args below meth c T' (locs ++ L) (cells + kc) (slots + ks) ∧ QQ v T'.heap L ∧ s.Since T'.vm T'.heap.size ∧ Z.Warmed39 T'.vm ∧ T'.vm.findClass own = some m.cls ∧ CHr Z EL vm0 h T'.vm T'.heap ∧ ∀ u, Steps p.tables e below (T'.setTop { g with pc := g.pc + 3, stack := v.toList ++ rest }) u → Steps p.tables e below (T.setTop g) u
theorem goSW (X : Stand p l e R (s.setVm vm0) m args below meth c T locs cells slots) (hx : p.tables.exec = Jvm.exec) (hZ : Z.Warmed39 vm0) {own : String} {index : Nat} {y : MethodName} {bytes : ByteArray} {maxL : Nat} {ret : Option FieldType} (hown : vm0.findClass own = some m.cls) (hS : s.Since vm0 k0) (hk : k0 ≤ h.size)
    (w1 : (Jvm.Cond.methodLink own index y).before a0 Z = true) (w2 : (Jvm.Cond.static y).before a0 Z = true) (w3 : (Jvm.Cond.initialized y.cls).before a0 Z = true) (w4 : (Jvm.Cond.code y bytes maxL ret).before a0 Z = true) (hy : y.cls ≠ "java/lang/invoke/MethodHandle" ∧ y.cls ≠ "java/lang/invoke/VarHandle")
    {W kc ks : Nat} {as : Array Value} {QQ : Option Value → Heap → List Loc → Prop} (K : PayW l R p e below Z EL s vm0 args y W as h kc ks QQ) (eT : T.heap = h) {g : JFrame} (hg : g.method = m) (hsize : g.locals.size = c.maxLocals) {argsL rest : List Value} (has : argsL.toArray = as)
    (hlen : ∀ sig, parseMethodDescriptor y.desc = some sig → argsL.length = sig.parameters.length) (hstack : g.stack = argsL.reverse ++ rest) (hW : 2 * g.monitorRoom + (rest.map fun v => v.category).sum ≤ W) (hd : decode c.code g.pc = .ok (.invokestatic index, 3)) (hc : cells + kc ≤ R.cells) (hs : slots + ks ≤ R.slots) :
    AftW p l e R s m args below meth c T locs cells slots Z EL vm0 h own kc ks QQ g rest := by
  subst eT
  obtain ⟨v, _, ⟨T', L', k', n'⟩, -, X', h2, gl, ⟨L, hQ, l1, y1, z1, hC⟩, st⟩ := callSS X hx hown (mvT (s := s.setVm vm0) hZ w1) (mvT (s := s.setVm vm0) hZ w2) (mvT (s := s.setVm vm0) hZ w3) (mvT (s := s.setVm vm0) hZ w4) hy K hg hsize hlen hstack hW hd (fun _ _ => ⟨has, rfl, hc, hs⟩)
  try dsimp only [Pt.U, Pt.locs, Pt.cells, Pt.slots] at X' l1 y1 z1 st hQ h2 gl hC
  subst l1 y1 z1
  obtain ⟨a1, a2, a3, a4⟩ := rebS hS hk X' h2 gl hZ hown
  exact ⟨v, T', L, a1, hQ, a2, a3, a4, hC, fun u k => st.trans k⟩
theorem goCW (X : Stand p l e R (s.setVm vm0) m args below meth c T locs cells slots) (hx : p.tables.exec = Jvm.exec) (hZ : Z.Warmed39 vm0) {own : String} {index : Nat} {y : MethodName} {bytes : ByteArray} {maxL : Nat} (hown : vm0.findClass own = some m.cls) (hS : s.Since vm0 k0) (hk : k0 ≤ h.size)
    (hy1 : y.name = "<init>") (w1 : (Jvm.Cond.methodLink own index y).before a0 Z = true) (w2 : (Jvm.Cond.instanceMethod y).before a0 Z = true) (w4 : (Jvm.Cond.code y bytes maxL none).before a0 Z = true) (hy : y.cls ≠ "java/lang/invoke/MethodHandle" ∧ y.cls ≠ "java/lang/invoke/VarHandle")
    {W kc ks : Nat} {as : Array Value} {QQ : Option Value → Heap → List Loc → Prop} (K : PayW l R p e below Z EL s vm0 args y W as h kc ks QQ) (eT : T.heap = h) {g : JFrame} (hg : g.method = m) (hsize : g.locals.size = c.maxLocals) {a : Addr} {argsL rest : List Value} (has : (.ref a :: argsL).toArray = as)
    (hlen : ∀ sig, parseMethodDescriptor y.desc = some sig → argsL.length = sig.parameters.length) (hstack : g.stack = argsL.reverse ++ .ref a :: rest) (hW : 2 * g.monitorRoom + (rest.map fun v => v.category).sum ≤ W) (hd : decode c.code g.pc = .ok (.invokespecial index, 3)) (hc : cells + kc ≤ R.cells) (hs : slots + ks ≤ R.slots) :
    AftW p l e R s m args below meth c T locs cells slots Z EL vm0 h own kc ks QQ g rest := by
  subst eT
  obtain ⟨v, _, ⟨T', L', k', n'⟩, -, X', h2, gl, ⟨L, hQ, l1, y1, z1, hC⟩, st⟩ := X.specialBackS hx hy1 hown (mvT (s := s.setVm vm0) hZ w1) (mvT (s := s.setVm vm0) hZ w2) (mvT (s := s.setVm vm0) hZ w4) hy K hg hsize (Steps.refl _) hlen hstack hW hd (fun _ _ => ⟨has, rfl, hc, hs⟩)
  try dsimp only [Pt.U, Pt.locs, Pt.cells, Pt.slots] at X' l1 y1 z1 st hQ h2 gl hC
  subst l1 y1 z1
  obtain ⟨a1, a2, a3, a4⟩ := rebS hS hk X' h2 gl hZ hown
  exact ⟨v, T', L, a1, hQ, a2, a3, a4, hC, fun u k => st.trans k⟩
theorem goVW (X : Stand p l e R (s.setVm vm0) m args below meth c T locs cells slots) (hx : p.tables.exec = Jvm.exec) (hZ : Z.Warmed39 vm0) {own C : String} {index : Nat} {y z : MethodName} (hown : vm0.findClass own = some m.cls) (hS : s.Since vm0 k0) (hk : k0 ≤ h.size)
    (w1 : (Jvm.Cond.methodLink own index y).before a0 Z = true) (w2 : (Jvm.Cond.declares y).before a0 Z = true) (hnf : NotFace (s.setVm vm0) y) (w3 : (Jvm.Cond.selects C y z).before a0 Z = true) (w4 : (Jvm.Cond.instanceMethod z).before a0 Z = true) (hy : y.cls ≠ "java/lang/invoke/MethodHandle" ∧ y.cls ≠ "java/lang/invoke/VarHandle")
    {W kc ks : Nat} {as : Array Value} {QQ : Option Value → Heap → List Loc → Prop} (K : PayW l R p e below Z EL s vm0 args z W as h kc ks QQ) (eT : T.heap = h) {a : Addr} (E : Exa Z h a C) {g : JFrame} (hg : g.method = m) (hsize : g.locals.size = c.maxLocals) {argsL rest : List Value} (has : (.ref a :: argsL).toArray = as)
    (hlen : ∀ sig, parseMethodDescriptor y.desc = some sig → argsL.length = sig.parameters.length) (hstack : g.stack = argsL.reverse ++ .ref a :: rest) (hW : 2 * g.monitorRoom + (rest.map fun v => v.category).sum ≤ W) (hd : decode c.code g.pc = .ok (.invokevirtual index, 3)) (hc : cells + kc ≤ R.cells) (hs : slots + ks ≤ R.slots) :
    AftW p l e R s m args below meth c T locs cells slots Z EL vm0 h own kc ks QQ g rest := by
  subst eT
  obtain ⟨cB, kB, q1, q2, q3⟩ := isOf (s := s.setVm vm0) hZ rfl E
  obtain ⟨v, _, ⟨T', L', k', n'⟩, -, X', h2, gl, ⟨L, hQ, l1, y1, z1, hC⟩, st⟩ := X.virtualBackS hx hown (mvT (s := s.setVm vm0) hZ w1) (mvT (s := s.setVm vm0) hZ w2) hnf (mvT (s := s.setVm vm0) hZ w3) (mvT (s := s.setVm vm0) hZ w4) hy K q1 q3 hg hsize (Steps.refl _) hlen hstack hW hd (fun _ _ => ⟨has, rfl, hc, hs⟩)
  try dsimp only [Pt.U, Pt.locs, Pt.cells, Pt.slots] at X' l1 y1 z1 st hQ h2 gl hC
  subst l1 y1 z1
  obtain ⟨a1, a2, a3, a4⟩ := rebS hS hk X' h2 gl hZ hown
  exact ⟨v, T', L, a1, hQ, a2, a3, a4, hC, fun u k => st.trans k⟩
end Wide
end Jvm.Own
namespace Jvm.Own
open Jvm Jvm.ClassFile Sem Op Lib Jvm.Free Jvm.Stand Jvm.LawKit Jvm.RoadKit Bundle
section Strs
variable {Z : State} {h h' : Heap} {x : Addr} {cs : List Int32} {B B' : Nat} {a : Addr} {sl : Nat} {v : Value} {ws : List Addr}
/-- at x stands a String of the chars cs (each 0 to 255), it and its array below B -/
def Str (Z : State) (B : Nat) (h : Heap) (x : Addr) (cs : List Int32) : Prop := ∃ (t : Addr) (kb : ClassId), x < B ∧ t < B ∧ Exa Z h x "java/lang/String" ∧ Fld Z h x "java/lang/String" "value" "[B" (.ref t) ∧ Fld Z h x "java/lang/String" "coder" "B" (.int 0) ∧ Arv Z h t kb .byte (Int32.ofNat cs.length) ((cs.map fun c => c.toInt8.toInt32).map Value.int) (.int 0) ∧ (∀ c ∈ cs, ¬ c < 0 ∧ ¬ (255 : Int32) < c) ∧ cs.length ≤ 4000
theorem Str.ext (F : Str Z B h x cs) (E : Ext h h') : Str Z B h' x cs := by
  obtain ⟨t, kb, h1, h2, a, b, c, d, r⟩ := F; exact ⟨t, kb, h1, h2, a.ext E, b.ext E, c.ext E, d.ext E, r⟩
theorem Str.wr (F : Str Z B h x cs) (W : Wr h h' a sl v) (q : B ≤ a) : Str Z B h' x cs := by
  obtain ⟨t, kb, h1, h2, a, b, c, d, r⟩ := F
  exact ⟨t, kb, h1, h2, a.wr W, b.other W (Or.inl (Nat.ne_of_lt (Nat.lt_of_lt_of_le h1 q))), c.other W (Or.inl (Nat.ne_of_lt (Nat.lt_of_lt_of_le h1 q))), d.other W (Nat.ne_of_lt (Nat.lt_of_lt_of_le h2 q)), r⟩
theorem Str.wrE {C : String} {k : Nat} {a0 : Array Value} (F : Str Z B h x cs) (W : Wr h h' a sl v) (E : Exa Z h a C) (hC : C ≠ "java/lang/String") (wi : (Jvm.Cond.instantiable C k).before a0 Z = true) : Str Z B h' x cs := by
  obtain ⟨t, kb, h1, h2, a, b, c, d, r⟩ := F
  have n1 := (ne_exa E a hC).symm
  exact ⟨t, kb, h1, h2, a.wr W, b.other W (Or.inl n1), c.other W (Or.inl n1), d.other W (Exa.neArv E d wi).symm, r⟩
theorem Str.keep (F : Str Z B h x cs) (K : Keep h h' ws) (q : ∀ w ∈ ws, B ≤ w) : Str Z B h' x cs := by
  obtain ⟨t, kb, h1, h2, a, b, c, d, r⟩ := F
  have n1 : x ∉ ws := fun z => absurd h1 (Nat.not_lt.mpr (q _ z))
  have n2 : t ∉ ws := fun z => absurd h2 (Nat.not_lt.mpr (q _ z))
  exact ⟨t, kb, h1, h2, a.keep K, b.keep K n1, c.keep K n1, d.keep K n2, r⟩
theorem Str.keepE (F : Str Z B h x cs) (K : Keep h h' ws) (q : ∀ w ∈ ws, B ≤ w ∨ ∃ (C : String) (k : Nat) (a0 : Array Value), Exa Z h w C ∧ C ≠ "java/lang/String" ∧ (Jvm.Cond.instantiable C k).before a0 Z = true) : Str Z B h' x cs := by
  obtain ⟨t, kb, h1, h2, a, b, c, d, r⟩ := F
  have n1 : x ∉ ws := fun z => (q _ z).elim (fun u => absurd h1 (Nat.not_lt.mpr u)) (fun ⟨C, k, a0, E, hC, wi⟩ => ne_exa E a hC rfl)
  have n2 : t ∉ ws := fun z => (q _ z).elim (fun u => absurd h2 (Nat.not_lt.mpr u)) (fun ⟨C, k, a0, E, hC, wi⟩ => Exa.neArv E d wi rfl)
  exact ⟨t, kb, h1, h2, a.keep K, b.keep K n1, c.keep K n1, d.keep K n2, r⟩
theorem Str.mono (F : Str Z B h x cs) (q : B ≤ B') : Str Z B' h x cs := by
  obtain ⟨t, kb, h1, h2, r⟩ := F; exact ⟨t, kb, Nat.lt_of_lt_of_le h1 q, Nat.lt_of_lt_of_le h2 q, r⟩
theorem Str.lt (F : Str Z B h x cs) : x < B := by obtain ⟨t, kb, h1, r⟩ := F; exact h1
theorem Str.exa (F : Str Z B h x cs) : Exa Z h x "java/lang/String" := by obtain ⟨t, kb, h1, h2, a, r⟩ := F; exact a
theorem Str.lat (F : Str Z B h x cs) : ∀ c ∈ cs, ¬ c < 0 ∧ ¬ (255 : Int32) < c := by obtain ⟨t, kb, h1, h2, a, b, c, d, r, -⟩ := F; exact r
theorem Str.le4 (F : Str Z B h x cs) : cs.length ≤ 4000 := by obtain ⟨t, kb, h1, h2, a, b, c, d, r, q⟩ := F; exact q
theorem up255 {cs : List Int32} (hp : ∀ c ∈ cs, ¬ c < 0 ∧ ¬ (255 : Int32) < c) : ∀ c ∈ cs, ¬ c < 0 ∧ ¬ (65535 : Int32) < c := fun c hc => ⟨(hp c hc).1, fun q => (hp c hc).2 (by
  rw [Int32.lt_iff_toInt_lt] at q ⊢
  have e1 : (65535 : Int32).toInt = 65535 := by decide
  have e2 : (255 : Int32).toInt = 255 := by decide
  omega)⟩
end Strs
end Jvm.Own
namespace Jvm.Own
open Jvm Jvm.ClassFile Sem Op Lib Jvm.Free Jvm.Stand Jvm.LawKit Jvm.RoadKit Bundle
section Supers
variable {p : Program} {l : Launch} {e : Env} {R : Room} {s : State} {m : MethodId} {args : Array Value} {below : List Frame} {meth : Method} {c : Code} {T : State} {locs : List Loc} {cells slots : Nat} {Z : State} {a0 : Array Value} {h : Heap}
theorem sel_priv {K : String} {y : MethodName} (w : (Jvm.Cond.selects K y y).before args s = true) (hp : s.PrivateAt y) (hi : (Jvm.Cond.instanceMethod y).before args s = true) (hy : y.cls ≠ "java/lang/invoke/MethodHandle" ∧ y.cls ≠ "java/lang/invoke/VarHandle") : (Jvm.Cond.selects y.cls y y).before args s = true := by
  obtain ⟨mk, methM, hnamed, hmethM, -, -⟩ := Cond.instanceMethod_spec hi
  obtain ⟨c2, r2, m2, -, -, q3, -, kP, hkP, hkPi⟩ := Cond.selects_spec w
  cases hnamed.symm.trans q3
  exact selects_self_of_private (findClass_of_methodNamed hnamed) hkP hkPi hp hi hy
theorem same_own {K : String} {y z : MethodName} (hi : (Jvm.Cond.instanceMethod y).before args s = true) (w : (Jvm.Cond.selects K z z).before args s = true) (hc : z.cls = y.cls) (hy : y.cls ≠ "java/lang/invoke/MethodHandle" ∧ y.cls ≠ "java/lang/invoke/VarHandle") : (Jvm.Cond.sameMethod y.cls y.cls y.name y.desc).before args s = true := by
  obtain ⟨mk, methM, hnamed, hmethM, -, -⟩ := Cond.instanceMethod_spec hi
  obtain ⟨c2, r2, m2, -, -, q3, -, kP, hkP, hkPi⟩ := Cond.selects_spec w
  have f1 := findClass_of_methodNamed hnamed
  have f2 := findClass_of_methodNamed q3
  rw [hc] at f2
  have f3 : mk.cls = m2.cls := Option.some.inj (f1.symm.trans f2)
  have hfound : s.methodFound? y.cls y.name y.desc = some mk := State.methodFound?_of_named hnamed hy
  have hn : s.methodNamed? ⟨y.cls, y.name, y.desc⟩ = some mk := hnamed
  simp only [Cond.before, Cond.holds, Cond.value, f1, hfound, hn, f3, hkP]
  simp [hkPi]
theorem nf_own {K : String} {y z : MethodName} (w : (Jvm.Cond.selects K z z).before args s = true) (hc : z.cls = y.cls) : NotFace s y := by
  intro r0 hn
  obtain ⟨c2, r2, m2, -, -, q3, -, kP, hkP, hkPi⟩ := Cond.selects_spec w
  have f1 := findClass_of_methodNamed hn
  have f2 := findClass_of_methodNamed q3
  rw [hc] at f2
  have f3 : r0.cls = m2.cls := Option.some.inj (f1.symm.trans f2)
  exact ⟨kP, by rw [f3]; exact hkP, hkPi⟩
/-- super.m(..) -/
theorem goSup (X : Stand p l e R s m args below meth c T locs cells slots) (hx : p.tables.exec = Jvm.exec) (hZ : Z.Warmed39 s.vm) {own K : String} {index : Nat} {y : MethodName} {bytes : ByteArray} {maxL : Nat} {ret : Option FieldType} (hown : s.vm.findClass own = some m.cls)
    (w1 : (Jvm.Cond.methodLink own index y).before a0 Z = true) (w2 : (Jvm.Cond.sameMethod y.cls y.cls y.name y.desc).before a0 Z = true) (w3 : (Jvm.Cond.instanceMethod y).before a0 Z = true) (w4 : (Jvm.Cond.superclass own y.cls).before a0 Z = true) (hn : y.name ≠ "<init>")
    {W kc ks : Nat} {as : Array Value} {QQ : Option Value → Heap → List Loc → Prop} (P : Pay l R p e below s args y W as h kc ks QQ) (eT : T.heap = h) {a : Addr} (F : Ins Z h a K true) (wc : (Jvm.Cond.code y bytes maxL ret).before a0 Z = true) {g : JFrame} (hg : g.method = m) (hsize : g.locals.size = c.maxLocals) {argsL rest : List Value} (has : (.ref a :: argsL).toArray = as)
    (hlen : ∀ sig, parseMethodDescriptor y.desc = some sig → argsL.length = sig.parameters.length) (hstack : g.stack = argsL.reverse ++ .ref a :: rest) (hW : 2 * g.monitorRoom + (rest.map fun v => v.category).sum ≤ W) (hd : decode c.code g.pc = .ok (.invokespecial index, 3)) (hc : cells + kc ≤ R.cells) (hs : slots + ks ≤ R.slots) :
    ∃ v T' L, Stand p l e R s m args below meth c T' (locs ++ L) (cells + kc) (slots + ks) ∧ QQ v T'.heap L ∧ ∀ u, Steps p.tables e below (T'.setTop { g with pc := g.pc + 3, stack := v.toList ++ rest }) u → Steps p.tables e below (T.setTop g) u := by
  obtain ⟨v, _, ⟨T', L', k', n'⟩, -, X', ⟨L, hQ, l1, y1, z1⟩, st⟩ := superBack X hx hZ hown w1 w2 w3 w4 hn P eT F hg hsize wc hlen hstack hW hd (fun _ _ => ⟨has, eT, hc, hs⟩)
  try dsimp only [Pt.U, Pt.locs, Pt.cells, Pt.slots] at X' l1 y1 z1 st hQ
  subst l1 y1 z1
  exact ⟨v, T', L, X', hQ, fun u k => st.trans k⟩
end Supers
end Jvm.Own
/- laws to paste: Road.backV, Road.lenW, Road.chN, Road.codOf (cut by pick.py; bodies as the Statement names them) -/
namespace Jvm.Pilot.@@N@@
namespace StrChars
open Jvm Sem ClassFile Op Lib Jvm.Stand Jvm.Free.XT Jvm.Free.ALB Jvm.Free.JM Jvm.Free
open Jvm.Lib.Cold (StaticIs)
/-- a char array whose places are chars -/
def Ch (a : Addr) (A : Cell) (U : State) : Prop := Arr .char a A U ∧ Typed .char A
theorem Ch.mv {a : Addr} {A : Cell} {U U' : State} (h : Ch a A U) (hal : U.vm.Alike U'.vm) (hh : U'.heap = U.heap) : Ch a A U' := ⟨h.1.mv hal hh, h.2⟩
theorem Ch.keep {a : Addr} {A : Cell} {U U' : State} (h : Ch a A U) (hal : U.vm.Alike U'.vm) (hk : U'.heap[a]? = some A) : Ch a A U' := ⟨h.1.keep hal hk, h.2⟩
/-- what place i of a char[]'s cell holds -/
def cv (A : Cell) (i : Nat) : Int32 := match A.slots[i]? with | some (.int x) => x | _ => 0
theorem Ch.get {a : Addr} {A : Cell} {U : State} (h : Ch a A U) {i : Nat} (hi : i < A.slots.size) : A.slots[i]? = some (.int (cv A i)) := by
  have e := Array.getElem?_eq_getElem hi
  have f := h.2 i _ e
  unfold cv; rw [e]
  generalize A.slots[i] = v at f
  cases v <;> simp [fits] at f ⊢
/-- the byte that i2b leaves of a char -/
def lo8 (x : Int32) : Int32 := x.toInt8.toInt32
theorem fits_lo8 (y : Int32) : fits .byte (.int (lo8 y)) = true := by
  have h1 := y.toInt8.le_toInt
  have h2 := y.toInt8.toInt_lt
  simp only [lo8, fits, Bool.and_eq_true, decide_eq_true_eq, Int32.le_iff_toInt_le, Int8.toInt_toInt32, show (-128 : Int32).toInt = -128 from by decide, show (127 : Int32).toInt = 127 from by decide]
  omega
/-- A' is A but that each place j of lo .. hi - 1 holds f j -/
def Laid (A A' : Cell) (lo hi : Nat) (f : Nat → Value) : Prop := A'.cls = A.cls ∧ A'.vm = A.vm ∧ A'.slots.size = A.slots.size ∧ ∀ i, A'.slots[i]? = if lo ≤ i ∧ i < hi then some (f i) else A.slots[i]?
theorem Laid.zero (A : Cell) (lo : Nat) (f : Nat → Value) : Laid A A lo (lo + 0) f := ⟨rfl, rfl, rfl, fun i => by rw [if_neg (by omega)]⟩
theorem Laid.step {A Ak : Cell} {lo k : Nat} {f : Nat → Value} {v : Value} (h : Laid A Ak lo k f) (hlo : lo ≤ k) (hk : k < Ak.slots.size) (hv : v = f k) : Laid A (Ak.setSlot k v) lo (k + 1) f := by
  refine ⟨h.1, h.2.1, by simpa [Cell.setSlot] using h.2.2.1, fun i => ?_⟩
  by_cases e : k = i
  · subst e; rw [Cell.slots_setSlot_self v hk, if_pos (by omega), hv]
  · rw [Cell.slots_setSlot_ne v e, h.2.2.2 i]
    by_cases q : lo ≤ i ∧ i < k
    · rw [if_pos q, if_pos (by omega)]
    · rw [if_neg q, if_neg (by omega)]
def U16 : String := "java/lang/StringUTF16"
namespace Cmp5
def yN : MethodName := ⟨"java/lang/StringUTF16", "compress", "([CI[BII)I"⟩
abbrev yB : ByteArray := jdk_52_method_21_code
theorem d0 : decode yB 0 = .ok (.iconst 0, 1) := by decide +kernel
theorem d1 : decode yB 1 = .ok (.istore 5, 2) := by decide +kernel
theorem d3 : decode yB 3 = .ok (.iload 5, 2) := by decide +kernel
theorem d5 : decode yB 5 = .ok (.iload 4, 2) := by decide +kernel
theorem d7 : decode yB 7 = .ok (.if_icmp (.ge) 37, 3) := by decide +kernel
theorem d10 : decode yB 10 = .ok (.aload_n 0, 1) := by decide +kernel
theorem d11 : decode yB 11 = .ok (.iload_n 1, 1) := by decide +kernel
theorem d12 : decode yB 12 = .ok (.caload, 1) := by decide +kernel
theorem d13 : decode yB 13 = .ok (.istore 6, 2) := by decide +kernel
theorem d15 : decode yB 15 = .ok (.iload 6, 2) := by decide +kernel
theorem d17 : decode yB 17 = .ok (.sipush 255, 3) := by decide +kernel
theorem d20 : decode yB 20 = .ok (.if_icmp (.le) 6, 3) := by decide +kernel
theorem d26 : decode yB 26 = .ok (.aload_n 2, 1) := by decide +kernel
theorem d27 : decode yB 27 = .ok (.iload_n 3, 1) := by decide +kernel
theorem d28 : decode yB 28 = .ok (.iload 6, 2) := by decide +kernel
theorem d30 : decode yB 30 = .ok (.i2b, 1) := by decide +kernel
theorem d31 : decode yB 31 = .ok (.bastore, 1) := by decide +kernel
theorem d32 : decode yB 32 = .ok (.iinc 1 1, 3) := by decide +kernel
theorem d35 : decode yB 35 = .ok (.iinc 3 1, 3) := by decide +kernel
theorem d38 : decode yB 38 = .ok (.iinc 5 1, 3) := by decide +kernel
theorem d41 : decode yB 41 = .ok (.goto (-38), 3) := by decide +kernel
theorem d44 : decode yB 44 = .ok (.iload 4, 2) := by decide +kernel
theorem d46 : decode yB 46 = .ok (.ireturn, 1) := by decide +kernel
def site : List Cond := []
def tab : Cond := tabOf yN yB 7 (some .int) site
def P (b : Addr) (A : Cell) (d : Addr) (B : Cell) (o q len : Nat) (args : Array Value) (s : State) : Prop := args = #[.ref b, .int (Int32.ofNat o), .ref d, .int (Int32.ofNat q), .int (Int32.ofNat len)] ∧ Ch b A s ∧ Arr .byte d B s ∧ b ≠ d ∧ o + len ≤ A.slots.size ∧ q + len ≤ B.slots.size ∧ ∀ i, i < len → ¬ 255 < cv A (o + i)
def E (b : Addr) (A : Cell) (d : Addr) (B : Cell) (o q len : Nat) (r : Option Value) (s u : State) : Prop := r = some (.int (Int32.ofNat len)) ∧ ∃ B', Put d B' s u ∧ Laid B B' q (q + len) (fun j => Value.int (lo8 (cv A (o + (j - q)))))
/-- no char of the range above 255: len; the places written hold each char's low byte -/
theorem law (l : Launch) (b : Addr) (A : Cell) (d : Addr) (B : Cell) (o q len : Nat) : Law l yN 5 5 0 0 yB 7 (some .int) site (P b A d B o q len) (E b A d B o q len) (copyLocs d q len) 0 0 := by
  refine Law.of_walk (plainFor_of_name (by decide +kernel)) (by decide +kernel) (by decide +kernel) (by decide) (fun _ _ h => by rw [h.1]; rfl) (fun _ U U' hal hh h => ⟨h.1, h.2.1.mv hal hh, h.2.2.1.mv hal hh, h.2.2.2⟩) (fun r U U' V V' h1 hal h2 h => ⟨h.1, h.2.elim fun B' q => ⟨B', q.1.mv h1 h2, q.2⟩⟩) ?_
  intro p e s m args below meth c s₁ X0 hexec hbytes hml hret hlk hnm hown hh0 W hP
  obtain ⟨rfl, hA, hB, hne, l1, l2, hp⟩ := hP
  have c1 : Steps p.tables e below (s₁.setTop (entryFrame m #[.ref b, .int (Int32.ofNat o), .ref d, .int (Int32.ofNat q), .int (Int32.ofNat len)] 7)) (s₁.setTop (mkF m 0 #[.val (.ref b), .val (.int (Int32.ofNat o)), .val (.ref d), .val (.int (Int32.ofNat q)), .val (.int (Int32.ofNat len)), .unset, .unset] [])) := entry rfl
  have hA0 := hA.1.mv X0.warmed.alike hh0
  have hB0 := hB.mv X0.warmed.alike hh0
  have a31 := hA.1.2.2.2
  have c2 : Steps p.tables e below (s₁.setTop (entryFrame m #[.ref b, .int (Int32.ofNat o), .ref d, .int (Int32.ofNat q), .int (Int32.ofNat len)] 7)) (s₁.setTop (mkF m 3 #[.val (.ref b), .val (.int (Int32.ofNat o)), .val (.ref d), .val (.int (Int32.ofNat q)), .val (.int (Int32.ofNat len)), .val (.int 0), .unset] [])) := c1.trans (by
    refine iconstV X0.here hexec rfl 0 (hb hbytes d0) (by decide) ?_
    refine XS.istore X0.here hexec rfl (hb hbytes d1) rfl rfl ?_
    exact Steps.refl _)
  have loop : ∀ (r i : Nat), i + r = len → ∀ (z : Slot), (z = .unset ∨ ∃ w, z = .val w ∧ w.category = 1) → ∀ (Tl : State) (Bk : Cell), Stand p l e { frames := 0, locals := 0, cells := 0, slots := 0 } s m #[.ref b, .int (Int32.ofNat o), .ref d, .int (Int32.ofNat q), .int (Int32.ofNat len)] below meth c Tl ([] ++ copyLocs d q i) 0 0 → Put d Bk s₁ Tl → Laid B Bk q (q + i) (fun j => Value.int (lo8 (cv A (o + (j - q))))) →
      Steps p.tables e below (s₁.setTop (entryFrame m #[.ref b, .int (Int32.ofNat o), .ref d, .int (Int32.ofNat q), .int (Int32.ofNat len)] 7)) (Tl.setTop (mkF m 3 #[.val (.ref b), .val (.int (Int32.ofNat (o + i))), .val (.ref d), .val (.int (Int32.ofNat (q + i))), .val (.int (Int32.ofNat len)), .val (.int (Int32.ofNat i)), z] [])) → ∃ (T' : State) (B' : Cell) (z' : Slot), Stand p l e { frames := 0, locals := 0, cells := 0, slots := 0 } s m #[.ref b, .int (Int32.ofNat o), .ref d, .int (Int32.ofNat q), .int (Int32.ofNat len)] below meth c T' ([] ++ copyLocs d q len) 0 0 ∧ Put d B' s₁ T' ∧ Laid B B' q (q + len) (fun j => Value.int (lo8 (cv A (o + (j - q))))) ∧
      Steps p.tables e below (s₁.setTop (entryFrame m #[.ref b, .int (Int32.ofNat o), .ref d, .int (Int32.ofNat q), .int (Int32.ofNat len)] 7)) (T'.setTop (mkF m 3 #[.val (.ref b), .val (.int (Int32.ofNat (o + len))), .val (.ref d), .val (.int (Int32.ofNat (q + len))), .val (.int (Int32.ofNat len)), .val (.int (Int32.ofNat len)), z'] [])) := by
    intro r
    induction r with
    | zero =>
      intro i hi z hz Tl Bk Xl pl fl cl
      have hil : i = len := by omega
      rw [hil] at Xl fl cl
      exact ⟨Tl, Bk, z, Xl, pl, fl, cl⟩
    | succ r ih =>
      intro i hi z hz Tl Bk Xl pl fl cl
      have all := X0.warmed.alike.symm.trans Xl.warmed.alike
      have hAl := hA0.keep all (pl.other hne hA0.1)
      have hBk := hB0.like all pl.1 fl.1 fl.2.1 fl.2.2.1
      have hlt : q + i < Bk.slots.size := by rw [fl.2.2.1]; omega
      have c3 : Steps p.tables e below (s₁.setTop (entryFrame m #[.ref b, .int (Int32.ofNat o), .ref d, .int (Int32.ofNat q), .int (Int32.ofNat len)] 7)) (Tl.setTop (mkF m 12 #[.val (.ref b), .val (.int (Int32.ofNat (o + i))), .val (.ref d), .val (.int (Int32.ofNat (q + i))), .val (.int (Int32.ofNat len)), .val (.int (Int32.ofNat i)), z] [.int (Int32.ofNat (o + i)), .ref b])) := cl.trans (by
        refine XS.iload Xl.here hexec rfl (hb hbytes d3) rfl ?_
        refine XS.iload Xl.here hexec rfl (hb hbytes d5) rfl ?_
        refine XS.icmpNo Xl.here hexec rfl (hb hbytes d7) rfl (ii_ge_f (lt32 (by omega) (by omega))) ?_
        refine XS.aloadN Xl.here hexec rfl (hb hbytes d10) rfl rfl ?_
        refine XS.iloadN Xl.here hexec rfl (hb hbytes d11) rfl ?_
        exact Steps.refl _)
      have c4 : Steps p.tables e below (s₁.setTop (entryFrame m #[.ref b, .int (Int32.ofNat o), .ref d, .int (Int32.ofNat q), .int (Int32.ofNat len)] 7)) (Tl.setTop (mkF m 13 #[.val (.ref b), .val (.int (Int32.ofNat (o + i))), .val (.ref d), .val (.int (Int32.ofNat (q + i))), .val (.int (Int32.ofNat len)), .val (.int (Int32.ofNat i)), z] [.int (cv A (o + i))])) := c3.trans (by
        refine Xl.aget hexec hAl rfl (hA.get (i := o + i) (by omega)) rfl rfl (hb hbytes d12) ?_
        exact Steps.refl _)
      have c5 : Steps p.tables e below (s₁.setTop (entryFrame m #[.ref b, .int (Int32.ofNat o), .ref d, .int (Int32.ofNat q), .int (Int32.ofNat len)] 7)) (Tl.setTop (mkF m 15 #[.val (.ref b), .val (.int (Int32.ofNat (o + i))), .val (.ref d), .val (.int (Int32.ofNat (q + i))), .val (.int (Int32.ofNat len)), .val (.int (Int32.ofNat i)), .val (.int (cv A (o + i)))] [])) := c4.trans (by
        refine XS.istoreS Xl.here hexec rfl (hb hbytes d13) rfl rfl hz ?_
        exact Steps.refl _)
      have c6 : Steps p.tables e below (s₁.setTop (entryFrame m #[.ref b, .int (Int32.ofNat o), .ref d, .int (Int32.ofNat q), .int (Int32.ofNat len)] 7)) (Tl.setTop (mkF m 31 #[.val (.ref b), .val (.int (Int32.ofNat (o + i))), .val (.ref d), .val (.int (Int32.ofNat (q + i))), .val (.int (Int32.ofNat len)), .val (.int (Int32.ofNat i)), .val (.int (cv A (o + i)))] [.int (lo8 (cv A (o + i))), .int (Int32.ofNat (q + i)), .ref d])) := c5.trans (by
        refine XS.iload Xl.here hexec rfl (hb hbytes d15) rfl ?_
        refine sipushV Xl.here hexec rfl 255 (hb hbytes d17) (by decide) ?_
        refine XS.icmpYes Xl.here hexec rfl (pc0 := 20) rfl (hb hbytes d20) rfl (ii_le_t (hp i (by omega))) (by decide) rfl ?_
        refine XS.aloadN Xl.here hexec rfl (hb hbytes d26) rfl rfl ?_
        refine XS.iloadN Xl.here hexec rfl (hb hbytes d27) rfl ?_
        refine XS.iload Xl.here hexec rfl (hb hbytes d28) rfl ?_
        refine i2b Xl.here hexec rfl (hb hbytes d30) rfl ?_
        exact Steps.refl _)
      obtain ⟨T7, X7, p7, st7⟩ := Xl.aput hexec hBk rfl hlt rfl (fits_lo8 (cv A (o + i))) (g := (mkF m 31 #[.val (.ref b), .val (.int (Int32.ofNat (o + i))), .val (.ref d), .val (.int (Int32.ofNat (q + i))), .val (.int (Int32.ofNat len)), .val (.int (Int32.ofNat i)), .val (.int (cv A (o + i)))] [.int (lo8 (cv A (o + i))), .int (Int32.ofNat (q + i)), .ref d])) rfl (rest := []) rfl (hb hbytes d31)
      have c8 : Steps p.tables e below (s₁.setTop (entryFrame m #[.ref b, .int (Int32.ofNat o), .ref d, .int (Int32.ofNat q), .int (Int32.ofNat len)] 7)) (T7.setTop (mkF m 32 #[.val (.ref b), .val (.int (Int32.ofNat (o + i))), .val (.ref d), .val (.int (Int32.ofNat (q + i))), .val (.int (Int32.ofNat len)), .val (.int (Int32.ofNat i)), .val (.int (cv A (o + i)))] [])) := c6.trans (st7 _ (Steps.refl _))
      have c9 : Steps p.tables e below (s₁.setTop (entryFrame m #[.ref b, .int (Int32.ofNat o), .ref d, .int (Int32.ofNat q), .int (Int32.ofNat len)] 7)) (T7.setTop (mkF m 3 #[.val (.ref b), .val (.int (Int32.ofNat (o + i) + 1)), .val (.ref d), .val (.int (Int32.ofNat (q + i) + 1)), .val (.int (Int32.ofNat len)), .val (.int (Int32.ofNat i + 1)), .val (.int (cv A (o + i)))] [])) := c8.trans (by
        refine iincV X7.here hexec rfl 1 (hb hbytes d32) (by decide) rfl rfl ?_
        refine iincV X7.here hexec rfl 1 (hb hbytes d35) (by decide) rfl rfl ?_
        refine iincV X7.here hexec rfl 1 (hb hbytes d38) (by decide) rfl rfl ?_
        refine XS.goto X7.here hexec rfl (pc0 := 41) rfl (hb hbytes d41) (by decide) rfl ?_
        exact Steps.refl _)
      have c10 : Steps p.tables e below (s₁.setTop (entryFrame m #[.ref b, .int (Int32.ofNat o), .ref d, .int (Int32.ofNat q), .int (Int32.ofNat len)] 7)) (T7.setTop (mkF m 3 #[.val (.ref b), .val (.int (Int32.ofNat (o + (i + 1)))), .val (.ref d), .val (.int (Int32.ofNat (q + (i + 1)))), .val (.int (Int32.ofNat len)), .val (.int (Int32.ofNat (i + 1))), .val (.int (cv A (o + i)))] [])) := by
        have := c9
        rw [succ32, succ32, succ32] at this
        exact this
      exact ih (i + 1) (by omega) _ (Or.inr ⟨_, rfl, rfl⟩) T7 _ (by rw [copyLocs_step, ← List.append_assoc]; exact X7) (pl.trans p7) (fl.step (by omega) hlt (by simp)) c10
  obtain ⟨T9, B9, z9, X9, p9, f9, g9⟩ := loop len 0 (by omega) .unset (Or.inl rfl) s₁ B (by simpa [copyLocs] using X0) ⟨hB0.1, fun _ _ => rfl, rfl⟩ (Laid.zero _ _ _) c2
  have c11 : Steps p.tables e below (s₁.setTop (entryFrame m #[.ref b, .int (Int32.ofNat o), .ref d, .int (Int32.ofNat q), .int (Int32.ofNat len)] 7)) (T9.setTop (mkF m 46 #[.val (.ref b), .val (.int (Int32.ofNat (o + len))), .val (.ref d), .val (.int (Int32.ofNat (q + len))), .val (.int (Int32.ofNat len)), .val (.int (Int32.ofNat len)), z9] [.int (Int32.ofNat len)])) := g9.trans (by
    refine XS.iload X9.here hexec rfl (hb hbytes d3) rfl ?_
    refine XS.iload X9.here hexec rfl (hb hbytes d5) rfl ?_
    refine XS.icmpYes X9.here hexec rfl (pc0 := 7) rfl (hb hbytes d7) rfl (ii_ge_t (nlt32 (by omega) (Nat.le_refl _))) (by decide) rfl ?_
    refine XS.iload X9.here hexec rfl (hb hbytes d44) rfl ?_
    exact Steps.refl _)
  exact ⟨T9, some (.int (Int32.ofNat len)), _, _, _, X9, by simp, rfl, rfl, (fun h => by cases h), ⟨rfl, B9, p9.from hh0, f9⟩, fun fs hl => c11.trans (X9.ireturnOut hexec hret rfl (Or.inl rfl) (hb hbytes d46) hl)⟩
end Cmp5
namespace Cmp3
def yN : MethodName := ⟨"java/lang/StringUTF16", "compress", "([CII)[B"⟩
abbrev yB : ByteArray := jdk_52_method_16_code
theorem d0 : decode yB 0 = .ok (.iload_n 2, 1) := by decide +kernel
theorem d1 : decode yB 1 = .ok (.newarray .byte, 2) := by decide +kernel
theorem d3 : decode yB 3 = .ok (.astore_n 3, 1) := by decide +kernel
theorem d4 : decode yB 4 = .ok (.aload_n 0, 1) := by decide +kernel
theorem d5 : decode yB 5 = .ok (.iload_n 1, 1) := by decide +kernel
theorem d6 : decode yB 6 = .ok (.aload_n 3, 1) := by decide +kernel
theorem d7 : decode yB 7 = .ok (.iconst 0, 1) := by decide +kernel
theorem d8 : decode yB 8 = .ok (.iload_n 2, 1) := by decide +kernel
theorem d9 : decode yB 9 = .ok (.invokestatic 115, 3) := by decide +kernel
theorem d12 : decode yB 12 = .ok (.istore 4, 2) := by decide +kernel
theorem d14 : decode yB 14 = .ok (.iload 4, 2) := by decide +kernel
theorem d16 : decode yB 16 = .ok (.iload_n 2, 1) := by decide +kernel
theorem d17 : decode yB 17 = .ok (.if_icmp (.eq) 40, 3) := by decide +kernel
theorem d57 : decode yB 57 = .ok (.aload_n 3, 1) := by decide +kernel
theorem d58 : decode yB 58 = .ok (.areturn, 1) := by decide +kernel
def site : List Cond := [.arrayClass .byte, Cmp5.tab] ++ staticW U16 115 Cmp5.yN
def tab : Cond := tabOf yN yB 6 (some (.array .byte)) site
def P (b : Addr) (A : Cell) (o len : Nat) (args : Array Value) (s : State) : Prop := args = #[.ref b, .int (Int32.ofNat o), .int (Int32.ofNat len)] ∧ Ch b A s ∧ o + len ≤ A.slots.size ∧ len ≤ 536870912 ∧ ∀ i, i < len → ¬ 255 < cv A (o + i)
def E (b : Addr) (A : Cell) (o len : Nat) (r : Option Value) (s u : State) : Prop := NewArr .byte "[B" len (fun j => .int (lo8 (cv A (o + j)))) r s u ∧ u.heap.size = s.heap.size + 1
/-- no char of the range above 255: a new byte[] of their low bytes -/
theorem law (l : Launch) (b : Addr) (A : Cell) (o len : Nat) : Law l yN 3 3 1 18 yB 6 (some (.array .byte)) site (P b A o len) (E b A o len) [] 1 len := by
  refine Law.of_walk (plainFor_of_name (by decide +kernel)) (by decide +kernel) (by decide +kernel) (by decide) (fun _ _ h => by rw [h.1]; rfl) (fun _ U U' hal hh h => ⟨h.1, h.2.1.mv hal hh, h.2.2⟩) (fun r U U' V V' h1 hal h2 h => ⟨NewArr.mv r U U' V V' h1 hal h2 h.1, by rw [h1, h2]; exact h.2⟩) ?_
  intro p e s m args below meth c s₁ X0 hexec hbytes hml hret hlk hnm hown hh0 W hP
  obtain ⟨rfl, hA, l1, l2, hp⟩ := hP
  have a31 := hA.1.2.2.2
  have c1 : Steps p.tables e below (s₁.setTop (entryFrame m #[.ref b, .int (Int32.ofNat o), .int (Int32.ofNat len)] 6)) (s₁.setTop (mkF m 0 #[.val (.ref b), .val (.int (Int32.ofNat o)), .val (.int (Int32.ofNat len)), .unset, .unset, .unset] [])) := entry rfl
  have c2 : Steps p.tables e below (s₁.setTop (entryFrame m #[.ref b, .int (Int32.ofNat o), .int (Int32.ofNat len)] 6)) (s₁.setTop (mkF m 1 #[.val (.ref b), .val (.int (Int32.ofNat o)), .val (.int (Int32.ofNat len)), .unset, .unset, .unset] [.int (Int32.ofNat len)])) := c1.trans (by
    refine XS.iloadN X0.here hexec rfl (hb hbytes d0) rfl ?_
    exact Steps.refl _)
  obtain ⟨T3, B3, X3, ba3, bs3, bv3, bh3, bf3, st3⟩ := X0.anew hexec (atype := .byte) (wk W (.arrayClass .byte)) rfl (by show len * 1 ≤ _; omega) (by omega) (g := (mkF m 1 #[.val (.ref b), .val (.int (Int32.ofNat o)), .val (.int (Int32.ofNat len)), .unset, .unset, .unset] [.int (Int32.ofNat len)])) rfl (hb hbytes d1) (rest := []) rfl (Nat.le_refl _) (by show 0 + len ≤ len; omega)
  rw [hh0] at ba3 st3
  have kp3 : XT.Kept s T3 := (XT.Kept.of_eq hh0).push bh3
  have hA3 := hA.keep X3.warmed.alike (kp3 _ _ hA.1.1)
  have hne : b ≠ s.heap.size := hA.1.ne
  have c4 : Steps p.tables e below (s₁.setTop (entryFrame m #[.ref b, .int (Int32.ofNat o), .int (Int32.ofNat len)] 6)) (T3.setTop (mkF m 3 #[.val (.ref b), .val (.int (Int32.ofNat o)), .val (.int (Int32.ofNat len)), .unset, .unset, .unset] [.ref s.heap.size])) := c2.trans (st3 _ (Steps.refl _))
  have c5 : Steps p.tables e below (s₁.setTop (entryFrame m #[.ref b, .int (Int32.ofNat o), .int (Int32.ofNat len)] 6)) (T3.setTop (mkF m 9 #[.val (.ref b), .val (.int (Int32.ofNat o)), .val (.int (Int32.ofNat len)), .val (.ref s.heap.size), .unset, .unset] [.int (Int32.ofNat len), .int 0, .ref s.heap.size, .int (Int32.ofNat o), .ref b])) := c4.trans (by
    refine XS.astoreN X3.here hexec rfl (hb hbytes d3) rfl rfl rfl ?_
    refine XS.aloadN X3.here hexec rfl (hb hbytes d4) rfl rfl ?_
    refine XS.iloadN X3.here hexec rfl (hb hbytes d5) rfl ?_
    refine XS.aloadN X3.here hexec rfl (hb hbytes d6) rfl rfl ?_
    refine iconstV X3.here hexec rfl 0 (hb hbytes d7) (by decide) ?_
    refine XS.iloadN X3.here hexec rfl (hb hbytes d8) rfl ?_
    exact Steps.refl _)
  obtain ⟨v6, T6, X6, E6, g6⟩ := X3.callS hexec (Cmp5.law l b A s.heap.size B3 o 0 len) hown (wks W (staticW U16 115 Cmp5.yN)) (wk W Cmp5.tab) (W := 0) (Nat.le_of_ble_eq_true rfl) (Nat.le_of_ble_eq_true rfl) (Nat.le_refl _) (by show 0 + len + 0 ≤ len; omega) (g := (mkF m 9 #[.val (.ref b), .val (.int (Int32.ofNat o)), .val (.int (Int32.ofNat len)), .val (.ref s.heap.size), .unset, .unset] [.int (Int32.ofNat len), .int (Int32.ofNat 0), .ref s.heap.size, .int (Int32.ofNat o), .ref b])) rfl (by rw [hml]; rfl) c5 (argsL := [.ref b, .int (Int32.ofNat o), .ref s.heap.size, .int (Int32.ofNat 0), .int (Int32.ofNat len)]) (rest := []) rfl rfl (by show 2 * 0 + 0 ≤ _; decide) (hb hbytes d9) (⟨rfl, hA3, ba3, hne, l1, by rw [bs3]; simp, hp⟩)
  obtain ⟨rfl, B6, p6, f6⟩ := E6
  have c7 : Steps p.tables e below (s₁.setTop (entryFrame m #[.ref b, .int (Int32.ofNat o), .int (Int32.ofNat len)] 6)) (T6.setTop (mkF m 12 #[.val (.ref b), .val (.int (Int32.ofNat o)), .val (.int (Int32.ofNat len)), .val (.ref s.heap.size), .unset, .unset] [.int (Int32.ofNat len)])) := g6
  have c8 : Steps p.tables e below (s₁.setTop (entryFrame m #[.ref b, .int (Int32.ofNat o), .int (Int32.ofNat len)] 6)) (T6.setTop (mkF m 58 #[.val (.ref b), .val (.int (Int32.ofNat o)), .val (.int (Int32.ofNat len)), .val (.ref s.heap.size), .val (.int (Int32.ofNat len)), .unset] [.ref s.heap.size])) := c7.trans (by
    refine XS.istore X6.here hexec rfl (hb hbytes d12) rfl rfl ?_
    refine XS.iload X6.here hexec rfl (hb hbytes d14) rfl ?_
    refine XS.iloadN X6.here hexec rfl (hb hbytes d16) rfl ?_
    refine XS.icmpYes X6.here hexec rfl (pc0 := 17) rfl (hb hbytes d17) rfl (ii_eq_t rfl) (by decide) rfl ?_
    refine XS.aloadN X6.here hexec rfl (hb hbytes d57) rfl rfl ?_
    exact Steps.refl _)
  have X8 := X6.wide (L' := []) (cells' := 1) (slots' := len) (fun x hx hlt => by
    simp only [List.nil_append, copyLocs, List.mem_map, List.mem_range] at hx
    obtain ⟨i, -, rfl⟩ := hx
    exact absurd hlt (Nat.lt_irrefl _)) (Nat.le_refl _) (by omega)
  exact ⟨T6, some (.ref s.heap.size), _, _, _, X8, rfl, rfl, rfl, (fun h => by cases h), ⟨⟨rfl, B6, ba3.like (X3.warmed.alike.symm.trans X6.warmed.alike) p6.1 f6.1 f6.2.1 f6.2.2.1, f6.2.1.trans bv3, by rw [X6.warmed.alike.findClass, f6.1]; exact bf3, by rw [f6.2.2.1, bs3]; simp, fun j hj => by rw [f6.2.2.2 j, if_pos (by omega)]; rfl, kp3.put p6 (Nat.le_refl _)⟩, by rw [p6.2.2, bh3, hh0]; simp⟩, fun fs hl => c8.trans (X8.areturnOut hexec rfl hret rfl (hb hbytes d58) hl)⟩
end Cmp3
namespace CodL
def yN : MethodName := ⟨"java/lang/StringUTF16", "coderFromArrayLen", "([BI)B"⟩
abbrev yB : ByteArray := jdk_52_method_15_code
theorem d0 : decode yB 0 = .ok (.iload_n 1, 1) := by decide +kernel
theorem d1 : decode yB 1 = .ok (.aload_n 0, 1) := by decide +kernel
theorem d2 : decode yB 2 = .ok (.arraylength, 1) := by decide +kernel
theorem d3 : decode yB 3 = .ok (.isub, 1) := by decide +kernel
theorem d4 : decode yB 4 = .ok (.bipush 31, 2) := by decide +kernel
theorem d6 : decode yB 6 = .ok (.iushr, 1) := by decide +kernel
theorem d7 : decode yB 7 = .ok (.i2b, 1) := by decide +kernel
theorem d8 : decode yB 8 = .ok (.ireturn, 1) := by decide +kernel
def site : List Cond := []
def tab : Cond := tabOf yN yB 2 (some .byte) site
def P (d : Addr) (B : Cell) (args : Array Value) (s : State) : Prop := args = #[.ref d, .int (Int32.ofNat B.slots.size)] ∧ Arr .byte d B s
def E (r : Option Value) (s u : State) : Prop := XT.PureE (some (.int 0)) r s u
/-- an array as long as the number of chars: LATIN1 -/
theorem law (l : Launch) (d : Addr) (B : Cell) : Law l yN 2 2 0 0 yB 2 (some .byte) site (P d B) E [] 0 0 := by
  refine Law.of_walk (plainFor_of_name (by decide +kernel)) (by decide +kernel) (by decide +kernel) (by decide) (fun _ _ h => by rw [h.1]; rfl) (fun _ U U' hal hh h => ⟨h.1, h.2.mv hal hh⟩) (fun r U U' V V' h1 hal h2 h => XT.PureE.mv r U U' V V' h1 hal h2 h) ?_
  intro p e s m args below meth c s₁ X0 hexec hbytes hml hret hlk hnm hown hh0 W hP
  obtain ⟨rfl, hB⟩ := hP
  have hB0 := hB.mv X0.warmed.alike hh0
  have c1 : Steps p.tables e below (s₁.setTop (entryFrame m #[.ref d, .int (Int32.ofNat B.slots.size)] 2)) (s₁.setTop (mkF m 0 #[.val (.ref d), .val (.int (Int32.ofNat B.slots.size))] [])) := entry rfl
  have c2 : Steps p.tables e below (s₁.setTop (entryFrame m #[.ref d, .int (Int32.ofNat B.slots.size)] 2)) (s₁.setTop (mkF m 2 #[.val (.ref d), .val (.int (Int32.ofNat B.slots.size))] [.ref d, .int (Int32.ofNat B.slots.size)])) := c1.trans (by
    refine XS.iloadN X0.here hexec rfl (hb hbytes d0) rfl ?_
    refine XS.aloadN X0.here hexec rfl (hb hbytes d1) rfl rfl ?_
    exact Steps.refl _)
  have c3 : Steps p.tables e below (s₁.setTop (entryFrame m #[.ref d, .int (Int32.ofNat B.slots.size)] 2)) (s₁.setTop (mkF m 8 #[.val (.ref d), .val (.int (Int32.ofNat B.slots.size))] [.int (lo8 (ushr (Int32.ofNat B.slots.size - Int32.ofNat B.slots.size) 31))])) := c2.trans (by
    refine X0.alen hexec hB0 rfl rfl (hb hbytes d2) ?_
    refine XS.isub X0.here hexec rfl (hb hbytes d3) rfl ?_
    refine bipushV X0.here hexec rfl 31 (hb hbytes d4) (by decide) ?_
    refine iushr X0.here hexec rfl (hb hbytes d6) rfl ?_
    refine i2b X0.here hexec rfl (hb hbytes d7) rfl ?_
    exact Steps.refl _)
  have e0 : lo8 (ushr (Int32.ofNat B.slots.size - Int32.ofNat B.slots.size) 31) = 0 := by rw [Int32.sub_self]; decide
  rw [e0] at c3
  exact ⟨s₁, some (.int 0), _, _, _, X0, rfl, rfl, rfl, (fun h => by cases h), ⟨rfl, hh0⟩, fun fs hl => c3.trans (X0.ireturnOut hexec hret rfl (Or.inr (Or.inr (Or.inl rfl))) (hb hbytes d8) hl)⟩
end CodL
/-- the String at a is Latin-1 over a new byte[] (the heap's one new cell): the low bytes of the len chars of A from o on; every cell but a is kept -/
def Got (a : Addr) (D : Cell) (fV fC : Field) (A : Cell) (o len : Nat) (r : Option Value) (s u : State) : Prop := r = none ∧ ∃ D' V : Cell, Blank "java/lang/String" a D' u ∧ Same D D' [fV.slot, fC.slot] ∧ D'.slots[fV.slot]? = some (.ref s.heap.size) ∧ D'.slots[fC.slot]? = some (.int 0) ∧ Arr .byte s.heap.size V u ∧ V.vm = .none ∧ u.vm.findClass "[B" = some V.cls ∧ V.slots.size = len ∧ (∀ j, j < len → V.slots[j]? = some (.int (lo8 (cv A (o + j))))) ∧ (∀ (y : Addr) (c : Cell), y ≠ a → s.heap[y]? = some c → u.heap[y]? = some c) ∧ u.heap.size = s.heap.size + 1
theorem Got.mv {a : Addr} {D A : Cell} {fV fC : Field} {o len : Nat} : ∀ r (U U' V V' : State), U'.heap = U.heap → V.vm.Alike V'.vm → V'.heap = V.heap → Got a D fV fC A o len r U V → Got a D fV fC A o len r U' V' :=
  fun r U U' V V' h1 hal h2 ⟨e0, D', X, a1, a2, a3, a4, a5, a6, a7, a8, a9, a10, a11⟩ => ⟨e0, D', X, a1.mv hal h2, a2, by rw [h1]; exact a3, a4, by rw [h1]; exact a5.mv hal h2, a6, by rw [hal.findClass]; exact a7, a8, a9, by rw [h1, h2]; exact a10, by rw [h1, h2]; exact a11⟩
namespace New4
def yN : MethodName := ⟨"java/lang/String", "<init>", "([CIILjava/lang/Void;)V"⟩
abbrev yB : ByteArray := jdk_42_method_149_code
theorem d0 : decode yB 0 = .ok (.aload_n 0, 1) := by decide +kernel
theorem d1 : decode yB 1 = .ok (.invokespecial 1, 3) := by decide +kernel
theorem d4 : decode yB 4 = .ok (.iload_n 3, 1) := by decide +kernel
theorem d5 : decode yB 5 = .ok (.ifCond (.ne) 22, 3) := by decide +kernel
theorem d27 : decode yB 27 = .ok (.getstatic 38, 3) := by decide +kernel
theorem d30 : decode yB 30 = .ok (.ifCond (.eq) 28, 3) := by decide +kernel
theorem d33 : decode yB 33 = .ok (.aload_n 1, 1) := by decide +kernel
theorem d34 : decode yB 34 = .ok (.iload_n 2, 1) := by decide +kernel
theorem d35 : decode yB 35 = .ok (.iload_n 3, 1) := by decide +kernel
theorem d36 : decode yB 36 = .ok (.invokestatic 177, 3) := by decide +kernel
theorem d39 : decode yB 39 = .ok (.astore 5, 2) := by decide +kernel
theorem d41 : decode yB 41 = .ok (.aload_n 0, 1) := by decide +kernel
theorem d42 : decode yB 42 = .ok (.aload 5, 2) := by decide +kernel
theorem d44 : decode yB 44 = .ok (.iload_n 3, 1) := by decide +kernel
theorem d45 : decode yB 45 = .ok (.invokestatic 47, 3) := by decide +kernel
theorem d48 : decode yB 48 = .ok (.putfield 15, 3) := by decide +kernel
theorem d51 : decode yB 51 = .ok (.aload_n 0, 1) := by decide +kernel
theorem d52 : decode yB 52 = .ok (.aload 5, 2) := by decide +kernel
theorem d54 : decode yB 54 = .ok (.putfield 9, 3) := by decide +kernel
theorem d57 : decode yB 57 = .ok (.return_, 1) := by decide +kernel
def site : List Cond := [.fieldLink "java/lang/String" 38 "java/lang/String" "COMPACT_STRINGS" "Z", Cmp3.tab, CodL.tab, .laysFinal "java/lang/String" "java/lang/String" "value" "[B", .fieldLink "java/lang/String" 9 "java/lang/String" "value" "[B", .laysFinal "java/lang/String" "java/lang/String" "coder" "B", .fieldLink "java/lang/String" 15 "java/lang/String" "coder" "B"] ++ objW "java/lang/String" 1 ++ staticW "java/lang/String" 177 Cmp3.yN ++ staticW "java/lang/String" 47 CodL.yN
def tab : Cond := tabOf yN yB 6 none site
def P (a : Addr) (D : Cell) (fV fC : Field) (b : Addr) (A : Cell) (z : Int32) (o len : Nat) (args : Array Value) (s : State) : Prop := args = #[.ref a, .ref b, .int (Int32.ofNat o), .int (Int32.ofNat len), .null] ∧ Blank "java/lang/String" a D s ∧ Found "java/lang/String" "value" "[B" fV s ∧ Found "java/lang/String" "coder" "B" fC s ∧ Ch b A s ∧ StaticIs s "java/lang/String" "COMPACT_STRINGS" "Z" (.int z) ∧ ¬ z = 0 ∧ 0 < len ∧ o + len ≤ A.slots.size ∧ len ≤ 536870912 ∧ ∀ i, i < len → ¬ 255 < cv A (o + i)
def E (a : Addr) (D : Cell) (fV fC : Field) (A : Cell) (o len : Nat) (r : Option Value) (s u : State) : Prop := Got a D fV fC A o len r s u
/-- len > 0, no char of the range above 255: a Latin-1 String of their low bytes -/
theorem law (l : Launch) (a : Addr) (D : Cell) (fV fC : Field) (b : Addr) (A : Cell) (z : Int32) (o len : Nat) : Law l yN 5 4 2 35 yB 6 none site (P a D fV fC b A z o len) (E a D fV fC A o len) [⟨a, fC.slot⟩, ⟨a, fV.slot⟩] 1 len := by
  refine Law.of_walk (plainFor_of_name (by decide +kernel)) (by decide +kernel) (by decide +kernel) (by decide) (fun _ _ h => by rw [h.1]; rfl) (fun _ U U' hal hh h => ⟨h.1, h.2.1.mv hal hh, h.2.2.1.al hal, h.2.2.2.1.al hal, h.2.2.2.2.1.mv hal hh, h.2.2.2.2.2.1.there hal hh, h.2.2.2.2.2.2⟩) (fun r U U' V V' h1 hal h2 h => Got.mv r U U' V V' h1 hal h2 h) ?_
  intro p e s m args below meth c s₁ X0 hexec hbytes hml hret hlk hnm hown hh0 W hP
  obtain ⟨rfl, hB, f1, f2, hA, s1, hz, l0, l1, l2, hp⟩ := hP
  have a31 := hA.1.2.2.2
  have c1 : Steps p.tables e below (s₁.setTop (entryFrame m #[.ref a, .ref b, .int (Int32.ofNat o), .int (Int32.ofNat len), .null] 6)) (s₁.setTop (mkF m 0 #[.val (.ref a), .val (.ref b), .val (.int (Int32.ofNat o)), .val (.int (Int32.ofNat len)), .val .null, .unset] [])) := entry rfl
  have c2 : Steps p.tables e below (s₁.setTop (entryFrame m #[.ref a, .ref b, .int (Int32.ofNat o), .int (Int32.ofNat len), .null] 6)) (s₁.setTop (mkF m 1 #[.val (.ref a), .val (.ref b), .val (.int (Int32.ofNat o)), .val (.int (Int32.ofNat len)), .val .null, .unset] [.ref a])) := c1.trans (by
    refine XS.aloadN X0.here hexec rfl (hb hbytes d0) rfl rfl ?_
    exact Steps.refl _)
  obtain ⟨T3, X3, q3, st3⟩ := X0.oinit hexec hown (wks W (objW "java/lang/String" 1)) (g := (mkF m 1 #[.val (.ref a), .val (.ref b), .val (.int (Int32.ofNat o)), .val (.int (Int32.ofNat len)), .val .null, .unset] [.ref a])) rfl (by rw [hml]; rfl) (rest := []) rfl (hb hbytes d1) (W := 0) (by show 2 * 0 + 0 ≤ _; decide) (Nat.le_of_ble_eq_true rfl) (Nat.le_of_ble_eq_true rfl)
  have hh3 := q3.trans hh0
  have c4 : Steps p.tables e below (s₁.setTop (entryFrame m #[.ref a, .ref b, .int (Int32.ofNat o), .int (Int32.ofNat len), .null] 6)) (T3.setTop (mkF m 27 #[.val (.ref a), .val (.ref b), .val (.int (Int32.ofNat o)), .val (.int (Int32.ofNat len)), .val .null, .unset] [])) := (c2.trans (st3 _ (Steps.refl _))).trans (by
    refine XS.iloadN X3.here hexec rfl (hb hbytes d4) rfl ?_
    refine XS.ifYes X3.here hexec rfl (pc0 := 5) rfl (hb hbytes d5) rfl (i0_ne_t (nz32 (by omega) l0)) (by decide) rfl ?_
    exact Steps.refl _)
  obtain ⟨T5, X5, q5, st5⟩ := X3.sget hexec hown (wk W (.fieldLink "java/lang/String" 38 "java/lang/String" "COMPACT_STRINGS" "Z")) s1 (fun _ _ h => by rw [hh3]; exact h) (g := (mkF m 27 #[.val (.ref a), .val (.ref b), .val (.int (Int32.ofNat o)), .val (.int (Int32.ofNat len)), .val .null, .unset] [])) rfl (hb hbytes d27)
  have hh5 := q5.trans hh3
  have c6 : Steps p.tables e below (s₁.setTop (entryFrame m #[.ref a, .ref b, .int (Int32.ofNat o), .int (Int32.ofNat len), .null] 6)) (T5.setTop (mkF m 30 #[.val (.ref a), .val (.ref b), .val (.int (Int32.ofNat o)), .val (.int (Int32.ofNat len)), .val .null, .unset] [.int z])) := c4.trans (st5 _ (Steps.refl _))
  have c7 : Steps p.tables e below (s₁.setTop (entryFrame m #[.ref a, .ref b, .int (Int32.ofNat o), .int (Int32.ofNat len), .null] 6)) (T5.setTop (mkF m 36 #[.val (.ref a), .val (.ref b), .val (.int (Int32.ofNat o)), .val (.int (Int32.ofNat len)), .val .null, .unset] [.int (Int32.ofNat len), .int (Int32.ofNat o), .ref b])) := c6.trans (by
    refine XS.ifNo X5.here hexec rfl (hb hbytes d30) rfl (i0_eq_f hz) ?_
    refine XS.aloadN X5.here hexec rfl (hb hbytes d33) rfl rfl ?_
    refine XS.iloadN X5.here hexec rfl (hb hbytes d34) rfl ?_
    refine XS.iloadN X5.here hexec rfl (hb hbytes d35) rfl ?_
    exact Steps.refl _)
  obtain ⟨v8, T8, X8, E8, g8⟩ := X5.callS hexec (Cmp3.law l b A o len) hown (wks W (staticW "java/lang/String" 177 Cmp3.yN)) (wk W Cmp3.tab) (W := 0) (Nat.le_of_ble_eq_true rfl) (Nat.le_of_ble_eq_true rfl) (Nat.le_refl _) (by show 0 + len ≤ len; omega) (g := (mkF m 36 #[.val (.ref a), .val (.ref b), .val (.int (Int32.ofNat o)), .val (.int (Int32.ofNat len)), .val .null, .unset] [.int (Int32.ofNat len), .int (Int32.ofNat o), .ref b])) rfl (by rw [hml]; rfl) c7 (argsL := [.ref b, .int (Int32.ofNat o), .int (Int32.ofNat len)]) (rest := []) rfl rfl (by show 2 * 0 + 0 ≤ _; decide) (hb hbytes d36) (⟨rfl, hA.mv X5.warmed.alike hh5, l1, l2, hp⟩)
  obtain ⟨e8, z8⟩ := E8
  obtain ⟨rfl, N, n1, n2, n3, n4, n5, n6⟩ := NewArr.mv _ T5 s _ _ hh5.symm (Vm.Alike.refl _) rfl e8
  rw [hh5] at z8
  have hB1 := hB.keep X8.warmed.alike (n6 _ _ hB.1)
  have hne : s.heap.size ≠ a := (Nat.ne_of_lt (Array.getElem?_eq_some_iff.mp hB.1).1).symm
  have c9 : Steps p.tables e below (s₁.setTop (entryFrame m #[.ref a, .ref b, .int (Int32.ofNat o), .int (Int32.ofNat len), .null] 6)) (T8.setTop (mkF m 39 #[.val (.ref a), .val (.ref b), .val (.int (Int32.ofNat o)), .val (.int (Int32.ofNat len)), .val .null, .unset] [.ref s.heap.size])) := g8
  have c10 : Steps p.tables e below (s₁.setTop (entryFrame m #[.ref a, .ref b, .int (Int32.ofNat o), .int (Int32.ofNat len), .null] 6)) (T8.setTop (mkF m 45 #[.val (.ref a), .val (.ref b), .val (.int (Int32.ofNat o)), .val (.int (Int32.ofNat len)), .val .null, .val (.ref s.heap.size)] [.int (Int32.ofNat N.slots.size), .ref s.heap.size, .ref a])) := by
    have hc : Steps p.tables e below (s₁.setTop (entryFrame m #[.ref a, .ref b, .int (Int32.ofNat o), .int (Int32.ofNat len), .null] 6)) (T8.setTop (mkF m 45 #[.val (.ref a), .val (.ref b), .val (.int (Int32.ofNat o)), .val (.int (Int32.ofNat len)), .val .null, .val (.ref s.heap.size)] [.int (Int32.ofNat len), .ref s.heap.size, .ref a])) := c9.trans (by
      refine XS.astore X8.here hexec rfl (hb hbytes d39) rfl rfl rfl ?_
      refine XS.aloadN X8.here hexec rfl (hb hbytes d41) rfl rfl ?_
      refine XS.aload X8.here hexec rfl (hb hbytes d42) rfl rfl ?_
      refine XS.iloadN X8.here hexec rfl (hb hbytes d44) rfl ?_
      exact Steps.refl _)
    rw [n4]; exact hc
  obtain ⟨v11, T11, X11, E11, g11⟩ := X8.callS hexec (CodL.law l s.heap.size N) hown (wks W (staticW "java/lang/String" 47 CodL.yN)) (wk W CodL.tab) (W := 1) (Nat.le_of_ble_eq_true rfl) (Nat.le_of_ble_eq_true rfl) (Nat.le_refl _) (by show 0 + len + 0 ≤ len; omega) (g := (mkF m 45 #[.val (.ref a), .val (.ref b), .val (.int (Int32.ofNat o)), .val (.int (Int32.ofNat len)), .val .null, .val (.ref s.heap.size)] [.int (Int32.ofNat N.slots.size), .ref s.heap.size, .ref a])) rfl (by rw [hml]; rfl) c10 (argsL := [.ref s.heap.size, .int (Int32.ofNat N.slots.size)]) (rest := [.ref a]) rfl rfl (by show 2 * 0 + (1 + 0) ≤ _; decide) (hb hbytes d45) (⟨rfl, n1⟩)
  obtain ⟨rfl, q11⟩ := E11
  have hB11 := hB1.mv (X8.warmed.alike.symm.trans X11.warmed.alike) q11
  have c12 : Steps p.tables e below (s₁.setTop (entryFrame m #[.ref a, .ref b, .int (Int32.ofNat o), .int (Int32.ofNat len), .null] 6)) (T11.setTop (mkF m 48 #[.val (.ref a), .val (.ref b), .val (.int (Int32.ofNat o)), .val (.int (Int32.ofNat len)), .val .null, .val (.ref s.heap.size)] [.int 0, .ref a])) := g11
  obtain ⟨T13, X13, p13, bl13, sl13, st13⟩ := X11.finit hexec hown (wk W (.fieldLink "java/lang/String" 15 "java/lang/String" "coder" "B")) (Or.inr ⟨_, (wk W (.laysFinal "java/lang/String" "java/lang/String" "coder" "B"))⟩) (Or.inl ⟨rfl, hnm⟩) f2 (Or.inl rfl) hB11 (t := .byte) (by decide +kernel) rfl (g := (mkF m 48 #[.val (.ref a), .val (.ref b), .val (.int (Int32.ofNat o)), .val (.int (Int32.ofNat len)), .val .null, .val (.ref s.heap.size)] [.int 0, .ref a])) rfl (rest := []) rfl (hb hbytes d48)
  have c14 : Steps p.tables e below (s₁.setTop (entryFrame m #[.ref a, .ref b, .int (Int32.ofNat o), .int (Int32.ofNat len), .null] 6)) (T13.setTop (mkF m 54 #[.val (.ref a), .val (.ref b), .val (.int (Int32.ofNat o)), .val (.int (Int32.ofNat len)), .val .null, .val (.ref s.heap.size)] [.ref s.heap.size, .ref a])) := (c12.trans (st13 _ (Steps.refl _))).trans (by
    refine XS.aloadN X13.here hexec rfl (hb hbytes d51) rfl rfl ?_
    refine XS.aload X13.here hexec rfl (hb hbytes d52) rfl rfl ?_
    exact Steps.refl _)
  obtain ⟨T15, X15, p15, bl15, sl15, st15⟩ := X13.finit hexec hown (wk W (.fieldLink "java/lang/String" 9 "java/lang/String" "value" "[B")) (Or.inr ⟨_, (wk W (.laysFinal "java/lang/String" "java/lang/String" "value" "[B"))⟩) (Or.inl ⟨rfl, hnm⟩) f1 (Or.inl rfl) bl13 (t := (.array .byte)) (by decide +kernel) rfl (g := (mkF m 54 #[.val (.ref a), .val (.ref b), .val (.int (Int32.ofNat o)), .val (.int (Int32.ofNat len)), .val .null, .val (.ref s.heap.size)] [.ref s.heap.size, .ref a])) rfl (rest := []) rfl (hb hbytes d54)
  have c16 : Steps p.tables e below (s₁.setTop (entryFrame m #[.ref a, .ref b, .int (Int32.ofNat o), .int (Int32.ofNat len), .null] 6)) (T15.setTop (mkF m 57 #[.val (.ref a), .val (.ref b), .val (.int (Int32.ofNat o)), .val (.int (Int32.ofNat len)), .val .null, .val (.ref s.heap.size)] [])) := c14.trans (st15 _ (Steps.refl _))
  have ap := apart (Or.inr ⟨_, (wk W (.laysFinal "java/lang/String" "java/lang/String" "value" "[B"))⟩) (Or.inr ⟨_, (wk W (.laysFinal "java/lang/String" "java/lang/String" "coder" "B"))⟩) f1 f2 (t₁ := .array .byte) (t₂ := .byte) (by decide +kernel) (by decide +kernel) (by decide)
  have al := X8.warmed.alike.symm.trans X15.warmed.alike
  have n7 : T11.heap[s.heap.size]? = some N := by rw [q11]; exact n1.1
  exact ⟨T15, none, _, _, _, X15, by simp, rfl, by omega, (fun _ => rfl), ⟨rfl, _, N, bl15, ((Same.refl D _).set _ (by simp)).set _ (by simp), sl15, (Cell.slots_setSlot_ne _ ap).trans sl13, n1.keep al (p15.other hne (p13.other hne n7)), n2, by rw [al.findClass]; exact n3, n4, n5, fun y c h1 h2 => p15.other h1 (p13.other h1 (by rw [q11]; exact n6 y c h2)), by rw [p15.2.2, p13.2.2, q11]; exact z8⟩, fun fs hl => c16.trans (X15.returnOut hexec hret (hb hbytes d57) hl)⟩
end New4
namespace New1
def yN : MethodName := ⟨"java/lang/String", "<init>", "([C)V"⟩
abbrev yB : ByteArray := jdk_42_method_3_code
theorem d0 : decode yB 0 = .ok (.aload_n 0, 1) := by decide +kernel
theorem d1 : decode yB 1 = .ok (.aload_n 1, 1) := by decide +kernel
theorem d2 : decode yB 2 = .ok (.iconst 0, 1) := by decide +kernel
theorem d3 : decode yB 3 = .ok (.aload_n 1, 1) := by decide +kernel
theorem d4 : decode yB 4 = .ok (.arraylength, 1) := by decide +kernel
theorem d5 : decode yB 5 = .ok (.aconst_null, 1) := by decide +kernel
theorem d6 : decode yB 6 = .ok (.invokespecial 27, 3) := by decide +kernel
theorem d9 : decode yB 9 = .ok (.return_, 1) := by decide +kernel
def site : List Cond := [New4.tab] ++ initW "java/lang/String" 27 New4.yN
def tab : Cond := tabOf yN yB 2 none site
def P (a : Addr) (D : Cell) (fV fC : Field) (b : Addr) (A : Cell) (z : Int32) (args : Array Value) (s : State) : Prop := args = #[.ref a, .ref b] ∧ Blank "java/lang/String" a D s ∧ Found "java/lang/String" "value" "[B" fV s ∧ Found "java/lang/String" "coder" "B" fC s ∧ Ch b A s ∧ StaticIs s "java/lang/String" "COMPACT_STRINGS" "Z" (.int z) ∧ ¬ z = 0 ∧ 0 < A.slots.size ∧ A.slots.size ≤ 536870912 ∧ ∀ i, i < A.slots.size → ¬ 255 < cv A i
def E (a : Addr) (D : Cell) (fV fC : Field) (A : Cell) (r : Option Value) (s u : State) : Prop := Got a D fV fC A 0 A.slots.size r s u
/-- new String(chars), not empty, no char above 255: a Latin-1 String of their low bytes -/
theorem law (l : Launch) (a : Addr) (D : Cell) (fV fC : Field) (b : Addr) (A : Cell) (z : Int32) : Law l yN 2 1 3 52 yB 2 none site (P a D fV fC b A z) (E a D fV fC A) [⟨a, fC.slot⟩, ⟨a, fV.slot⟩] 1 A.slots.size := by
  refine Law.of_walk (plainFor_of_name (by decide +kernel)) (by decide +kernel) (by decide +kernel) (by decide) (fun _ _ h => by rw [h.1]; rfl) (fun _ U U' hal hh h => ⟨h.1, h.2.1.mv hal hh, h.2.2.1.al hal, h.2.2.2.1.al hal, h.2.2.2.2.1.mv hal hh, h.2.2.2.2.2.1.there hal hh, h.2.2.2.2.2.2⟩) (fun r U U' V V' h1 hal h2 h => Got.mv r U U' V V' h1 hal h2 h) ?_
  intro p e s m args below meth c s₁ X0 hexec hbytes hml hret hlk hnm hown hh0 W hP
  obtain ⟨rfl, hB, f1, f2, hA, s1, hz, l0, l2, hp⟩ := hP
  have c1 : Steps p.tables e below (s₁.setTop (entryFrame m #[.ref a, .ref b] 2)) (s₁.setTop (mkF m 0 #[.val (.ref a), .val (.ref b)] [])) := entry rfl
  have c2 : Steps p.tables e below (s₁.setTop (entryFrame m #[.ref a, .ref b] 2)) (s₁.setTop (mkF m 6 #[.val (.ref a), .val (.ref b)] [.null, .int (Int32.ofNat A.slots.size), .int 0, .ref b, .ref a])) := c1.trans (by
    refine XS.aloadN X0.here hexec rfl (hb hbytes d0) rfl rfl ?_
    refine XS.aloadN X0.here hexec rfl (hb hbytes d1) rfl rfl ?_
    refine iconstV X0.here hexec rfl 0 (hb hbytes d2) (by decide) ?_
    refine XS.aloadN X0.here hexec rfl (hb hbytes d3) rfl rfl ?_
    refine X0.alen hexec (hA.1.mv X0.warmed.alike hh0) rfl rfl (hb hbytes d4) ?_
    refine XS.aconstNull X0.here hexec rfl (hb hbytes d5) ?_
    exact Steps.refl _)
  obtain ⟨v3, T3, X3, E3, g3⟩ := X0.callN hexec (New4.law l a D fV fC b A z 0 A.slots.size) rfl hown (wks W (initW "java/lang/String" 27 New4.yN)) (W New4.tab (by simp only [site, List.mem_cons, List.mem_append, true_or, or_true])) (W := 0) (Nat.le_of_ble_eq_true rfl) (Nat.le_of_ble_eq_true rfl) (Nat.le_refl _) (by show 0 + A.slots.size ≤ A.slots.size; omega) (g := (mkF m 6 #[.val (.ref a), .val (.ref b)] [.null, .int (Int32.ofNat A.slots.size), .int (Int32.ofNat 0), .ref b, .ref a])) rfl (by rw [hml]; rfl) c2 (argsL := [.ref b, .int (Int32.ofNat 0), .int (Int32.ofNat A.slots.size), .null]) (rest := []) rfl rfl (by show 2 * 0 + 0 ≤ _; decide) (hb hbytes d6) (⟨rfl, hB.mv X0.warmed.alike hh0, f1.al X0.warmed.alike, f2.al X0.warmed.alike, hA.mv X0.warmed.alike hh0, s1.there X0.warmed.alike hh0, hz, l0, by omega, l2, fun i hi => by rw [Nat.zero_add]; exact hp i hi⟩)
  have e0 := Got.mv _ s₁ s _ _ hh0.symm (Vm.Alike.refl _) rfl E3
  obtain rfl := e0.1
  have c4 : Steps p.tables e below (s₁.setTop (entryFrame m #[.ref a, .ref b] 2)) (T3.setTop (mkF m 9 #[.val (.ref a), .val (.ref b)] [])) := g3
  exact ⟨T3, none, _, _, _, X3, by simp, rfl, by omega, (fun _ => rfl), e0, fun fs hl => c4.trans (X3.returnOut hexec hret (hb hbytes d9) hl)⟩
theorem pays {l : Launch} {R : Room} {p : Program} {e : Env} {below : List Frame} {s : State} {sargs : Array Value} {len W : Nat} (a : Addr) (D : Cell) (fV fC : Field) (b : Addr) (A : Cell) (z : Int32) (htab : tab.before sargs s = true) (hfr : 4 ≤ R.frames) (hlo : W + 65 ≤ R.locals) :
    Back l R p e below s sargs yN len W (fun A₁ a₁ => A₁.cells + 1 ≤ R.cells ∧ A₁.slots + A.slots.size ≤ R.slots ∧ P a D fV fC b A z a₁ A₁.U) (fun A₁ _ v₁ B₁ => E a D fV fC A v₁ A₁.U B₁.U ∧ B₁.locs = A₁.locs ++ [⟨a, fC.slot⟩, ⟨a, fV.slot⟩] ∧ B₁.cells = A₁.cells + 1 ∧ B₁.slots = A₁.slots + A.slots.size) :=
  (law l a D fV fC b A z).pays htab hfr (by omega)
end New1
/-- the byte, read back as charAt reads it, is the char -/
theorem lo8_mask {x : Int32} (h0 : ¬ x < 0) (h1 : ¬ 255 < x) : lo8 x &&& 255 = x := by
  have t : ∀ k : Fin 256, lo8 (Int32.ofNat k.val) &&& 255 = Int32.ofNat k.val := by decide +kernel
  rw [Int32.lt_iff_toInt_lt] at h0 h1
  have e0 : (0 : Int32).toInt = 0 := rfl
  have e1 : (255 : Int32).toInt = 255 := rfl
  obtain ⟨k, hk⟩ : ∃ k : Nat, x.toInt = k := ⟨x.toInt.toNat, by omega⟩
  have hx : x = Int32.ofNat k := Int32.toInt_inj.mp (by rw [hk, Int32.toInt_ofNat_small (by omega)])
  rw [hx]
  exact t ⟨k, by omega⟩
end StrChars
namespace StrChars.Road
open Jvm Sem ClassFile Op Lib Jvm.Stand Jvm.Free Jvm.Free.XT
open Jvm.Lib.Cold (StaticIs)
abbrev ST : String := "java/lang/String"
/-- every table word that New1's law asks, flat -/
abbrev words : List Jvm.Cond := [.code New1.yN New1.yB 2 none, .initialized ST, .methodLink ST 27 New4.yN, .instanceMethod New4.yN,
  .code New4.yN New4.yB 6 none, .fieldLink ST 38 ST "COMPACT_STRINGS" "Z", .laysFinal ST ST "value" "[B", .fieldLink ST 9 ST "value" "[B", .laysFinal ST ST "coder" "B", .fieldLink ST 15 ST "coder" "B",
  .methodLink ST 1 Lib.objectInit, .instanceMethod Lib.objectInit, .code Lib.objectInit ⟨#[0xb1]⟩ 1 none, .methodLink ST 177 Cmp3.yN, .static Cmp3.yN, .methodLink ST 47 CodL.yN, .static CodL.yN,
  .code Cmp3.yN Cmp3.yB 6 (some (.array .byte)), .initialized U16, .arrayClass .byte, .methodLink U16 115 Cmp5.yN, .static Cmp5.yN, .code Cmp5.yN Cmp5.yB 7 (some .int), .code CodL.yN CodL.yB 2 (some .byte)]
theorem tab_of {a : Array Value} {s : State} (h : ∀ w ∈ words, w.before a s = true) : New1.tab.before a s = true := by
  have h5 : Cmp5.tab.before a s = true := unparts (wk h (.code Cmp5.yN Cmp5.yB 7 (some .int))) (wks h (.initialized Cmp5.yN.cls :: Cmp5.site))
  have hc : CodL.tab.before a s = true := unparts (wk h (.code CodL.yN CodL.yB 2 (some .byte))) (wks h (.initialized CodL.yN.cls :: CodL.site))
  have q5 : ∀ w ∈ Cmp5.tab :: words, w.before a s = true := fun w hw => (List.mem_cons.mp hw).elim (fun e => e ▸ h5) (h w)
  have h3 : Cmp3.tab.before a s = true := unparts (wk q5 (.code Cmp3.yN Cmp3.yB 6 (some (.array .byte)))) (wks q5 (.initialized Cmp3.yN.cls :: Cmp3.site))
  have q3 : ∀ w ∈ Cmp3.tab :: CodL.tab :: words, w.before a s = true := fun w hw => (List.mem_cons.mp hw).elim (fun e => e ▸ h3) fun hw => (List.mem_cons.mp hw).elim (fun e => e ▸ hc) (h w)
  have h4 : New4.tab.before a s = true := unparts (wk q3 (.code New4.yN New4.yB 6 none)) (wks q3 (.initialized New4.yN.cls :: New4.site))
  have q4 : ∀ w ∈ New4.tab :: words, w.before a s = true := fun w hw => (List.mem_cons.mp hw).elim (fun e => e ▸ h4) (h w)
  exact unparts (wk q4 (.code New1.yN New1.yB 2 none)) (wks q4 (.initialized New1.yN.cls :: New1.site))
/-- the words ride from the start Z to the walk's own state -/
theorem moved {Z s : State} {a0 args : Array Value} (hZ : Z.Warmed39 s.vm) (hw : ∀ d ∈ words, d.before a0 Z = true) : ∀ d ∈ words, d.before args s = true := fun d hd => by
  have q := hw d hd
  have t : ∀ d ∈ words, d = .arrayClass .byte ∨ (d.onTables && d.keepsFace) = true := by decide +kernel
  rcases t d hd with rfl | t
  · exact RoadKit.mvA hZ q
  · exact RoadKit.mv hZ q t
/-- WHAT COMES BACK, over the tables of the start Z: h the heap at the call, h' behind it -/
def Q (Z : State) (x : Addr) (A : Cell) (h : Heap) (v : Option Value) (h' : Heap) (L : List Loc) : Prop := v = none ∧ (∀ y ∈ L, y.base = x) ∧ RoadKit.Keep h h' [x] ∧ h'.size = h.size + 1 ∧ RoadKit.Exa Z h' x ST ∧ RoadKit.Fld Z h' x ST "value" "[B" (.ref h.size) ∧ RoadKit.Fld Z h' x ST "coder" "B" (.int 0) ∧
  (∃ V : Cell, RoadKit.Arr Z h' h.size V .byte ∧ V.vm = .none ∧ Z.vm.findClass "[B" = some V.cls ∧ V.slots.size = A.slots.size ∧ ∀ j, j < A.slots.size → V.slots[j]? = some (.int (lo8 (cv A j)))) ∧
  ∀ (O n d : String) (w : Value), RoadKit.Fld Z h x O n d w → RoadKit.slotOf Z O n d ≠ RoadKit.slotOf Z ST "value" "[B" → RoadKit.slotOf Z O n d ≠ RoadKit.slotOf Z ST "coder" "B" → RoadKit.Fld Z h' x O n d w
/-- **new String(chars) AT A CALL, IN THE ROAD'S FORM**: for specialBack behind newO: x the fresh String, b the char[] with the cell A -/
theorem back {p : Program} {l : Launch} {e : Env} {R : Room} {s : State} {args : Array Value} {below : List Frame} {len W : Nat} {Z : State} {a0 : Array Value} {h : Heap} (hZ : Z.Warmed39 s.vm) (hw : ∀ d ∈ words, d.before a0 Z = true) {kI : Nat} (wi : (Jvm.Cond.instantiable ST kI).before a0 Z = true)
    {x b : Addr} {A : Cell} {z : Int32} {v0 c0 : Value} (E : RoadKit.Exa Z h x ST) (V : RoadKit.Fld Z h x ST "value" "[B" v0) (C : RoadKit.Fld Z h x ST "coder" "B" c0) (K : RoadKit.Arr Z h b A .char) (hty : Typed .char A) (S : RoadKit.Sta Z h ST "COMPACT_STRINGS" "Z" (.int z)) (hz : ¬ z = 0)
    (l0 : 0 < A.slots.size) (l2 : A.slots.size ≤ 536870912) (hp : ∀ i, i < A.slots.size → ¬ 255 < cv A i) (hfr : 4 ≤ R.frames) (hlo : W + 65 ≤ R.locals) :
    Back l R p e below s args New1.yN len W (fun P a => a = #[.ref x, .ref b] ∧ P.U.heap = h ∧ P.cells + 1 ≤ R.cells ∧ P.slots + A.slots.size ≤ R.slots)
      (fun P _ v B => ∃ L, Q Z x A h v B.U.heap L ∧ B.locs = P.locs ++ L ∧ B.cells = P.cells + 1 ∧ B.slots = P.slots + A.slots.size) := by
  intro m meth c P g ig mk a X hg hsize hdg hW hn hp'
  obtain ⟨rfl, rfl, r1, r2⟩ := hp'
  have al : Z.vm.Alike P.U.vm := hZ.alike.trans X.warmed.alike
  obtain ⟨D, cfV, kV, iV, fV, hD, gV, stV, knV, obV, asV, slV⟩ := id V
  obtain ⟨D', cfC, kC, iC, fC, hD', gC, stC, -, -, asC, slC⟩ := id C
  cases hD.symm.trans hD'
  obtain ⟨D2, kD, e1, e2, e3, e4, e5⟩ := id E
  cases hD.symm.trans e1
  obtain ⟨c2, k2, i1, i2, i3, -⟩ := Cond.instantiable_spec wi
  cases e2.symm.trans i1
  cases e3.symm.trans i2
  obtain ⟨kU, u1, u2⟩ := al.2.2 _ _ e3
  have hB : Blank ST x D P.U := ⟨hD, ⟨knV, fun q hq => by rw [hq] at obV; cases obV⟩, by rw [al.findClass]; exact e2, kU, u1, by rw [u2]; exact i3, by rw [u2]; exact e5 i3⟩
  have F1 : Found ST "value" "[B" fV P.U := ⟨SBG.found_only al ⟨cfV, kV, iV, gV⟩, stV⟩
  have F2 : Found ST "coder" "B" fC P.U := ⟨SBG.found_only al ⟨cfC, kC, iC, gC⟩, stC⟩
  have hA : Ch b A P.U := ⟨⟨K.1, State.isArrayOf_alike al K.2.1, K.2.2, by omega⟩, hty⟩
  have hS : StaticIs P.U ST "COMPACT_STRINGS" "Z" (.int z) := by
    obtain ⟨cfS, iS, kS, fS, st, cS, t1, t2, t3, t4, t5, t6, t7⟩ := S
    exact StaticIs.there (s := { Z with heap := P.U.heap }) ⟨cfS, iS, kS, fS, st, cS, t1, t2, t3, t4, t5, (fun q => by rw [q] at t6; cases t6), t7⟩ al rfl
  obtain ⟨v, B, X', ⟨⟨hv, E', V', q1, q2, q3, q4, q5, q6, q7, q8, q9, q10, q11⟩, hl, hc, hs⟩, st⟩ := New1.pays x D fV fC b A z (tab_of (moved hZ hw)) hfr hlo m meth c P g ig mk _ X hg hsize hdg hW hn ⟨r1, r2, rfl, hB, F1, F2, hA, hS, hz, l0, l2, hp⟩
  have al' : Z.vm.Alike B.U.vm := hZ.alike.trans X'.warmed.alike
  have hsz : E'.slots.size = D.slots.size := by
    obtain ⟨-, -, -, kB, w1, w2, w3⟩ := q1
    obtain ⟨kB', y1, y2⟩ := al'.2.2 _ _ e3
    rw [q2.2.1] at w1
    cases w1.symm.trans y1
    rw [w3, e5 i3, y2]
  refine ⟨v, B, X', ⟨_, ⟨hv, ?_, ⟨by omega, fun y cy hy hn' => q10 y cy (by simpa using hn') hy, fun y cy hy => ?_⟩, q11, ⟨E', _, q1.1, by rw [q2.2.1]; exact e2, by rw [q2.2.1]; exact e3, by rw [q2.1]; exact obV, fun _ => by rw [hsz]; exact e5 i3⟩,
    ⟨E', cfV, kV, iV, fV, q1.1, gV, stV, by rw [q2.1]; exact knV, by rw [q2.1]; exact obV, by rw [q2.2.1]; exact asV, q3⟩, ⟨E', cfC, kC, iC, fC, q1.1, gC, stC, by rw [q2.1]; exact knV, by rw [q2.1]; exact obV, by rw [q2.2.1]; exact asC, q4⟩,
    ⟨V', ⟨q5.1, State.isArrayOf_alike al'.symm q5.2.1, q5.2.2.1⟩, q6, by rw [← al'.findClass]; exact q7, q8, fun j hj => by have := q9 j hj; rwa [Nat.zero_add] at this⟩, fun O n d w F n1 n2 => ?_⟩, hl, hc, hs⟩, st⟩
  · intro y hy
    simp only [List.mem_cons, List.not_mem_nil, or_false] at hy
    rcases hy with rfl | rfl <;> rfl
  · by_cases q : y = x
    · subst q
      cases hD.symm.trans hy
      exact ⟨E', q1.1, q2.2.1, q2.1, hsz⟩
    · exact ⟨cy, q10 y cy q hy, rfl, rfl, rfl⟩
  · obtain ⟨D3, cf, k, i, f, g1, g2, g3, g4, g5, g6, g7⟩ := F
    cases hD.symm.trans g1
    simp only [RoadKit.slotOf, g2, gV, gC, Option.map_some, Option.getD_some] at n1 n2
    exact ⟨E', cf, k, i, f, q1.1, g2, g3, by rw [q2.1]; exact g4, by rw [q2.1]; exact g5, by rw [q2.2.1]; exact g6, by rw [q2.2.2 f.slot (by simp [n1, n2])]; exact g7⟩
end StrChars.Road
namespace StrChars.Road
open Jvm Sem ClassFile Op Lib Jvm.Stand Jvm.Free Jvm.Free.XT
/-- WHAT COMES BACK, the byte[] as a list of values -/
def QA (Z : State) (x : Addr) (zn : Int32) (cs : List Int32) (h : Heap) (v : Option Value) (h' : Heap) (L : List Loc) : Prop := v = none ∧ (∀ y ∈ L, y.base = x) ∧ RoadKit.Keep h h' [x] ∧ h'.size = h.size + 1 ∧ RoadKit.Exa Z h' x ST ∧ RoadKit.Fld Z h' x ST "value" "[B" (.ref h.size) ∧ RoadKit.Fld Z h' x ST "coder" "B" (.int 0) ∧
  (∃ kb, Z.vm.findClass "[B" = some kb ∧ RoadKit.Arv Z h' h.size kb .byte zn (cs.map fun c => .int (lo8 c)) (.int 0)) ∧
  ∀ (O n d : String) (w : Value), RoadKit.Fld Z h x O n d w → RoadKit.slotOf Z O n d ≠ RoadKit.slotOf Z ST "value" "[B" → RoadKit.slotOf Z O n d ≠ RoadKit.slotOf Z ST "coder" "B" → RoadKit.Fld Z h' x O n d w
/-- **new String(chars) AT A CALL, THE ARRAYS AS LISTS**: the char[] at b holds cs, not empty, no char above 255 -/
theorem backArv {p : Program} {l : Launch} {e : Env} {R : Room} {s : State} {args : Array Value} {below : List Frame} {len W : Nat} {Z : State} {a0 : Array Value} {h : Heap} (hZ : Z.Warmed39 s.vm) (hw : ∀ d ∈ words, d.before a0 Z = true) {kI : Nat} (wi : (Jvm.Cond.instantiable ST kI).before a0 Z = true)
    {x b : Addr} {k : ClassId} {zn z : Int32} {cs : List Int32} {dv v0 c0 : Value} (E : RoadKit.Exa Z h x ST) (V : RoadKit.Fld Z h x ST "value" "[B" v0) (C : RoadKit.Fld Z h x ST "coder" "B" c0) (K : RoadKit.Arv Z h b k .char zn (cs.map Value.int) dv) (S : RoadKit.Sta Z h ST "COMPACT_STRINGS" "Z" (.int z)) (hz : ¬ z = 0)
    (hlen : zn.toNatClampNeg = cs.length) (h0 : 0 < cs.length) (hbig : cs.length ≤ 536870912) (hall : ∀ c ∈ cs, ¬ 255 < c) (hfr : 4 ≤ R.frames) (hlo : W + 65 ≤ R.locals) :
    Back l R p e below s args New1.yN len W (fun P a => a = #[.ref x, .ref b] ∧ P.U.heap = h ∧ P.cells + 1 ≤ R.cells ∧ P.slots + cs.length ≤ R.slots)
      (fun P _ v B => ∃ L, QA Z x zn cs h v B.U.heap L ∧ B.locs = P.locs ++ L ∧ B.cells = P.cells + 1 ∧ B.slots = P.slots + cs.length) := by
  obtain ⟨A, K1, K2, K3, K4, K5, K6⟩ := K
  have e : A.slots.size = cs.length := K3.trans hlen
  have hat : ∀ (i : Nat) (hi : i < cs.length), A.slots[i]? = some (.int cs[i]) := fun i hi => by rw [K5 i (by omega)]; simp [List.getD_eq_getElem?_getD, hi]
  have hcv : ∀ (i : Nat) (hi : i < cs.length), cv A i = cs[i] := fun i hi => by unfold cv; rw [hat i hi]
  have hty : Typed .char A := fun i v hv => by
    have hi : i < A.slots.size := (Array.getElem?_eq_some_iff.mp hv).1
    have q := K5 i hi
    rw [hv] at q
    rw [Option.some.inj q]
    exact K6 i hi
  refine Back.mono (back hZ hw wi E V C K1 hty S hz (by omega) (by omega) (fun i hi => by rw [hcv i (by omega)]; exact hall _ (List.getElem_mem _)) hfr hlo) (fun P a hp => ⟨hp.1, hp.2.1, hp.2.2.1, by rw [e]; exact hp.2.2.2⟩) (fun P a v B hp hq => ?_)
  obtain ⟨L, ⟨q1, q2, q3, q4, q5, q6, q7, ⟨V', v1, v2, v3, v4, v5⟩, q9⟩, hl, hc, hs⟩ := hq
  refine ⟨L, ⟨q1, q2, q3, q4, q5, q6, q7, ⟨V'.cls, v3, V', v1, rfl, by rw [v4, e, hlen], K4, fun i hi => ?_, fun i hi => ?_⟩, q9⟩, hl, hc, by rw [hs, e]⟩
  · have hi' : i < cs.length := by omega
    rw [v5 i (by omega), hcv i hi']; simp [List.getD_eq_getElem?_getD, hi']
  · have hi' : i < cs.length := by omega
    simp only [List.getD_eq_getElem?_getD, List.getElem?_map, List.getElem?_eq_getElem hi', Option.map_some, Option.getD_some]
    exact fits_lo8 _
end StrChars.Road
namespace StrChars.Road
open Jvm Sem ClassFile Op Lib Jvm.Stand Jvm.Free Jvm.Free.XT
/-- WHAT COMES BACK, in the writer's own shape -/
def QV (Z : State) (x : Addr) (N : Int32) (bs : List Int32) (h : Heap) (n0 : Nat) (v : Option Value) (h' : Heap) (L : List Loc) : Prop := v = none ∧ RoadKit.Fr n0 L ∧ RoadKit.Keep h h' [x] ∧ RoadKit.Exa Z h' x ST ∧ RoadKit.Fld Z h' x ST "coder" "B" (.int 0) ∧
  ∃ (t : Addr) (kb : ClassId), n0 ≤ t ∧ h.size ≤ t ∧ ¬ t = x ∧ RoadKit.Fld Z h' x ST "value" "[B" (.ref t) ∧ RoadKit.Arv Z h' t kb .byte N (bs.map Value.int) (.int 0)
/-- **new String(chars) AT A CALL, FOR THE WRITER**: a char[] of n known ints, each 0 to 255 -/
theorem backV {p : Program} {l : Launch} {e : Env} {R : Room} {s : State} {args : Array Value} {below : List Frame} {len W : Nat} {Z : State} {a0 : Array Value} {h : Heap} (hZ : Z.Warmed39 s.vm) (hw : ∀ d ∈ words, d.before a0 Z = true) {kI : Nat} (wi : (Jvm.Cond.instantiable ST kI).before a0 Z = true)
    {x b : Addr} {kC : ClassId} {cs bs : List Int32} {d v0 c0 : Value} {z N : Int32} {n n0 : Nat} (hx0 : n0 ≤ x) (hh0 : n0 ≤ h.size) (E : RoadKit.Exa Z h x ST) (V : RoadKit.Fld Z h x ST "value" "[B" v0) (C : RoadKit.Fld Z h x ST "coder" "B" c0) (K : RoadKit.Arv Z h b kC .char N (cs.map Value.int) d) (S : RoadKit.Sta Z h ST "COMPACT_STRINGS" "Z" (.int z)) (hz : ¬ z = 0)
    (hn : cs.length = n) (hN : N = Int32.ofNat n) (l0 : 0 < n) (l2 : n ≤ 4000) (hp : ∀ c ∈ cs, ¬ c < 0 ∧ ¬ (255 : Int32) < c) (hb : bs = cs.map (fun c => c.toInt8.toInt32)) (hfr : 4 ≤ R.frames) (hlo : W + 65 ≤ R.locals) :
    Back l R p e below s args (⟨"java/lang/String", "<init>", "([C)V"⟩ : MethodName) len W (fun P a => a = #[.ref x, .ref b] ∧ P.U.heap = h ∧ P.cells + 1 ≤ R.cells ∧ P.slots + n ≤ R.slots)
      (fun P _ v B => ∃ L, QV Z x N bs h n0 v B.U.heap L ∧ B.locs = P.locs ++ L ∧ B.cells = P.cells + 1 ∧ B.slots = P.slots + n) := by
  subst hn hN hb
  refine Back.mono (backArv hZ hw wi E V C K S hz (n32 (by omega)) l0 (by omega) (fun c hc => (hp c hc).2) hfr hlo) (fun P a hp => hp) (fun P a v B hp hq => ?_)
  obtain ⟨L, ⟨q1, q2, q3, q4, q5, q6, q7, ⟨kb, v1, v2⟩, q9⟩, hl, hc, hs⟩ := hq
  exact ⟨L, ⟨q1, fun y hy => by rw [q2 y hy]; exact hx0, q3, q5, q7, h.size, kb, hh0, Nat.le_refl _, Nat.ne_of_gt E.lt, q6, by rw [List.map_map]; exact v2⟩, hl, hc, hs⟩
end StrChars.Road
namespace StrChars
open Jvm Sem ClassFile Op Lib Jvm.Stand Jvm.Free.XT Jvm.Free.ALB Jvm.Free.JM Jvm.Free
open Jvm.Lib.Cold (StaticIs)
def hi8 (x : Int32) : Int32 := lo8 (x >>> ((8 : Int32) &&& 31))
/-- what StringUTF16.getChar makes of two bytes -/
def pairCh (u v : Int32) : Int32 := (((u &&& 255) <<< ((0 : Int32) &&& 31)) ||| ((v &&& 255) <<< ((8 : Int32) &&& 31))).toUInt32.toUInt16.toUInt32.toInt32
theorem shr0 (c : Int32) : c >>> ((0 : Int32) &&& 31) = c := by
  have e : ((0 : Int32) &&& 31) = 0 := by decide
  rw [e]
  apply Int32.toBitVec_inj.mp
  rw [Int32.toBitVec_shiftRight]
  have e1 : ((0 : Int32).toBitVec.smod 32) = 0#32 := by decide
  rw [e1, BitVec.sshiftRight_eq']
  exact BitVec.sshiftRight_zero
theorem lo8_and (x : Int32) : (lo8 x &&& 255).toBitVec.toNat = x.toBitVec.toNat % 256 := by
  have h : (lo8 x).toBitVec = (x.toBitVec.signExtend 8).signExtend 32 := by rw [lo8, Int8.toBitVec_toInt32, Int32.toBitVec_toInt8]
  rw [Int32.toBitVec_and, BitVec.toNat_and, h]
  have e : ((x.toBitVec.signExtend 8).signExtend 32).toNat % 256 = x.toBitVec.toNat % 256 := by
    rw [BitVec.toNat_signExtend]
    have hlt := x.toBitVec.isLt
    simp only [BitVec.toNat_setWidth, BitVec.toNat_signExtend]
    split <;> split <;> omega
  rw [← e]
  exact Nat.and_two_pow_sub_one_eq_mod _ 8
theorem pair_says {c : Int32} (h0 : ¬ c < 0) (h1 : ¬ 65535 < c) : pairCh (lo8 c) (hi8 c) = c := by
  rw [Int32.lt_iff_toInt_lt] at h0 h1
  have e0 : (0 : Int32).toInt = 0 := rfl
  have e1 : (65535 : Int32).toInt = 65535 := rfl
  have hc : c.toInt = c.toBitVec.toNat := by
    have := c.toBitVec.isLt
    have e : c.toInt = c.toBitVec.toInt := rfl
    rw [e] at h0 h1
    rw [e]
    rw [BitVec.toInt_eq_toNat_cond] at h0 h1 ⊢
    split at h0 <;> split <;> omega
  have hn : c.toBitVec.toNat < 65536 := by omega
  have a1 := lo8_and c
  have a2 : (hi8 c &&& 255).toBitVec.toNat = c.toBitVec.toNat / 256 := by
    rw [hi8, lo8_and]
    have e : ((8 : Int32) &&& 31) = 8 := by decide
    rw [e, Int32.toBitVec_shiftRight]
    have e2 : ((8 : Int32).toBitVec.smod 32) = 8#32 := by decide
    rw [e2, BitVec.sshiftRight_eq', BitVec.toNat_sshiftRight_of_msb_false (by rw [BitVec.msb_eq_false_iff_two_mul_lt]; omega)]
    show c.toBitVec.toNat >>> 8 % 256 = _
    rw [Nat.shiftRight_eq_div_pow]
    omega
  unfold pairCh
  apply Int32.toBitVec_inj.mp
  apply BitVec.eq_of_toNat_eq
  have f0 : ((0 : Int32) &&& 31) = 0 := by decide
  have f8 : ((8 : Int32) &&& 31) = 8 := by decide
  rw [f0, f8]
  have g : (((lo8 c &&& 255) <<< (0 : Int32)) ||| ((hi8 c &&& 255) <<< (8 : Int32))).toBitVec.toNat = c.toBitVec.toNat := by
    rw [Int32.toBitVec_or, Int32.toBitVec_shiftLeft, Int32.toBitVec_shiftLeft]
    have s0 : ((0 : Int32).toBitVec.smod 32) = 0#32 := by decide
    have s8 : ((8 : Int32).toBitVec.smod 32) = 8#32 := by decide
    rw [s0, s8, BitVec.toNat_or]
    simp only [BitVec.shiftLeft_eq', BitVec.toNat_shiftLeft, a1, a2]
    show (c.toBitVec.toNat % 256) <<< 0 % 2 ^ 32 ||| (c.toBitVec.toNat / 256) <<< 8 % 2 ^ 32 = _
    rw [Nat.shiftLeft_zero, Nat.mod_eq_of_lt (show c.toBitVec.toNat % 256 < 2 ^ 32 by omega), Nat.mod_eq_of_lt (show (c.toBitVec.toNat / 256) <<< 8 < 2 ^ 32 by rw [Nat.shiftLeft_eq]; omega), Nat.or_comm, ← Nat.shiftLeft_add_eq_or_of_lt (by omega), Nat.shiftLeft_eq]
    omega
  show BitVec.toNat (((((lo8 c &&& 255) <<< (0 : Int32)) ||| ((hi8 c &&& 255) <<< (8 : Int32))).toBitVec.setWidth 16).setWidth 32) = _
  rw [BitVec.toNat_setWidth, BitVec.toNat_setWidth, g]
  omega
end StrChars
namespace StrChars
open Jvm Sem ClassFile Op Lib Jvm.Stand Jvm.Free.XT Jvm.Free.ALB Jvm.Free.JM Jvm.Free
open Jvm.Lib.Cold (StaticIs)
theorem shr1 {n : Nat} (h : 2 * n < 2 ^ 31) : Int32.ofNat (2 * n) >>> ((1 : Int32) &&& 31) = Int32.ofNat n := by
  have e : ((1 : Int32) &&& 31) = 1 := by decide
  rw [e]
  apply Int32.toBitVec_inj.mp
  rw [Int32.toBitVec_shiftRight]
  have e1 : ((1 : Int32).toBitVec.smod 32) = 1#32 := by decide
  have hm : (BitVec.ofNat 32 (2 * n)).toNat = 2 * n := by rw [BitVec.toNat_ofNat, Nat.mod_eq_of_lt (by omega)]
  rw [e1, BitVec.sshiftRight_eq']
  apply BitVec.eq_of_toNat_eq
  show ((BitVec.ofNat 32 (2 * n)).sshiftRight 1).toNat = (BitVec.ofNat 32 n).toNat
  rw [BitVec.toNat_sshiftRight_of_msb_false (by rw [BitVec.msb_eq_false_iff_two_mul_lt, hm]; omega), hm, BitVec.toNat_ofNat, Nat.shiftRight_eq_div_pow]
  omega
/-- charAt's cast of a byte read back -/
def chr8 (u : Int32) : Int32 := (u &&& 255).toUInt32.toUInt16.toUInt32.toInt32
theorem chr8_lo8 {c : Int32} (h0 : ¬ c < 0) (h1 : ¬ 255 < c) : chr8 (lo8 c) = c := by
  have t : ∀ k : Fin 256, (Int32.ofNat k.val).toUInt32.toUInt16.toUInt32.toInt32 = Int32.ofNat k.val := by decide +kernel
  unfold chr8
  rw [lo8_mask h0 h1]
  rw [Int32.lt_iff_toInt_lt] at h0 h1
  have e0 : (0 : Int32).toInt = 0 := rfl
  have e1 : (255 : Int32).toInt = 255 := rfl
  obtain ⟨k, hk⟩ : ∃ k : Nat, c.toInt = k := ⟨c.toInt.toNat, by omega⟩
  have hx : c = Int32.ofNat k := Int32.toInt_inj.mp (by rw [hk, Int32.toInt_ofNat_small (by omega)])
  rw [hx]
  exact t ⟨k, by omega⟩
theorem narrow_ch {c : Int32} (h0 : ¬ c < 0) (h1 : ¬ 65535 < c) : narrow .char (.int c) = .int c := by
  have q : narrow .char (.int (pairCh (lo8 c) (hi8 c))) = .int (pairCh (lo8 c) (hi8 c)) := narrow_c _
  rwa [pair_says h0 h1] at q
/-- the array's cell V codes the n chars f 0 .. f (n - 1) by the coder cd, as the JDK does: coder 1 just where some char is above 255 -/
def Cod (cd : Int32) (n : Nat) (f : Nat → Int32) (V : Cell) : Prop := (cd = 0 ∧ V.slots.size = n ∧ ∀ j, j < n → V.slots[j]? = some (.int (lo8 (f j))) ∧ ¬ 255 < f j) ∨ (cd = 1 ∧ V.slots.size = 2 * n ∧ (∀ j, j < n → V.slots[2 * j]? = some (.int (lo8 (f j))) ∧ V.slots[2 * j + 1]? = some (.int (hi8 (f j)))) ∧ ∃ j, j < n ∧ 255 < f j)
theorem Cod.cd {cd : Int32} {n : Nat} {f : Nat → Int32} {V : Cell} (h : Cod cd n f V) : cd = 0 ∨ cd = 1 := h.imp (fun q => q.1) fun q => q.1
theorem Cod.len {cd : Int32} {n : Nat} {f : Nat → Int32} {V : Cell} (h : Cod cd n f V) (hs : V.slots.size < 2 ^ 31) : Int32.ofNat V.slots.size >>> (cd &&& 31) = Int32.ofNat n := by
  rcases h with ⟨rfl, h, -⟩ | ⟨rfl, h, -⟩
  · rw [shr0, h]
  · rw [h, shr1 (by omega)]
/-- **x is a String of the n chars f 0 .. f (n - 1)**, Latin-1 or UTF-16; its array at t has the cell V -/
def Txt (x t : Addr) (V : Cell) (cd : Int32) (n : Nat) (f : Nat → Int32) (U : State) : Prop := Exact "java/lang/String" x U ∧ Has x "java/lang/String" "value" "[B" (.ref t) U ∧ Has x "java/lang/String" "coder" "B" (.int cd) U ∧ XT.Arr .byte t V U ∧ Cod cd n f V ∧ ∀ j, j < n → ¬ f j < 0 ∧ ¬ 65535 < f j
theorem Txt.mv {x t : Addr} {V : Cell} {cd : Int32} {n : Nat} {f : Nat → Int32} {U U' : State} (h : Txt x t V cd n f U) (hal : U.vm.Alike U'.vm) (hh : U'.heap = U.heap) : Txt x t V cd n f U' := ⟨h.1.mv hal hh, h.2.1.mv hal hh, h.2.2.1.mv hal hh, h.2.2.2.1.mv hal hh, h.2.2.2.2⟩
namespace Cdr
def yN : MethodName := ⟨"java/lang/String", "coder", "()B"⟩
abbrev yB : ByteArray := jdk_42_method_152_code
theorem d0 : decode yB 0 = .ok (.getstatic 38, 3) := by decide +kernel
theorem d3 : decode yB 3 = .ok (.ifCond (.eq) 10, 3) := by decide +kernel
theorem d6 : decode yB 6 = .ok (.aload_n 0, 1) := by decide +kernel
theorem d7 : decode yB 7 = .ok (.getfield 15, 3) := by decide +kernel
theorem d10 : decode yB 10 = .ok (.goto 4, 3) := by decide +kernel
theorem d14 : decode yB 14 = .ok (.ireturn, 1) := by decide +kernel
def site : List Cond := [.fieldLink "java/lang/String" 38 "java/lang/String" "COMPACT_STRINGS" "Z", .fieldLink "java/lang/String" 15 "java/lang/String" "coder" "B"]
def tab : Cond := tabOf yN yB 1 (some .byte) site
def P (x : Addr) (cd z : Int32) (args : Array Value) (s : State) : Prop := args = #[.ref x] ∧ Has x "java/lang/String" "coder" "B" (.int cd) s ∧ (cd = 0 ∨ cd = 1) ∧ StaticIs s "java/lang/String" "COMPACT_STRINGS" "Z" (.int z) ∧ ¬ z = 0
def E (cd : Int32) (r : Option Value) (s u : State) : Prop := XT.PureE (some (.int cd)) r s u
theorem law (l : Launch) (x : Addr) (cd z : Int32) : Law l yN 1 0 0 0 yB 1 (some .byte) site (P x cd z) (E cd) [] 0 0 := by
  refine Law.of_walk (plainFor_of_name (by decide +kernel)) (by decide +kernel) (by decide +kernel) (by decide) (fun _ _ h => by rw [h.1]; rfl) (fun _ U U' hal hh h => ⟨h.1, h.2.1.mv hal hh, h.2.2.1, h.2.2.2.1.there hal hh, h.2.2.2.2⟩) (fun r U U' V V' h1 hal h2 h => XT.PureE.mv r U U' V V' h1 hal h2 h) ?_
  intro p e s m args below meth c s₁ X0 hexec hbytes hml hret hlk hnm hown hh0 W hP
  obtain ⟨rfl, hx, hc, s1, hz⟩ := hP
  have c1 : Steps p.tables e below (s₁.setTop (entryFrame m #[.ref x] 1)) (s₁.setTop (mkF m 0 #[.val (.ref x)] [])) := entry rfl
  obtain ⟨T2, X2, q2, st2⟩ := X0.sget hexec hown (wk W (.fieldLink "java/lang/String" 38 "java/lang/String" "COMPACT_STRINGS" "Z")) s1 (fun _ _ h => by rw [hh0]; exact h) (g := (mkF m 0 #[.val (.ref x)] [])) rfl (hb hbytes d0)
  have hh2 := q2.trans hh0
  have c3 : Steps p.tables e below (s₁.setTop (entryFrame m #[.ref x] 1)) (T2.setTop (mkF m 7 #[.val (.ref x)] [.ref x])) := (c1.trans (st2 _ (Steps.refl _))).trans (by
    refine XS.ifNo X2.here hexec rfl (hb hbytes d3) rfl (i0_eq_f hz) ?_
    refine XS.aloadN X2.here hexec rfl (hb hbytes d6) rfl rfl ?_
    exact Steps.refl _)
  obtain ⟨T4, X4, q4, st4⟩ := X2.hget hexec hown (wk W (.fieldLink "java/lang/String" 15 "java/lang/String" "coder" "B")) (hx.mv X2.warmed.alike hh2) (g := (mkF m 7 #[.val (.ref x)] [.ref x])) rfl (rest := []) rfl (hb hbytes d7)
  have c5 : Steps p.tables e below (s₁.setTop (entryFrame m #[.ref x] 1)) (T4.setTop (mkF m 14 #[.val (.ref x)] [.int cd])) := (c3.trans (st4 _ (Steps.refl _))).trans (by
    refine XS.goto X4.here hexec rfl (pc0 := 10) rfl (hb hbytes d10) (by decide) rfl ?_
    exact Steps.refl _)
  exact ⟨T4, some (.int cd), _, _, _, X4, rfl, rfl, rfl, (fun h => by cases h), ⟨rfl, q4.trans hh2⟩, fun fs hl => c5.trans (X4.ireturnOut hexec hret (by rcases hc with rfl | rfl <;> rfl) (Or.inr (Or.inr (Or.inl rfl))) (hb hbytes d14) hl)⟩
end Cdr
namespace Len
def yN : MethodName := ⟨"java/lang/String", "length", "()I"⟩
abbrev yB : ByteArray := jdk_42_method_54_code
theorem d0 : decode yB 0 = .ok (.aload_n 0, 1) := by decide +kernel
theorem d1 : decode yB 1 = .ok (.getfield 9, 3) := by decide +kernel
theorem d4 : decode yB 4 = .ok (.arraylength, 1) := by decide +kernel
theorem d5 : decode yB 5 = .ok (.aload_n 0, 1) := by decide +kernel
theorem d6 : decode yB 6 = .ok (.invokevirtual 335, 3) := by decide +kernel
theorem d9 : decode yB 9 = .ok (.ishr, 1) := by decide +kernel
theorem d10 : decode yB 10 = .ok (.ireturn, 1) := by decide +kernel
def site : List Cond := [.fieldLink "java/lang/String" 9 "java/lang/String" "value" "[B", Cdr.tab] ++ virtW "java/lang/String" 335 "java/lang/String" Cdr.yN Cdr.yN
def tab : Cond := tabOf yN yB 1 (some .int) site
def P (x t : Addr) (V : Cell) (cd : Int32) (n : Nat) (f : Nat → Int32) (z : Int32) (args : Array Value) (s : State) : Prop := args = #[.ref x] ∧ Txt x t V cd n f s ∧ StaticIs s "java/lang/String" "COMPACT_STRINGS" "Z" (.int z) ∧ ¬ z = 0
def E (n : Nat) (r : Option Value) (s u : State) : Prop := XT.PureE (some (.int (Int32.ofNat n))) r s u
/-- length() of a String of n chars, in either coding -/
theorem law (l : Launch) (x t : Addr) (V : Cell) (cd : Int32) (n : Nat) (f : Nat → Int32) (z : Int32) : Law l yN 1 0 1 13 yB 1 (some .int) site (P x t V cd n f z) (E n) [] 0 0 := by
  refine Law.of_walk (plainFor_of_name (by decide +kernel)) (by decide +kernel) (by decide +kernel) (by decide) (fun _ _ h => by rw [h.1]; rfl) (fun _ U U' hal hh h => ⟨h.1, h.2.1.mv hal hh, h.2.2.1.there hal hh, h.2.2.2⟩) (fun r U U' V V' h1 hal h2 h => XT.PureE.mv r U U' V V' h1 hal h2 h) ?_
  intro p e s m args below meth c s₁ X0 hexec hbytes hml hret hlk hnm hown hh0 W hP
  obtain ⟨rfl, hx, s1, hz⟩ := hP
  have v31 := hx.2.2.2.1.2.2.2
  have c1 : Steps p.tables e below (s₁.setTop (entryFrame m #[.ref x] 1)) (s₁.setTop (mkF m 1 #[.val (.ref x)] [.ref x])) := Steps.trans (entry rfl) (by
    show Steps p.tables e below (s₁.setTop (mkF m 0 #[.val (.ref x)] [])) _
    refine XS.aloadN X0.here hexec rfl (hb hbytes d0) rfl rfl ?_
    exact Steps.refl _)
  obtain ⟨T2, X2, q2, st2⟩ := X0.hget hexec hown (wk W (.fieldLink "java/lang/String" 9 "java/lang/String" "value" "[B")) (hx.mv X0.warmed.alike hh0).2.1 (g := (mkF m 1 #[.val (.ref x)] [.ref x])) rfl (rest := []) rfl (hb hbytes d1)
  have hh2 := q2.trans hh0
  have hx2 := hx.mv X2.warmed.alike hh2
  have c3 : Steps p.tables e below (s₁.setTop (entryFrame m #[.ref x] 1)) (T2.setTop (mkF m 6 #[.val (.ref x)] [.ref x, .int (Int32.ofNat V.slots.size)])) := (c1.trans (st2 _ (Steps.refl _))).trans (by
    refine X2.alen hexec hx2.2.2.2.1 rfl rfl (hb hbytes d4) ?_
    refine XS.aloadN X2.here hexec rfl (hb hbytes d5) rfl rfl ?_
    exact Steps.refl _)
  obtain ⟨v4, T4, X4, E4, g4⟩ := X2.callV hexec (Cdr.law l x cd z) hown (wks W (virtW "java/lang/String" 335 "java/lang/String" Cdr.yN Cdr.yN)) rfl (by decide) (wk W Cdr.tab) (W := 1) (Nat.le_of_ble_eq_true rfl) (Nat.le_of_ble_eq_true rfl) (Nat.le_refl _) (Nat.le_refl _) (hx2.1.fc X2.warmed.alike) hx2.1.is (g := (mkF m 6 #[.val (.ref x)] [.ref x, .int (Int32.ofNat V.slots.size)])) rfl (by rw [hml]; rfl) c3 (argsL := []) (rest := [.int (Int32.ofNat V.slots.size)]) rfl rfl (by show 2 * 0 + (1 + 0) ≤ _; decide) (hb hbytes d6) (⟨rfl, hx2.2.2.1, hx.2.2.2.2.1.cd, s1.there X2.warmed.alike hh2, hz⟩)
  obtain ⟨rfl, q4⟩ := E4
  have c5 : Steps p.tables e below (s₁.setTop (entryFrame m #[.ref x] 1)) (T4.setTop (mkF m 10 #[.val (.ref x)] [.int (Int32.ofNat V.slots.size >>> (cd &&& 31))])) := Steps.trans g4 (by
    refine ishr X4.here hexec rfl (hb hbytes d9) rfl ?_
    exact Steps.refl _)
  rw [hx.2.2.2.2.1.len v31] at c5
  exact ⟨T4, some (.int (Int32.ofNat n)), _, _, _, X4, rfl, rfl, rfl, (fun h => by cases h), ⟨rfl, q4.trans hh2⟩, fun fs hl => c5.trans (X4.ireturnOut hexec hret rfl (Or.inl rfl) (hb hbytes d10) hl)⟩
theorem pays {l : Launch} {R : Room} {p : Program} {e : Env} {below : List Frame} {s : State} {sargs : Array Value} {len W : Nat} (x t : Addr) (V : Cell) (cd : Int32) (n : Nat) (f : Nat → Int32) (z : Int32) (htab : tab.before sargs s = true) (hfr : 2 ≤ R.frames) (hlo : W + 25 ≤ R.locals) :
    Back l R p e below s sargs yN len W (fun A₁ a₁ => A₁.cells + 0 ≤ R.cells ∧ A₁.slots + 0 ≤ R.slots ∧ P x t V cd n f z a₁ A₁.U) (fun A₁ _ v₁ B₁ => E n v₁ A₁.U B₁.U ∧ B₁.locs = A₁.locs ++ [] ∧ B₁.cells = A₁.cells + 0 ∧ B₁.slots = A₁.slots + 0) :=
  (law l x t V cd n f z).pays htab hfr (by omega)
end Len
namespace IsL
def yN : MethodName := ⟨"java/lang/String", "isLatin1", "()Z"⟩
abbrev yB : ByteArray := jdk_42_method_154_code
theorem d0 : decode yB 0 = .ok (.getstatic 38, 3) := by decide +kernel
theorem d3 : decode yB 3 = .ok (.ifCond (.eq) 14, 3) := by decide +kernel
theorem d6 : decode yB 6 = .ok (.aload_n 0, 1) := by decide +kernel
theorem d7 : decode yB 7 = .ok (.getfield 15, 3) := by decide +kernel
theorem d10 : decode yB 10 = .ok (.ifCond (.ne) 7, 3) := by decide +kernel
theorem d13 : decode yB 13 = .ok (.iconst 1, 1) := by decide +kernel
theorem d14 : decode yB 14 = .ok (.goto 4, 3) := by decide +kernel
theorem d17 : decode yB 17 = .ok (.iconst 0, 1) := by decide +kernel
theorem d18 : decode yB 18 = .ok (.ireturn, 1) := by decide +kernel
def site : List Cond := [.fieldLink "java/lang/String" 38 "java/lang/String" "COMPACT_STRINGS" "Z", .fieldLink "java/lang/String" 15 "java/lang/String" "coder" "B"]
def tab : Cond := tabOf yN yB 1 (some .boolean) site
def P (x : Addr) (cd z : Int32) (args : Array Value) (s : State) : Prop := args = #[.ref x] ∧ Has x "java/lang/String" "coder" "B" (.int cd) s ∧ (cd = 0 ∨ cd = 1) ∧ StaticIs s "java/lang/String" "COMPACT_STRINGS" "Z" (.int z) ∧ ¬ z = 0
def E (cd : Int32) (r : Option Value) (s u : State) : Prop := XT.PureE (some (.int (1 - cd))) r s u
theorem law (l : Launch) (x : Addr) (cd z : Int32) : Law l yN 1 0 0 0 yB 1 (some .boolean) site (P x cd z) (E cd) [] 0 0 := by
  refine Law.of_walk (plainFor_of_name (by decide +kernel)) (by decide +kernel) (by decide +kernel) (by decide) (fun _ _ h => by rw [h.1]; rfl) (fun _ U U' hal hh h => ⟨h.1, h.2.1.mv hal hh, h.2.2.1, h.2.2.2.1.there hal hh, h.2.2.2.2⟩) (fun r U U' V V' h1 hal h2 h => XT.PureE.mv r U U' V V' h1 hal h2 h) ?_
  intro p e s m args below meth c s₁ X0 hexec hbytes hml hret hlk hnm hown hh0 W hP
  obtain ⟨rfl, hx, hc, s1, hz⟩ := hP
  have c1 : Steps p.tables e below (s₁.setTop (entryFrame m #[.ref x] 1)) (s₁.setTop (mkF m 0 #[.val (.ref x)] [])) := entry rfl
  obtain ⟨T2, X2, q2, st2⟩ := X0.sget hexec hown (wk W (.fieldLink "java/lang/String" 38 "java/lang/String" "COMPACT_STRINGS" "Z")) s1 (fun _ _ h => by rw [hh0]; exact h) (g := (mkF m 0 #[.val (.ref x)] [])) rfl (hb hbytes d0)
  have hh2 := q2.trans hh0
  have c3 : Steps p.tables e below (s₁.setTop (entryFrame m #[.ref x] 1)) (T2.setTop (mkF m 7 #[.val (.ref x)] [.ref x])) := (c1.trans (st2 _ (Steps.refl _))).trans (by
    refine XS.ifNo X2.here hexec rfl (hb hbytes d3) rfl (i0_eq_f hz) ?_
    refine XS.aloadN X2.here hexec rfl (hb hbytes d6) rfl rfl ?_
    exact Steps.refl _)
  obtain ⟨T4, X4, q4, st4⟩ := X2.hget hexec hown (wk W (.fieldLink "java/lang/String" 15 "java/lang/String" "coder" "B")) (hx.mv X2.warmed.alike hh2) (g := (mkF m 7 #[.val (.ref x)] [.ref x])) rfl (rest := []) rfl (hb hbytes d7)
  have c5 : Steps p.tables e below (s₁.setTop (entryFrame m #[.ref x] 1)) (T4.setTop (mkF m 10 #[.val (.ref x)] [.int cd])) := c3.trans (st4 _ (Steps.refl _))
  have c6 : Steps p.tables e below (s₁.setTop (entryFrame m #[.ref x] 1)) (T4.setTop (mkF m 18 #[.val (.ref x)] [.int (1 - cd)])) := by
    rcases hc with rfl | rfl
    · exact c5.trans (by
        refine XS.ifNo X4.here hexec rfl (hb hbytes d10) rfl (i0_ne_f rfl) ?_
        refine iconstV X4.here hexec rfl 1 (hb hbytes d13) (by decide) ?_
        refine XS.goto X4.here hexec rfl (pc0 := 14) rfl (hb hbytes d14) (by decide) rfl ?_
        exact Steps.refl _)
    · exact c5.trans (by
        refine XS.ifYes X4.here hexec rfl (pc0 := 10) rfl (hb hbytes d10) rfl (i0_ne_t (by decide)) (by decide) rfl ?_
        refine iconstV X4.here hexec rfl 0 (hb hbytes d17) (by decide) ?_
        exact Steps.refl _)
  exact ⟨T4, some (.int (1 - cd)), _, _, _, X4, rfl, rfl, rfl, (fun h => by cases h), ⟨rfl, q4.trans hh2⟩, fun fs hl => c6.trans (X4.ireturnOut hexec hret (by rcases hc with rfl | rfl <;> rfl) (Or.inr (Or.inl rfl)) (hb hbytes d18) hl)⟩
end IsL
namespace LChA
def yN : MethodName := ⟨"java/lang/StringLatin1", "charAt", "([BI)C"⟩
abbrev yB : ByteArray := jdk_43_method_2_code
theorem d0 : decode yB 0 = .ok (.iload_n 1, 1) := by decide +kernel
theorem d1 : decode yB 1 = .ok (.aload_n 0, 1) := by decide +kernel
theorem d2 : decode yB 2 = .ok (.arraylength, 1) := by decide +kernel
theorem d3 : decode yB 3 = .ok (.invokestatic 9, 3) := by decide +kernel
theorem d6 : decode yB 6 = .ok (.aload_n 0, 1) := by decide +kernel
theorem d7 : decode yB 7 = .ok (.iload_n 1, 1) := by decide +kernel
theorem d8 : decode yB 8 = .ok (.baload, 1) := by decide +kernel
theorem d9 : decode yB 9 = .ok (.sipush 255, 3) := by decide +kernel
theorem d12 : decode yB 12 = .ok (.iand, 1) := by decide +kernel
theorem d13 : decode yB 13 = .ok (.i2c, 1) := by decide +kernel
theorem d14 : decode yB 14 = .ok (.ireturn, 1) := by decide +kernel
def site : List Cond := [JO.Str_checkIndex.tab] ++ staticW "java/lang/StringLatin1" 9 JO.Str_checkIndex.yN
def tab : Cond := tabOf yN yB 2 (some .char) site
def P (t : Addr) (V : Cell) (i : Nat) (u : Int32) (fm : Value) (args : Array Value) (s : State) : Prop := args = #[.ref t, .int (Int32.ofNat i)] ∧ XT.Arr .byte t V s ∧ V.slots[i]? = some (.int u) ∧ (StaticIs s "jdk/internal/util/Preconditions" "SIOOBE_FORMATTER" "Ljava/util/function/BiFunction;" fm ∧ fm.isRef = true)
def E (u : Int32) (r : Option Value) (s w : State) : Prop := XT.PureE (some (.int (chr8 u))) r s w
theorem law (l : Launch) (t : Addr) (V : Cell) (i : Nat) (u : Int32) (fm : Value) : Law l yN 2 2 2 27 yB 2 (some .char) site (P t V i u fm) (E u) [] 0 0 := by
  refine Law.of_walk (plainFor_of_name (by decide +kernel)) (by decide +kernel) (by decide +kernel) (by decide) (fun _ _ h => by rw [h.1]; rfl) (fun _ U U' hal hh h => ⟨h.1, h.2.1.mv hal hh, h.2.2.1, h.2.2.2.1.there hal hh, h.2.2.2.2⟩) (fun r U U' V V' h1 hal h2 h => XT.PureE.mv r U U' V V' h1 hal h2 h) ?_
  intro p e s m args below meth c s₁ X0 hexec hbytes hml hret hlk hnm hown hh0 W hP
  obtain ⟨rfl, hV, hu, s1, rf⟩ := hP
  have v31 := hV.2.2.2
  have hi : i < V.slots.size := (Array.getElem?_eq_some_iff.mp hu).1
  have c1 : Steps p.tables e below (s₁.setTop (entryFrame m #[.ref t, .int (Int32.ofNat i)] 2)) (s₁.setTop (mkF m 0 #[.val (.ref t), .val (.int (Int32.ofNat i))] [])) := entry rfl
  have c2 : Steps p.tables e below (s₁.setTop (entryFrame m #[.ref t, .int (Int32.ofNat i)] 2)) (s₁.setTop (mkF m 3 #[.val (.ref t), .val (.int (Int32.ofNat i))] [.int (Int32.ofNat V.slots.size), .int (Int32.ofNat i)])) := c1.trans (by
    refine XS.iloadN X0.here hexec rfl (hb hbytes d0) rfl ?_
    refine XS.aloadN X0.here hexec rfl (hb hbytes d1) rfl rfl ?_
    refine X0.alen hexec (hV.mv X0.warmed.alike hh0) rfl rfl (hb hbytes d2) ?_
    exact Steps.refl _)
  obtain ⟨v3, T3, X3, E3, g3⟩ := X0.callS hexec (JO.Str_checkIndex.law l (Int32.ofNat i) (Int32.ofNat V.slots.size) fm) hown (wks W (staticW "java/lang/StringLatin1" 9 JO.Str_checkIndex.yN)) (wk W JO.Str_checkIndex.tab) (W := 0) (Nat.le_of_ble_eq_true rfl) (Nat.le_of_ble_eq_true rfl) (Nat.le_refl _) (Nat.le_refl _) (g := (mkF m 3 #[.val (.ref t), .val (.int (Int32.ofNat i))] [.int (Int32.ofNat V.slots.size), .int (Int32.ofNat i)])) rfl (by rw [hml]; rfl) c2 (argsL := [.int (Int32.ofNat i), .int (Int32.ofNat V.slots.size)]) (rest := []) rfl rfl (by show 2 * 0 + 0 ≤ _; decide) (hb hbytes d3) (⟨rfl, rf, s1.there X0.warmed.alike hh0, Int32.ofNat_not_neg (by omega), lt32 v31 hi⟩)
  obtain ⟨rfl, q3⟩ := E3
  have hh3 := q3.trans hh0
  have c4 : Steps p.tables e below (s₁.setTop (entryFrame m #[.ref t, .int (Int32.ofNat i)] 2)) (T3.setTop (mkF m 14 #[.val (.ref t), .val (.int (Int32.ofNat i))] [.int (chr8 u)])) := Steps.trans g3 (by
    refine XS.aloadN X3.here hexec rfl (hb hbytes d6) rfl rfl ?_
    refine XS.iloadN X3.here hexec rfl (hb hbytes d7) rfl ?_
    refine X3.aget hexec (hV.mv X3.warmed.alike hh3) rfl hu rfl rfl (hb hbytes d8) ?_
    refine sipushV X3.here hexec rfl 255 (hb hbytes d9) (by decide) ?_
    refine XS.iand X3.here hexec rfl (hb hbytes d12) rfl ?_
    refine i2c X3.here hexec rfl (hb hbytes d13) rfl ?_
    exact Steps.refl _)
  exact ⟨T3, some (.int (chr8 u)), _, _, _, X3, rfl, rfl, rfl, (fun h => by cases h), ⟨rfl, hh3⟩, fun fs hl => c4.trans (X3.ireturnOut hexec hret (narrow_c _) (Or.inr (Or.inr (Or.inr (Or.inl rfl)))) (hb hbytes d14) hl)⟩
end LChA
end StrChars
namespace StrChars.Road
open Jvm Sem ClassFile Op Lib Jvm.Stand Jvm.Free Jvm.Free.XT
open Jvm.Lib.Cold (StaticIs)
theorem consq {a : Array Value} {s : State} {c : Jvm.Cond} {L : List Jvm.Cond} (h0 : c.before a s = true) (h : ∀ w ∈ L, w.before a s = true) : ∀ w ∈ c :: L, w.before a s = true := fun w hw => (List.mem_cons.mp hw).elim (fun e => e ▸ h0) (h w)
/-- the words of String.length(), either coding -/
abbrev wordsLen : List Jvm.Cond := [.code Len.yN Len.yB 1 (some .int), .initialized ST, .fieldLink ST 9 ST "value" "[B", .fieldLink ST 38 ST "COMPACT_STRINGS" "Z", .fieldLink ST 15 ST "coder" "B", .code Cdr.yN Cdr.yB 1 (some .byte), .methodLink ST 335 Cdr.yN, .declares Cdr.yN, .selects ST Cdr.yN Cdr.yN, .instanceMethod Cdr.yN]
theorem tabLen_of {a : Array Value} {s : State} (h : ∀ w ∈ wordsLen, w.before a s = true) : Len.tab.before a s = true := by
  have hc : Cdr.tab.before a s = true := unparts (wk h (.code Cdr.yN Cdr.yB 1 (some .byte))) (wks h (.initialized Cdr.yN.cls :: Cdr.site))
  have q := consq hc h
  exact unparts (wk q (.code Len.yN Len.yB 1 (some .int))) (wks q (.initialized Len.yN.cls :: Len.site))
theorem movedLen {Z s : State} {a0 args : Array Value} (hZ : Z.Warmed39 s.vm) (hw : ∀ d ∈ wordsLen, d.before a0 Z = true) : ∀ d ∈ wordsLen, d.before args s = true := fun d hd => by
  have q := hw d hd
  have t : ∀ d ∈ wordsLen, d = .arrayClass .byte ∨ (d.onTables && d.keepsFace) = true := by decide +kernel
  rcases t d hd with rfl | t
  · exact RoadKit.mvA hZ q
  · exact RoadKit.mv hZ q t
/-- the bytes of the chars cs, low before high -/
def wideBytes : List Int32 → List Value
  | [] => []
  | c :: cs => .int (lo8 c) :: .int (hi8 c) :: wideBytes cs
theorem wide_lo (d : Value) : ∀ (cs : List Int32) (j : Nat), j < cs.length → (wideBytes cs).getD (2 * j) d = .int (lo8 (cs.getD j 0))
  | [], j, h => absurd h (Nat.not_lt_zero j)
  | c :: cs, 0, _ => rfl
  | c :: cs, j + 1, h => by
    have q := wide_lo d cs j (by simpa using h)
    rw [show 2 * (j + 1) = 2 * j + 1 + 1 from by omega]
    simpa [wideBytes] using q
theorem wide_hi (d : Value) : ∀ (cs : List Int32) (j : Nat), j < cs.length → (wideBytes cs).getD (2 * j + 1) d = .int (hi8 (cs.getD j 0))
  | [], j, h => absurd h (Nat.not_lt_zero j)
  | c :: cs, 0, _ => rfl
  | c :: cs, j + 1, h => by
    have q := wide_hi d cs j (by simpa using h)
    rw [show 2 * (j + 1) + 1 = 2 * j + 1 + 1 + 1 from by omega]
    simpa [wideBytes] using q
theorem low_at (d : Value) (cs : List Int32) (j : Nat) (h : j < cs.length) : (cs.map fun c => Value.int (lo8 c)).getD j d = .int (lo8 (cs.getD j 0)) := by
  simp [List.getD_eq_getElem?_getD, h]
/-- an array of N2 bytes vs codes the chars cs by the coder cd -/
def CodA (cs : List Int32) (cd N2 : Int32) (vs : List Value) : Prop := (cd = 0 ∧ N2 = Int32.ofNat cs.length ∧ vs = (cs.map fun c => Value.int (lo8 c)) ∧ ∀ c ∈ cs, ¬ 255 < c) ∨ (cd = 1 ∧ N2 = Int32.ofNat (2 * cs.length) ∧ vs = wideBytes cs ∧ ∃ c ∈ cs, 255 < c)
theorem CodA.cod {cs : List Int32} {cd N2 : Int32} {vs : List Value} {V : Cell} (h : CodA cs cd N2 vs) (hn : 2 * cs.length < 2 ^ 31) (hs : V.slots.size = N2.toNatClampNeg) (hv : RoadKit.Has V vs (.int 0)) : Cod cd cs.length (fun j => cs.getD j 0) V := by
  rcases h with ⟨rfl, rfl, rfl, h⟩ | ⟨rfl, rfl, rfl, c, hc, hw⟩
  · rw [n32 (by omega)] at hs
    exact Or.inl ⟨rfl, hs, fun j hj => ⟨by rw [hv j (by omega), low_at _ _ _ hj], by
      have e : cs.getD j 0 = cs[j] := by simp [List.getD_eq_getElem?_getD, hj]
      show ¬ 255 < cs.getD j 0
      rw [e]; exact h _ (List.getElem_mem _)⟩⟩
  · rw [n32 (by omega)] at hs
    obtain ⟨j, hj, rfl⟩ := List.getElem_of_mem hc
    exact Or.inr ⟨rfl, hs, fun j hj => ⟨by rw [hv _ (by omega), wide_lo _ _ _ hj], by rw [hv _ (by omega), wide_hi _ _ _ hj]⟩, j, hj, by
      have e : cs.getD j 0 = cs[j] := by simp [List.getD_eq_getElem?_getD, hj]
      show 255 < cs.getD j 0
      rw [e]; exact hw⟩
/-- an object of exactly java/lang/String, its two fields found: as the laws ask it -/
theorem strObj {Z U : State} {a0 : Array Value} {kI : Nat} (wi : (Jvm.Cond.instantiable ST kI).before a0 Z = true) (al : Z.vm.Alike U.vm) {x : Addr} {v0 c0 : Value} (E : RoadKit.Exa Z U.heap x ST) (V : RoadKit.Fld Z U.heap x ST "value" "[B" v0) (C : RoadKit.Fld Z U.heap x ST "coder" "B" c0) :
    ∃ (D : Cell) (fV fC : Field), Blank ST x D U ∧ Found ST "value" "[B" fV U ∧ Found ST "coder" "B" fC U ∧ D.slots[fV.slot]? = some v0 ∧ D.slots[fC.slot]? = some c0 ∧ RoadKit.slotOf Z ST "value" "[B" = fV.slot ∧ RoadKit.slotOf Z ST "coder" "B" = fC.slot := by
  obtain ⟨D, cfV, kV, iV, fV, hD, gV, stV, knV, obV, asV, slV⟩ := V
  obtain ⟨D', cfC, kC, iC, fC, hD', gC, stC, -, -, asC, slC⟩ := C
  cases hD.symm.trans hD'
  obtain ⟨D2, kD, e1, e2, e3, e4, e5⟩ := E
  cases hD.symm.trans e1
  obtain ⟨c2, k2, i1, i2, i3, -⟩ := Cond.instantiable_spec wi
  cases e2.symm.trans i1
  cases e3.symm.trans i2
  obtain ⟨kU, u1, u2⟩ := al.2.2 _ _ e3
  exact ⟨D, fV, fC, ⟨hD, ⟨knV, fun q hq => by rw [hq] at obV; cases obV⟩, by rw [al.findClass]; exact e2, kU, u1, by rw [u2]; exact i3, by rw [u2]; exact e5 i3⟩, ⟨SBG.found_only al ⟨cfV, kV, iV, gV⟩, stV⟩, ⟨SBG.found_only al ⟨cfC, kC, iC, gC⟩, stC⟩, slV, slC, by simp [RoadKit.slotOf, gV], by simp [RoadKit.slotOf, gC]⟩
theorem sta_is {Z U : State} (al : Z.vm.Alike U.vm) {C n d : String} {v : Value} (S : RoadKit.Sta Z U.heap C n d v) : StaticIs U C n d v := by
  obtain ⟨cfS, iS, kS, fS, st, cS, t1, t2, t3, t4, t5, t6, t7⟩ := S
  exact StaticIs.there (s := { Z with heap := U.heap }) ⟨cfS, iS, kS, fS, st, cS, t1, t2, t3, t4, t5, (fun q => by rw [q] at t6; cases t6), t7⟩ al rfl
/-- **length() OF SUCH A STRING** -/
theorem lenW {p : Program} {l : Launch} {e : Env} {R : Room} {s : State} {args : Array Value} {below : List Frame} {len W : Nat} {Z : State} {a0 : Array Value} {h : Heap} (hZ : Z.Warmed39 s.vm) (hw : ∀ d ∈ wordsLen, d.before a0 Z = true) {kI : Nat} (wi : (Jvm.Cond.instantiable ST kI).before a0 Z = true)
    {x t : Addr} {kb : ClassId} {cs : List Int32} {cd N2 z : Int32} {vs : List Value} (E : RoadKit.Exa Z h x ST) (V : RoadKit.Fld Z h x ST "value" "[B" (.ref t)) (C : RoadKit.Fld Z h x ST "coder" "B" (.int cd)) (K : RoadKit.Arv Z h t kb .byte N2 vs (.int 0)) (hc : CodA cs cd N2 vs) (hb : ∀ c ∈ cs, ¬ c < 0 ∧ ¬ (65535 : Int32) < c)
    (S : RoadKit.Sta Z h ST "COMPACT_STRINGS" "Z" (.int z)) (hz : ¬ z = 0) (l2 : cs.length ≤ 4000) (hfr : 2 ≤ R.frames) (hlo : W + 25 ≤ R.locals) :
    Back l R p e below s args (⟨"java/lang/String", "length", "()I"⟩ : MethodName) len W (fun P a => a = #[.ref x] ∧ P.U.heap = h ∧ P.cells + 0 ≤ R.cells ∧ P.slots + 0 ≤ R.slots)
      (fun P _ v B => ∃ L, (v = some (.int (Int32.ofNat cs.length)) ∧ L = [] ∧ B.U.heap = h) ∧ B.locs = P.locs ++ L ∧ B.cells = P.cells + 0 ∧ B.slots = P.slots + 0) := by
  obtain ⟨A, K1, K2, K3, K4, K5, K6⟩ := K
  have hcod := hc.cod (by omega) K3 K5
  intro m meth c P g ig mk a X hg hsize hdg hW hn hp'
  obtain ⟨rfl, rfl, r1, r2⟩ := hp'
  have al : Z.vm.Alike P.U.vm := hZ.alike.trans X.warmed.alike
  obtain ⟨D, fV, fC, hB, F1, F2, g1, g2, -, -⟩ := strObj wi al E V C
  have hx : Txt x t A cd cs.length (fun j => cs.getD j 0) P.U := ⟨⟨_, hB.2.2.1, D, hB.1, rfl, by cases q : D.vm <;> first | rfl | exact absurd q (hB.2.1.2 _)⟩, Has.of hB F1 g1, Has.of hB F2 g2, ⟨K1.1, State.isArrayOf_alike al K1.2.1, K1.2.2, by rcases hcod with ⟨-, q, -⟩ | ⟨-, q, -⟩ <;> omega⟩, hcod, fun j hj => by
    have e : cs.getD j 0 = cs[j] := by simp [List.getD_eq_getElem?_getD, hj]
    show ¬ cs.getD j 0 < 0 ∧ ¬ 65535 < cs.getD j 0
    rw [e]; exact hb _ (List.getElem_mem _)⟩
  obtain ⟨v, B, X', ⟨⟨hv, hh⟩, hl, hk, hs⟩, st⟩ := Len.pays x t A cd cs.length (fun j => cs.getD j 0) z (tabLen_of (movedLen hZ hw)) hfr hlo m meth c P g ig mk _ X hg hsize hdg hW hn ⟨r1, r2, rfl, hx, sta_is al S, hz⟩
  exact ⟨v, B, X', ⟨[], ⟨hv, rfl, hh⟩, hl, hk, hs⟩, st⟩
end StrChars.Road
namespace StrChars.Road
open Jvm Sem ClassFile Op Lib Jvm.Stand Jvm.Free Jvm.Free.XT
open Jvm.Lib.Cold (StaticIs)
/-- the road's facts of a String, as the laws ask it -/
theorem txt_of {Z U : State} {a0 : Array Value} {kI : Nat} (wi : (Jvm.Cond.instantiable ST kI).before a0 Z = true) (al : Z.vm.Alike U.vm) {x t : Addr} {kb : ClassId} {cs : List Int32} {cd N2 : Int32} {vs : List Value} (E : RoadKit.Exa Z U.heap x ST) (V : RoadKit.Fld Z U.heap x ST "value" "[B" (.ref t)) (C : RoadKit.Fld Z U.heap x ST "coder" "B" (.int cd)) (K : RoadKit.Arv Z U.heap t kb .byte N2 vs (.int 0)) (hc : CodA cs cd N2 vs) (hb : ∀ c ∈ cs, ¬ c < 0 ∧ ¬ (65535 : Int32) < c) (l2 : cs.length ≤ 4000) :
    ∃ A, Txt x t A cd cs.length (fun j => cs.getD j 0) U := by
  obtain ⟨A, K1, K2, K3, K4, K5, K6⟩ := K
  have hcod := hc.cod (by omega) K3 K5
  obtain ⟨D, fV, fC, hB, F1, F2, g1, g2, -, -⟩ := strObj wi al E V C
  exact ⟨A, ⟨_, hB.2.2.1, D, hB.1, rfl, by cases q : D.vm <;> first | rfl | exact absurd q (hB.2.1.2 _)⟩, Has.of hB F1 g1, Has.of hB F2 g2, ⟨K1.1, State.isArrayOf_alike al K1.2.1, K1.2.2, by rcases hcod with ⟨-, q, -⟩ | ⟨-, q, -⟩ <;> omega⟩, hcod, fun j hj => by
    have e : cs.getD j 0 = cs[j] := by simp [List.getD_eq_getElem?_getD, hj]
    show ¬ cs.getD j 0 < 0 ∧ ¬ 65535 < cs.getD j 0
    rw [e]; exact hb _ (List.getElem_mem _)⟩
end StrChars.Road
namespace StrChars
open Jvm Sem ClassFile Op Lib Jvm.Stand Jvm.Free.XT Jvm.Free.ALB Jvm.Free.JM Jvm.Free
open Jvm.Lib.Cold (StaticIs)
namespace ChN
def yN : MethodName := ⟨"java/lang/String", "charAt", "(I)C"⟩
abbrev yB : ByteArray := jdk_42_method_56_code
theorem d0 : decode yB 0 = .ok (.aload_n 0, 1) := by decide +kernel
theorem d1 : decode yB 1 = .ok (.invokevirtual 492, 3) := by decide +kernel
theorem d4 : decode yB 4 = .ok (.ifCond (.eq) 12, 3) := by decide +kernel
theorem d7 : decode yB 7 = .ok (.aload_n 0, 1) := by decide +kernel
theorem d8 : decode yB 8 = .ok (.getfield 9, 3) := by decide +kernel
theorem d11 : decode yB 11 = .ok (.iload_n 1, 1) := by decide +kernel
theorem d12 : decode yB 12 = .ok (.invokestatic 495, 3) := by decide +kernel
theorem d15 : decode yB 15 = .ok (.ireturn, 1) := by decide +kernel
def site : List Cond := [.fieldLink "java/lang/String" 9 "java/lang/String" "value" "[B", IsL.tab, LChA.tab] ++ virtW "java/lang/String" 492 "java/lang/String" IsL.yN IsL.yN ++ staticW "java/lang/String" 495 LChA.yN
def tab : Cond := tabOf yN yB 2 (some .char) site
def P (x t : Addr) (V : Cell) (n : Nat) (f : Nat → Int32) (z : Int32) (fm : Value) (i : Nat) (args : Array Value) (s : State) : Prop := args = #[.ref x, .int (Int32.ofNat i)] ∧ Txt x t V 0 n f s ∧ i < n ∧ StaticIs s "java/lang/String" "COMPACT_STRINGS" "Z" (.int z) ∧ ¬ z = 0 ∧ StaticIs s "jdk/internal/util/Preconditions" "SIOOBE_FORMATTER" "Ljava/util/function/BiFunction;" fm ∧ fm.isRef = true
def E (f : Nat → Int32) (i : Nat) (r : Option Value) (s u : State) : Prop := XT.PureE (some (.int (f i))) r s u
/-- charAt(i) of a Latin-1 String of n chars, i < n: f i -/
theorem law (l : Launch) (x t : Addr) (V : Cell) (n : Nat) (f : Nat → Int32) (z : Int32) (fm : Value) (i : Nat) : Law l yN 2 1 3 40 yB 2 (some .char) site (P x t V n f z fm i) (E f i) [] 0 0 := by
  refine Law.of_walk (plainFor_of_name (by decide +kernel)) (by decide +kernel) (by decide +kernel) (by decide) (fun _ _ h => by rw [h.1]; rfl) (fun _ U U' hal hh h => ⟨h.1, h.2.1.mv hal hh, h.2.2.1, h.2.2.2.1.there hal hh, h.2.2.2.2.1, h.2.2.2.2.2.1.there hal hh, h.2.2.2.2.2.2⟩) (fun r U U' V V' h1 hal h2 h => XT.PureE.mv r U U' V V' h1 hal h2 h) ?_
  intro p e s m args below meth c s₁ X0 hexec hbytes hml hret hlk hnm hown hh0 W hP
  obtain ⟨rfl, hx, hi, s1, hz, s3, rf⟩ := hP
  have v31 := hx.2.2.2.1.2.2.2
  have hr := hx.2.2.2.2.2 i hi
  have hx0 := hx.mv X0.warmed.alike hh0
  have c1 : Steps p.tables e below (s₁.setTop (entryFrame m #[.ref x, .int (Int32.ofNat i)] 2)) (s₁.setTop (mkF m 1 #[.val (.ref x), .val (.int (Int32.ofNat i))] [.ref x])) := Steps.trans (entry rfl) (by
    show Steps p.tables e below (s₁.setTop (mkF m 0 #[.val (.ref x), .val (.int (Int32.ofNat i))] [])) _
    refine XS.aloadN X0.here hexec rfl (hb hbytes d0) rfl rfl ?_
    exact Steps.refl _)
  obtain ⟨v2, T2, X2, E2, g2⟩ := X0.callV hexec (IsL.law l x 0 z) hown (wks W (virtW "java/lang/String" 492 "java/lang/String" IsL.yN IsL.yN)) rfl (by decide) (wk W IsL.tab) (W := 0) (Nat.le_of_ble_eq_true rfl) (Nat.le_of_ble_eq_true rfl) (Nat.le_refl _) (Nat.le_refl _) (hx0.1.fc X0.warmed.alike) hx0.1.is (g := (mkF m 1 #[.val (.ref x), .val (.int (Int32.ofNat i))] [.ref x])) rfl (by rw [hml]; rfl) c1 (argsL := []) (rest := []) rfl rfl (by show 2 * 0 + 0 ≤ _; decide) (hb hbytes d1) (⟨rfl, hx0.2.2.1, hx.2.2.2.2.1.cd, s1.there X0.warmed.alike hh0, hz⟩)
  obtain ⟨rfl, q2⟩ := E2
  have hh2 := q2.trans hh0
  have hx2 := hx.mv X2.warmed.alike hh2
  obtain ⟨-, k1, k2⟩ | ⟨k0, -⟩ := hx.2.2.2.2.1
  · have c3 : Steps p.tables e below (s₁.setTop (entryFrame m #[.ref x, .int (Int32.ofNat i)] 2)) (T2.setTop (mkF m 8 #[.val (.ref x), .val (.int (Int32.ofNat i))] [.ref x])) := Steps.trans g2 (by
      refine XS.ifNo X2.here hexec rfl (hb hbytes d4) rfl (i0_eq_f (by decide)) ?_
      refine XS.aloadN X2.here hexec rfl (hb hbytes d7) rfl rfl ?_
      exact Steps.refl _)
    obtain ⟨T4, X4, q4, st4⟩ := X2.hget hexec hown (wk W (.fieldLink "java/lang/String" 9 "java/lang/String" "value" "[B")) hx2.2.1 (g := (mkF m 8 #[.val (.ref x), .val (.int (Int32.ofNat i))] [.ref x])) rfl (rest := []) rfl (hb hbytes d8)
    have hh4 := q4.trans hh2
    have c5 : Steps p.tables e below (s₁.setTop (entryFrame m #[.ref x, .int (Int32.ofNat i)] 2)) (T4.setTop (mkF m 12 #[.val (.ref x), .val (.int (Int32.ofNat i))] [.int (Int32.ofNat i), .ref t])) := (c3.trans (st4 _ (Steps.refl _))).trans (by
      refine XS.iloadN X4.here hexec rfl (hb hbytes d11) rfl ?_
      exact Steps.refl _)
    obtain ⟨v6, T6, X6, E6, g6⟩ := X4.callS hexec (LChA.law l t V i (lo8 (f i)) fm) hown (wks W (staticW "java/lang/String" 495 LChA.yN)) (wk W LChA.tab) (W := 0) (Nat.le_of_ble_eq_true rfl) (Nat.le_of_ble_eq_true rfl) (Nat.le_refl _) (Nat.le_refl _) (g := (mkF m 12 #[.val (.ref x), .val (.int (Int32.ofNat i))] [.int (Int32.ofNat i), .ref t])) rfl (by rw [hml]; rfl) c5 (argsL := [.ref t, .int (Int32.ofNat i)]) (rest := []) rfl rfl (by show 2 * 0 + 0 ≤ _; decide) (hb hbytes d12) (⟨rfl, hx.2.2.2.1.mv X4.warmed.alike hh4, (k2 i hi).1, s3.there X4.warmed.alike hh4, rf⟩)
    obtain ⟨rfl, q6⟩ := E6
    rw [chr8_lo8 hr.1 (k2 i hi).2] at g6
    exact ⟨T6, some (.int (f i)), _, _, _, X6, rfl, rfl, rfl, (fun h => by cases h), ⟨rfl, q6.trans hh4⟩, fun fs hl => Steps.trans g6 (X6.ireturnOut hexec hret (narrow_ch hr.1 hr.2) (Or.inr (Or.inr (Or.inr (Or.inl rfl)))) (hb hbytes d15) hl)⟩
  · exact absurd k0 (by decide)
theorem pays {l : Launch} {R : Room} {p : Program} {e : Env} {below : List Frame} {s : State} {sargs : Array Value} {len W : Nat} (x t : Addr) (V : Cell) (n : Nat) (f : Nat → Int32) (z : Int32) (fm : Value) (i : Nat) (htab : tab.before sargs s = true) (hfr : 4 ≤ R.frames) (hlo : W + 53 ≤ R.locals) :
    Back l R p e below s sargs yN len W (fun A₁ a₁ => A₁.cells + 0 ≤ R.cells ∧ A₁.slots + 0 ≤ R.slots ∧ P x t V n f z fm i a₁ A₁.U) (fun A₁ _ v₁ B₁ => E f i v₁ A₁.U B₁.U ∧ B₁.locs = A₁.locs ++ [] ∧ B₁.cells = A₁.cells + 0 ∧ B₁.slots = A₁.slots + 0) :=
  (law l x t V n f z fm i).pays htab hfr (by omega)
end ChN
end StrChars
namespace StrChars.Road
open Jvm Sem ClassFile Op Lib Jvm.Stand Jvm.Free Jvm.Free.XT
open Jvm.Lib.Cold (StaticIs)
/-- the words of String.charAt(int), the Latin-1 road alone -/
abbrev wordsChN : List Jvm.Cond := [.code ChN.yN ChN.yB 2 (some .char), .initialized ST, .fieldLink ST 9 ST "value" "[B", .fieldLink ST 38 ST "COMPACT_STRINGS" "Z", .fieldLink ST 15 ST "coder" "B", .code IsL.yN IsL.yB 1 (some .boolean), .methodLink ST 492 IsL.yN, .declares IsL.yN, .selects ST IsL.yN IsL.yN, .instanceMethod IsL.yN,
  .methodLink ST 495 LChA.yN, .static LChA.yN, .code LChA.yN LChA.yB 2 (some .char), .initialized "java/lang/StringLatin1", .methodLink "java/lang/StringLatin1" 9 JO.Str_checkIndex.yN, .static JO.Str_checkIndex.yN, .code JO.Str_checkIndex.yN JO.Str_checkIndex.yB 2 none,
  .fieldLink ST 1053 "jdk/internal/util/Preconditions" "SIOOBE_FORMATTER" "Ljava/util/function/BiFunction;", .methodLink ST 1059 JC.PreCheck.yN, .static JC.PreCheck.yN, .code JC.PreCheck.yN JC.PreCheck.yB 3 (some .int), .initialized "jdk/internal/util/Preconditions"]
theorem tabChN_of {a : Array Value} {s : State} (h : ∀ w ∈ wordsChN, w.before a s = true) : ChN.tab.before a s = true := by
  have hp : JC.PreCheck.tab.before a s = true := unparts (wk h (.code JC.PreCheck.yN JC.PreCheck.yB 3 (some .int))) (wks h (.initialized JC.PreCheck.yN.cls :: JC.PreCheck.site))
  have qk := consq hp h
  have hk : JO.Str_checkIndex.tab.before a s = true := unparts (wk qk (.code JO.Str_checkIndex.yN JO.Str_checkIndex.yB 2 none)) (wks qk (.initialized JO.Str_checkIndex.yN.cls :: JO.Str_checkIndex.site))
  have ql := consq hk h
  have hl : LChA.tab.before a s = true := unparts (wk ql (.code LChA.yN LChA.yB 2 (some .char))) (wks ql (.initialized LChA.yN.cls :: LChA.site))
  have hi : IsL.tab.before a s = true := unparts (wk h (.code IsL.yN IsL.yB 1 (some .boolean))) (wks h (.initialized IsL.yN.cls :: IsL.site))
  have q := consq hi (consq hl h)
  exact unparts (wk q (.code ChN.yN ChN.yB 2 (some .char))) (wks q (.initialized ChN.yN.cls :: ChN.site))
theorem movedChN {Z s : State} {a0 args : Array Value} (hZ : Z.Warmed39 s.vm) (hw : ∀ d ∈ wordsChN, d.before a0 Z = true) : ∀ d ∈ wordsChN, d.before args s = true := fun d hd => by
  have t : ∀ d ∈ wordsChN, (d.onTables && d.keepsFace) = true := by decide +kernel
  exact RoadKit.mv hZ (hw d hd) (t d hd)
/-- **charAt(i) OF A LATIN-1 STRING**, i < n: the char -/
theorem chN {p : Program} {l : Launch} {e : Env} {R : Room} {s : State} {args : Array Value} {below : List Frame} {len W : Nat} {Z : State} {a0 : Array Value} {h : Heap} (hZ : Z.Warmed39 s.vm) (hw : ∀ d ∈ wordsChN, d.before a0 Z = true) {kI : Nat} (wi : (Jvm.Cond.instantiable ST kI).before a0 Z = true)
    {x t : Addr} {kb : ClassId} {cs : List Int32} {N2 z : Int32} {vs : List Value} {fm : Value} {i : Nat} {j : Int32} (E : RoadKit.Exa Z h x ST) (V : RoadKit.Fld Z h x ST "value" "[B" (.ref t)) (C : RoadKit.Fld Z h x ST "coder" "B" (.int 0)) (K : RoadKit.Arv Z h t kb .byte N2 vs (.int 0)) (hc : CodA cs 0 N2 vs) (hb : ∀ c ∈ cs, ¬ c < 0 ∧ ¬ (65535 : Int32) < c)
    (S : RoadKit.Sta Z h ST "COMPACT_STRINGS" "Z" (.int z)) (hz : ¬ z = 0) (F : RoadKit.Sta Z h "jdk/internal/util/Preconditions" "SIOOBE_FORMATTER" "Ljava/util/function/BiFunction;" fm) (rf : fm.isRef = true) (l2 : cs.length ≤ 4000) (hi : i < cs.length) (hj : j = Int32.ofNat i) (hfr : 4 ≤ R.frames) (hlo : W + 53 ≤ R.locals) :
    Back l R p e below s args (⟨"java/lang/String", "charAt", "(I)C"⟩ : MethodName) len W (fun P a => a = #[.ref x, .int j] ∧ P.U.heap = h ∧ P.cells + 0 ≤ R.cells ∧ P.slots + 0 ≤ R.slots)
      (fun P _ v B => ∃ L, (v = some (.int (cs.getD i 0)) ∧ L = [] ∧ B.U.heap = h) ∧ B.locs = P.locs ++ L ∧ B.cells = P.cells + 0 ∧ B.slots = P.slots + 0) := by
  subst hj
  intro m meth c P g ig mk a X hg hsize hdg hW hn hp'
  obtain ⟨rfl, rfl, r1, r2⟩ := hp'
  have al : Z.vm.Alike P.U.vm := hZ.alike.trans X.warmed.alike
  obtain ⟨A, hx⟩ := txt_of wi al E V C K hc hb l2
  obtain ⟨v, B, X', ⟨⟨hv, hh⟩, hl, hk, hs⟩, st⟩ := ChN.pays x t A cs.length (fun j => cs.getD j 0) z fm i (tabChN_of (movedChN hZ hw)) hfr hlo m meth c P g ig mk _ X hg hsize hdg hW hn ⟨r1, r2, rfl, hx, hi, sta_is al S, hz, sta_is al F, rf⟩
  exact ⟨v, B, X', ⟨[], ⟨hv, rfl, hh⟩, hl, hk, hs⟩, st⟩
/-- what backV says of its String, as the contracts of this text ask it: cs's low bytes, coder 0 -/
theorem codOf {cs : List Int32} {n : Nat} (hn : cs.length = n) (hb : ∀ c ∈ cs, ¬ 255 < c) : CodA cs 0 (Int32.ofNat n) ((cs.map lo8).map Value.int) := Or.inl ⟨rfl, by rw [hn], by simp [List.map_map, Function.comp_def], hb⟩
end StrChars.Road
end Jvm.Pilot.@@N@@
namespace Jvm.Pilot.@@N@@
open Jvm Jvm.ClassFile Sem Op Lib Jvm.Free Jvm.Stand Jvm.LawKit Jvm.RoadKit Bundle Jvm.Own Jvm.Pilot.@@N@@.Jvm.D
abbrev vI (x : Int32) : Slot := .val (.int x)
abbrev vJ (x : Int64) : Slot := .val (.long x)
abbrev vR (x : Addr) : Slot := .val (.ref x)
abbrev vU : Slot := .unset
abbrev Y_0 : Jvm.MethodName := ({ cls := "java/lang/AbstractStringBuilder", name := "<init>", desc := "(I)V" } : Jvm.MethodName)
abbrev Y_1 : Jvm.MethodName := ({ cls := "java/lang/String", name := "coder", desc := "()B" } : Jvm.MethodName)
abbrev Y_2 : Jvm.MethodName := ({ cls := "java/lang/AbstractStringBuilder", name := "inflateIfNeededFor", desc := "(Ljava/lang/String;)V" } : Jvm.MethodName)
abbrev Y_3 : Jvm.MethodName := ({ cls := "java/lang/String", name := "getBytes", desc := "([BIB)V" } : Jvm.MethodName)
abbrev Y_4 : Jvm.MethodName := ({ cls := "java/lang/Math", name := "max", desc := "(II)I" } : Jvm.MethodName)
abbrev Y_5 : Jvm.MethodName := ({ cls := "jdk/internal/util/ArraysSupport", name := "newLength", desc := "(III)I" } : Jvm.MethodName)
abbrev Y_6 : Jvm.MethodName := ({ cls := "java/lang/Math", name := "min", desc := "(II)I" } : Jvm.MethodName)
abbrev Y_7 : Jvm.MethodName := ({ cls := "java/lang/AbstractStringBuilder", name := "newCapacity", desc := "(I)I" } : Jvm.MethodName)
abbrev Y_8 : Jvm.MethodName := ({ cls := "java/util/Arrays", name := "copyOf", desc := "([BI)[B" } : Jvm.MethodName)
abbrev Y_9 : Jvm.MethodName := ({ cls := "java/lang/String", name := "length", desc := "()I" } : Jvm.MethodName)
abbrev Y_10 : Jvm.MethodName := ({ cls := "java/lang/AbstractStringBuilder", name := "ensureCapacityInternal", desc := "(I)V" } : Jvm.MethodName)
abbrev Y_11 : Jvm.MethodName := ({ cls := "java/lang/AbstractStringBuilder", name := "putStringAt", desc := "(ILjava/lang/String;)V" } : Jvm.MethodName)
abbrev Y_12 : Jvm.MethodName := ({ cls := "java/lang/AbstractStringBuilder", name := "append", desc := "(Ljava/lang/String;)Ljava/lang/AbstractStringBuilder;" } : Jvm.MethodName)
abbrev Y_13 : Jvm.MethodName := ({ cls := "java/util/Arrays", name := "checkLength", desc := "(II)V" } : Jvm.MethodName)
abbrev Y_14 : Jvm.MethodName := ({ cls := "java/util/Arrays", name := "copyOfRangeByte", desc := "([BII)[B" } : Jvm.MethodName)
abbrev Y_15 : Jvm.MethodName := ({ cls := "java/lang/AbstractStringBuilder", name := "length", desc := "()I" } : Jvm.MethodName)
abbrev Y_16 : Jvm.MethodName := ({ cls := "java/lang/AbstractStringBuilder", name := "getValue", desc := "()[B" } : Jvm.MethodName)
abbrev Y_17 : Jvm.MethodName := ({ cls := "java/lang/StringBuilder", name := "length", desc := "()I" } : Jvm.MethodName)
abbrev Y_18 : Jvm.MethodName := ({ cls := "java/lang/AbstractStringBuilder", name := "isLatin1", desc := "()Z" } : Jvm.MethodName)
abbrev Y_19 : Jvm.MethodName := ({ cls := "java/util/Arrays", name := "copyOfRange", desc := "([BII)[B" } : Jvm.MethodName)
abbrev Y_20 : Jvm.MethodName := ({ cls := "java/lang/String", name := "<init>", desc := "(Ljava/lang/AbstractStringBuilder;Ljava/lang/Void;)V" } : Jvm.MethodName)
abbrev Y_21 : Jvm.MethodName := ({ cls := "java/lang/String", name := "<init>", desc := "(Ljava/lang/StringBuilder;)V" } : Jvm.MethodName)
abbrev Y_22 : Jvm.MethodName := ({ cls := "jdk/internal/util/Preconditions", name := "checkFromToIndex", desc := "(IIILjava/util/function/BiFunction;)I" } : Jvm.MethodName)
abbrev Y_23 : Jvm.MethodName := ({ cls := "java/lang/String", name := "<init>", desc := "([BB)V" } : Jvm.MethodName)
abbrev Y_24 : Jvm.MethodName := ({ cls := "java/lang/String", name := "checkBoundsBeginEnd", desc := "(III)V" } : Jvm.MethodName)
abbrev Y_25 : Jvm.MethodName := ({ cls := "java/lang/String", name := "isLatin1", desc := "()Z" } : Jvm.MethodName)
abbrev Y_26 : Jvm.MethodName := ({ cls := "java/lang/StringLatin1", name := "newString", desc := "([BII)Ljava/lang/String;" } : Jvm.MethodName)
abbrev Y_27 : Jvm.MethodName := ({ cls := "java/lang/String", name := "substring", desc := "(II)Ljava/lang/String;" } : Jvm.MethodName)
abbrev Y_28 : Jvm.MethodName := ({ cls := "java/lang/StringBuilder", name := "<init>", desc := "()V" } : Jvm.MethodName)
abbrev Y_29 : Jvm.MethodName := ({ cls := "java/lang/StringBuilder", name := "append", desc := "(Ljava/lang/String;)Ljava/lang/StringBuilder;" } : Jvm.MethodName)
abbrev Y_30 : Jvm.MethodName := ({ cls := "java/lang/String", name := "substring", desc := "(I)Ljava/lang/String;" } : Jvm.MethodName)
abbrev Y_31 : Jvm.MethodName := ({ cls := "java/lang/StringBuilder", name := "toString", desc := "()Ljava/lang/String;" } : Jvm.MethodName)
abbrev Y_32 : Jvm.MethodName := ({ cls := "java/lang/String", name := "<init>", desc := "([CIILjava/lang/Void;)V" } : Jvm.MethodName)
abbrev Y_33 : Jvm.MethodName := ({ cls := "java/lang/String", name := "<init>", desc := "([C)V" } : Jvm.MethodName)
abbrev Y_34 : Jvm.MethodName := ({ cls := "java/lang/String", name := "charAt", desc := "(I)C" } : Jvm.MethodName)
abbrev Y_35 : Jvm.MethodName := ({ cls := "com/example/lakehouse_catalog/lakehousecatalog/iceberg/IcebergRoutesEndpointPinLaw", name := "mk", desc := "(ICCC)Ljava/lang/String;" } : Jvm.MethodName)
abbrev Y_36 : Jvm.MethodName := ({ cls := "com/example/lakehouse_catalog/lakehousecatalog/iceberg/IcebergRoutesEndpointPinLaw", name := "pat", desc := "(ICCC)Ljava/lang/String;" } : Jvm.MethodName)
abbrev Y_37 : Jvm.MethodName := ({ cls := "com/example/lakehouse_catalog/lakehousecatalog/iceberg/IcebergRoutes", name := "endpoint", desc := "(Ljava/lang/String;Ljava/lang/String;)Ljava/lang/String;" } : Jvm.MethodName)
theorem wd_0 {a0 : Array Value} {Z : State} (hw : ∀ d ∈ tables_1, d.before a0 Z = true) : (Jvm.Cond.methodLink "com/example/lakehouse_catalog/lakehousecatalog/iceberg/IcebergRoutesEndpointPinLaw" (12 : Nat) ({ cls := "com/example/lakehouse_catalog/lakehousecatalog/iceberg/IcebergRoutesEndpointPinLaw", name := "mk", desc := "(ICCC)Ljava/lang/String;" } : Jvm.MethodName)).before a0 Z = true := hw _ (List.mem_of_getElem? (i := 0) rfl)
theorem wd_1 {a0 : Array Value} {Z : State} (hw : ∀ d ∈ tables_1, d.before a0 Z = true) : (Jvm.Cond.static ({ cls := "com/example/lakehouse_catalog/lakehousecatalog/iceberg/IcebergRoutesEndpointPinLaw", name := "mk", desc := "(ICCC)Ljava/lang/String;" } : Jvm.MethodName)).before a0 Z = true := hw _ (List.mem_of_getElem? (i := 1) rfl)
theorem wd_2 {a0 : Array Value} {Z : State} (hw : ∀ d ∈ tables_1, d.before a0 Z = true) : (Jvm.Cond.initialized "com/example/lakehouse_catalog/lakehousecatalog/iceberg/IcebergRoutesEndpointPinLaw").before a0 Z = true := hw _ (List.mem_of_getElem? (i := 2) rfl)
theorem wd_3 {a0 : Array Value} {Z : State} (hw : ∀ d ∈ tables_1, d.before a0 Z = true) : (Jvm.Cond.code ({ cls := "com/example/lakehouse_catalog/lakehousecatalog/iceberg/IcebergRoutesEndpointPinLaw", name := "mk", desc := "(ICCC)Ljava/lang/String;" } : Jvm.MethodName) method_2_code (4 : Nat) (Option.some (Jvm.ClassFile.FieldType.object "java/lang/String"))).before a0 Z = true := hw _ (List.mem_of_getElem? (i := 3) rfl)
theorem wd_4 {a0 : Array Value} {Z : State} (hw : ∀ d ∈ tables_1, d.before a0 Z = true) : (Jvm.Cond.classLink "com/example/lakehouse_catalog/lakehousecatalog/iceberg/IcebergRoutesEndpointPinLaw" (7 : Nat) "java/lang/String").before a0 Z = true := hw _ (List.mem_of_getElem? (i := 4) rfl)
theorem wd_5 {a0 : Array Value} {Z : State} (hw : ∀ d ∈ tables_1, d.before a0 Z = true) : (Jvm.Cond.instantiable "java/lang/String" (4 : Nat)).before a0 Z = true := hw _ (List.mem_of_getElem? (i := 5) rfl)
theorem wd_6 {a0 : Array Value} {Z : State} (hw : ∀ d ∈ tables_1, d.before a0 Z = true) : (Jvm.Cond.initialized "java/lang/String").before a0 Z = true := hw _ (List.mem_of_getElem? (i := 6) rfl)
theorem wd_7 {a0 : Array Value} {Z : State} (hw : ∀ d ∈ tables_1, d.before a0 Z = true) : (Jvm.Cond.arrayClass Jvm.ClassFile.FieldType.char).before a0 Z = true := hw _ (List.mem_of_getElem? (i := 7) rfl)
theorem wd_8 {a0 : Array Value} {Z : State} (hw : ∀ d ∈ tables_1, d.before a0 Z = true) : (Jvm.Cond.methodLink "com/example/lakehouse_catalog/lakehousecatalog/iceberg/IcebergRoutesEndpointPinLaw" (9 : Nat) ({ cls := "java/lang/String", name := "<init>", desc := "([C)V" } : Jvm.MethodName)).before a0 Z = true := hw _ (List.mem_of_getElem? (i := 8) rfl)
theorem wd_9 {a0 : Array Value} {Z : State} (hw : ∀ d ∈ tables_1, d.before a0 Z = true) : (Jvm.Cond.instanceMethod ({ cls := "java/lang/String", name := "<init>", desc := "([C)V" } : Jvm.MethodName)).before a0 Z = true := hw _ (List.mem_of_getElem? (i := 9) rfl)
theorem wd_10 {a0 : Array Value} {Z : State} (hw : ∀ d ∈ tables_1, d.before a0 Z = true) : (Jvm.Cond.code ({ cls := "java/lang/String", name := "<init>", desc := "([C)V" } : Jvm.MethodName) jdk_42_method_3_code (2 : Nat) (Option.none : Option Jvm.ClassFile.FieldType)).before a0 Z = true := hw _ (List.mem_of_getElem? (i := 10) rfl)
theorem wd_11 {a0 : Array Value} {Z : State} (hw : ∀ d ∈ tables_1, d.before a0 Z = true) : (Jvm.Cond.methodLink "java/lang/String" (27 : Nat) ({ cls := "java/lang/String", name := "<init>", desc := "([CIILjava/lang/Void;)V" } : Jvm.MethodName)).before a0 Z = true := hw _ (List.mem_of_getElem? (i := 11) rfl)
theorem wd_12 {a0 : Array Value} {Z : State} (hw : ∀ d ∈ tables_1, d.before a0 Z = true) : (Jvm.Cond.instanceMethod ({ cls := "java/lang/String", name := "<init>", desc := "([CIILjava/lang/Void;)V" } : Jvm.MethodName)).before a0 Z = true := hw _ (List.mem_of_getElem? (i := 12) rfl)
theorem wd_14 {a0 : Array Value} {Z : State} (hw : ∀ d ∈ tables_1, d.before a0 Z = true) : (Jvm.Cond.code ({ cls := "java/lang/String", name := "<init>", desc := "([CIILjava/lang/Void;)V" } : Jvm.MethodName) jdk_42_method_149_code (6 : Nat) (Option.none : Option Jvm.ClassFile.FieldType)).before a0 Z = true := hw _ (List.mem_of_getElem? (i := 14) rfl)
theorem wd_15 {a0 : Array Value} {Z : State} (hw : ∀ d ∈ tables_1, d.before a0 Z = true) : (Jvm.Cond.methodLink "java/lang/String" (1 : Nat) ({ cls := "java/lang/Object", name := "<init>", desc := "()V" } : Jvm.MethodName)).before a0 Z = true := hw _ (List.mem_of_getElem? (i := 15) rfl)
theorem wd_16 {a0 : Array Value} {Z : State} (hw : ∀ d ∈ tables_1, d.before a0 Z = true) : (Jvm.Cond.instanceMethod ({ cls := "java/lang/Object", name := "<init>", desc := "()V" } : Jvm.MethodName)).before a0 Z = true := hw _ (List.mem_of_getElem? (i := 16) rfl)
theorem wd_17 {a0 : Array Value} {Z : State} (hw : ∀ d ∈ tables_1, d.before a0 Z = true) : (Jvm.Cond.code ({ cls := "java/lang/Object", name := "<init>", desc := "()V" } : Jvm.MethodName) object_method_1_code (1 : Nat) (Option.none : Option Jvm.ClassFile.FieldType)).before a0 Z = true := hw _ (List.mem_of_getElem? (i := 17) rfl)
theorem wd_18 {a0 : Array Value} {Z : State} (hw : ∀ d ∈ tables_1, d.before a0 Z = true) : (Jvm.Cond.stringLink "java/lang/String" (7 : Nat) "").before a0 Z = true := hw _ (List.mem_of_getElem? (i := 18) rfl)
theorem wd_19 {a0 : Array Value} {Z : State} (hw : ∀ d ∈ tables_1, d.before a0 Z = true) : (Jvm.Cond.arrayClass Jvm.ClassFile.FieldType.byte).before a0 Z = true := hw _ (List.mem_of_getElem? (i := 19) rfl)
theorem wd_20 {a0 : Array Value} {Z : State} (hw : ∀ d ∈ tables_1, d.before a0 Z = true) : (Jvm.Cond.laysFinal "java/lang/String" "java/lang/String" "value" "[B").before a0 Z = true := hw _ (List.mem_of_getElem? (i := 20) rfl)
theorem wd_21 {a0 : Array Value} {Z : State} (hw : ∀ d ∈ tables_1, d.before a0 Z = true) : (Jvm.Cond.laysFinal "java/lang/String" "java/lang/String" "coder" "B").before a0 Z = true := hw _ (List.mem_of_getElem? (i := 21) rfl)
theorem wd_24 {a0 : Array Value} {Z : State} (hw : ∀ d ∈ tables_1, d.before a0 Z = true) : (Jvm.Cond.fieldLink "java/lang/String" (9 : Nat) "java/lang/String" "value" "[B").before a0 Z = true := hw _ (List.mem_of_getElem? (i := 24) rfl)
theorem wd_25 {a0 : Array Value} {Z : State} (hw : ∀ d ∈ tables_1, d.before a0 Z = true) : (Jvm.Cond.fieldLink "java/lang/String" (15 : Nat) "java/lang/String" "coder" "B").before a0 Z = true := hw _ (List.mem_of_getElem? (i := 25) rfl)
theorem wd_26 {a0 : Array Value} {Z : State} (hw : ∀ d ∈ tables_1, d.before a0 Z = true) : (Jvm.Cond.methodLink "com/example/lakehouse_catalog/lakehousecatalog/iceberg/IcebergRoutesEndpointPinLaw" (18 : Nat) ({ cls := "com/example/lakehouse_catalog/lakehousecatalog/iceberg/IcebergRoutesEndpointPinLaw", name := "pat", desc := "(ICCC)Ljava/lang/String;" } : Jvm.MethodName)).before a0 Z = true := hw _ (List.mem_of_getElem? (i := 26) rfl)
theorem wd_27 {a0 : Array Value} {Z : State} (hw : ∀ d ∈ tables_1, d.before a0 Z = true) : (Jvm.Cond.static ({ cls := "com/example/lakehouse_catalog/lakehousecatalog/iceberg/IcebergRoutesEndpointPinLaw", name := "pat", desc := "(ICCC)Ljava/lang/String;" } : Jvm.MethodName)).before a0 Z = true := hw _ (List.mem_of_getElem? (i := 27) rfl)
theorem wd_28 {a0 : Array Value} {Z : State} (hw : ∀ d ∈ tables_1, d.before a0 Z = true) : (Jvm.Cond.code ({ cls := "com/example/lakehouse_catalog/lakehousecatalog/iceberg/IcebergRoutesEndpointPinLaw", name := "pat", desc := "(ICCC)Ljava/lang/String;" } : Jvm.MethodName) method_3_code (4 : Nat) (Option.some (Jvm.ClassFile.FieldType.object "java/lang/String"))).before a0 Z = true := hw _ (List.mem_of_getElem? (i := 28) rfl)
theorem wd_29 {a0 : Array Value} {Z : State} (hw : ∀ d ∈ tables_1, d.before a0 Z = true) : (Jvm.Cond.fieldLink "java/lang/String" (38 : Nat) "java/lang/String" "COMPACT_STRINGS" "Z").before a0 Z = true := hw _ (List.mem_of_getElem? (i := 29) rfl)
theorem wd_40 {a0 : Array Value} {Z : State} (hw : ∀ d ∈ tables_1, d.before a0 Z = true) : (Jvm.Cond.methodLink "com/example/lakehouse_catalog/lakehousecatalog/iceberg/IcebergRoutesEndpointPinLaw" (21 : Nat) ({ cls := "com/example/lakehouse_catalog/lakehousecatalog/iceberg/IcebergRoutes", name := "endpoint", desc := "(Ljava/lang/String;Ljava/lang/String;)Ljava/lang/String;" } : Jvm.MethodName)).before a0 Z = true := hw _ (List.mem_of_getElem? (i := 40) rfl)
theorem wd_41 {a0 : Array Value} {Z : State} (hw : ∀ d ∈ tables_1, d.before a0 Z = true) : (Jvm.Cond.static ({ cls := "com/example/lakehouse_catalog/lakehousecatalog/iceberg/IcebergRoutes", name := "endpoint", desc := "(Ljava/lang/String;Ljava/lang/String;)Ljava/lang/String;" } : Jvm.MethodName)).before a0 Z = true := hw _ (List.mem_of_getElem? (i := 41) rfl)
theorem wd_42 {a0 : Array Value} {Z : State} (hw : ∀ d ∈ tables_1, d.before a0 Z = true) : (Jvm.Cond.initialized "com/example/lakehouse_catalog/lakehousecatalog/iceberg/IcebergRoutes").before a0 Z = true := hw _ (List.mem_of_getElem? (i := 42) rfl)
theorem wd_43 {a0 : Array Value} {Z : State} (hw : ∀ d ∈ tables_1, d.before a0 Z = true) : (Jvm.Cond.code ({ cls := "com/example/lakehouse_catalog/lakehousecatalog/iceberg/IcebergRoutes", name := "endpoint", desc := "(Ljava/lang/String;Ljava/lang/String;)Ljava/lang/String;" } : Jvm.MethodName) prog_17_method_3_code (2 : Nat) (Option.some (Jvm.ClassFile.FieldType.object "java/lang/String"))).before a0 Z = true := hw _ (List.mem_of_getElem? (i := 43) rfl)
theorem wd_44 {a0 : Array Value} {Z : State} (hw : ∀ d ∈ tables_1, d.before a0 Z = true) : (Jvm.Cond.classLink "com/example/lakehouse_catalog/lakehousecatalog/iceberg/IcebergRoutes" (23 : Nat) "java/lang/StringBuilder").before a0 Z = true := hw _ (List.mem_of_getElem? (i := 44) rfl)
theorem wd_45 {a0 : Array Value} {Z : State} (hw : ∀ d ∈ tables_1, d.before a0 Z = true) : (Jvm.Cond.instantiable "java/lang/StringBuilder" (4 : Nat)).before a0 Z = true := hw _ (List.mem_of_getElem? (i := 45) rfl)
theorem wd_46 {a0 : Array Value} {Z : State} (hw : ∀ d ∈ tables_1, d.before a0 Z = true) : (Jvm.Cond.initialized "java/lang/StringBuilder").before a0 Z = true := hw _ (List.mem_of_getElem? (i := 46) rfl)
theorem wd_47 {a0 : Array Value} {Z : State} (hw : ∀ d ∈ tables_1, d.before a0 Z = true) : (Jvm.Cond.methodLink "com/example/lakehouse_catalog/lakehousecatalog/iceberg/IcebergRoutes" (25 : Nat) ({ cls := "java/lang/StringBuilder", name := "<init>", desc := "()V" } : Jvm.MethodName)).before a0 Z = true := hw _ (List.mem_of_getElem? (i := 47) rfl)
theorem wd_48 {a0 : Array Value} {Z : State} (hw : ∀ d ∈ tables_1, d.before a0 Z = true) : (Jvm.Cond.instanceMethod ({ cls := "java/lang/StringBuilder", name := "<init>", desc := "()V" } : Jvm.MethodName)).before a0 Z = true := hw _ (List.mem_of_getElem? (i := 48) rfl)
theorem wd_49 {a0 : Array Value} {Z : State} (hw : ∀ d ∈ tables_1, d.before a0 Z = true) : (Jvm.Cond.code ({ cls := "java/lang/StringBuilder", name := "<init>", desc := "()V" } : Jvm.MethodName) jdk_67_method_1_code (1 : Nat) (Option.none : Option Jvm.ClassFile.FieldType)).before a0 Z = true := hw _ (List.mem_of_getElem? (i := 49) rfl)
theorem wd_50 {a0 : Array Value} {Z : State} (hw : ∀ d ∈ tables_1, d.before a0 Z = true) : (Jvm.Cond.methodLink "java/lang/StringBuilder" (1 : Nat) ({ cls := "java/lang/AbstractStringBuilder", name := "<init>", desc := "(I)V" } : Jvm.MethodName)).before a0 Z = true := hw _ (List.mem_of_getElem? (i := 50) rfl)
theorem wd_51 {a0 : Array Value} {Z : State} (hw : ∀ d ∈ tables_1, d.before a0 Z = true) : (Jvm.Cond.instanceMethod ({ cls := "java/lang/AbstractStringBuilder", name := "<init>", desc := "(I)V" } : Jvm.MethodName)).before a0 Z = true := hw _ (List.mem_of_getElem? (i := 51) rfl)
theorem wd_54 {a0 : Array Value} {Z : State} (hw : ∀ d ∈ tables_1, d.before a0 Z = true) : (Jvm.Cond.initialized "java/lang/AbstractStringBuilder").before a0 Z = true := hw _ (List.mem_of_getElem? (i := 54) rfl)
theorem wd_55 {a0 : Array Value} {Z : State} (hw : ∀ d ∈ tables_1, d.before a0 Z = true) : (Jvm.Cond.code ({ cls := "java/lang/AbstractStringBuilder", name := "<init>", desc := "(I)V" } : Jvm.MethodName) jdk_68_method_2_code (2 : Nat) (Option.none : Option Jvm.ClassFile.FieldType)).before a0 Z = true := hw _ (List.mem_of_getElem? (i := 55) rfl)
theorem wd_56 {a0 : Array Value} {Z : State} (hw : ∀ d ∈ tables_1, d.before a0 Z = true) : (Jvm.Cond.methodLink "java/lang/AbstractStringBuilder" (3 : Nat) ({ cls := "java/lang/Object", name := "<init>", desc := "()V" } : Jvm.MethodName)).before a0 Z = true := hw _ (List.mem_of_getElem? (i := 56) rfl)
theorem wd_57 {a0 : Array Value} {Z : State} (hw : ∀ d ∈ tables_1, d.before a0 Z = true) : (Jvm.Cond.fieldLink "java/lang/AbstractStringBuilder" (18 : Nat) "java/lang/String" "COMPACT_STRINGS" "Z").before a0 Z = true := hw _ (List.mem_of_getElem? (i := 57) rfl)
theorem wd_58 {a0 : Array Value} {Z : State} (hw : ∀ d ∈ tables_1, d.before a0 Z = true) : (Jvm.Cond.fieldLink "java/lang/AbstractStringBuilder" (15 : Nat) "java/lang/AbstractStringBuilder" "value" "[B").before a0 Z = true := hw _ (List.mem_of_getElem? (i := 58) rfl)
theorem wd_59 {a0 : Array Value} {Z : State} (hw : ∀ d ∈ tables_1, d.before a0 Z = true) : (Jvm.Cond.lays "java/lang/StringBuilder" "java/lang/AbstractStringBuilder" "value" "[B").before a0 Z = true := hw _ (List.mem_of_getElem? (i := 59) rfl)
theorem wd_60 {a0 : Array Value} {Z : State} (hw : ∀ d ∈ tables_1, d.before a0 Z = true) : (Jvm.Cond.fieldLink "java/lang/AbstractStringBuilder" (22 : Nat) "java/lang/AbstractStringBuilder" "coder" "B").before a0 Z = true := hw _ (List.mem_of_getElem? (i := 60) rfl)
theorem wd_61 {a0 : Array Value} {Z : State} (hw : ∀ d ∈ tables_1, d.before a0 Z = true) : (Jvm.Cond.lays "java/lang/StringBuilder" "java/lang/AbstractStringBuilder" "coder" "B").before a0 Z = true := hw _ (List.mem_of_getElem? (i := 61) rfl)
theorem wd_62 {a0 : Array Value} {Z : State} (hw : ∀ d ∈ tables_1, d.before a0 Z = true) : (Jvm.Cond.methodLink "com/example/lakehouse_catalog/lakehousecatalog/iceberg/IcebergRoutes" (26 : Nat) ({ cls := "java/lang/StringBuilder", name := "append", desc := "(Ljava/lang/String;)Ljava/lang/StringBuilder;" } : Jvm.MethodName)).before a0 Z = true := hw _ (List.mem_of_getElem? (i := 62) rfl)
theorem wd_63 {a0 : Array Value} {Z : State} (hw : ∀ d ∈ tables_1, d.before a0 Z = true) : (Jvm.Cond.declares ({ cls := "java/lang/StringBuilder", name := "append", desc := "(Ljava/lang/String;)Ljava/lang/StringBuilder;" } : Jvm.MethodName)).before a0 Z = true := hw _ (List.mem_of_getElem? (i := 63) rfl)
theorem wd_64 {a0 : Array Value} {Z : State} (hw : ∀ d ∈ tables_1, d.before a0 Z = true) : (Jvm.Cond.instanceMethod ({ cls := "java/lang/StringBuilder", name := "append", desc := "(Ljava/lang/String;)Ljava/lang/StringBuilder;" } : Jvm.MethodName)).before a0 Z = true := hw _ (List.mem_of_getElem? (i := 64) rfl)
theorem wd_65 {a0 : Array Value} {Z : State} (hw : ∀ d ∈ tables_1, d.before a0 Z = true) : (Jvm.Cond.selects "java/lang/StringBuilder" ({ cls := "java/lang/StringBuilder", name := "append", desc := "(Ljava/lang/String;)Ljava/lang/StringBuilder;" } : Jvm.MethodName) ({ cls := "java/lang/StringBuilder", name := "append", desc := "(Ljava/lang/String;)Ljava/lang/StringBuilder;" } : Jvm.MethodName)).before a0 Z = true := hw _ (List.mem_of_getElem? (i := 65) rfl)
theorem wd_66 {a0 : Array Value} {Z : State} (hw : ∀ d ∈ tables_1, d.before a0 Z = true) : (Jvm.Cond.code ({ cls := "java/lang/StringBuilder", name := "append", desc := "(Ljava/lang/String;)Ljava/lang/StringBuilder;" } : Jvm.MethodName) jdk_67_method_7_code (2 : Nat) (Option.some (Jvm.ClassFile.FieldType.object "java/lang/StringBuilder"))).before a0 Z = true := hw _ (List.mem_of_getElem? (i := 66) rfl)
theorem wd_67 {a0 : Array Value} {Z : State} (hw : ∀ d ∈ tables_1, d.before a0 Z = true) : (Jvm.Cond.methodLink "java/lang/StringBuilder" (29 : Nat) ({ cls := "java/lang/AbstractStringBuilder", name := "append", desc := "(Ljava/lang/String;)Ljava/lang/AbstractStringBuilder;" } : Jvm.MethodName)).before a0 Z = true := hw _ (List.mem_of_getElem? (i := 67) rfl)
theorem wd_68 {a0 : Array Value} {Z : State} (hw : ∀ d ∈ tables_1, d.before a0 Z = true) : (Jvm.Cond.instanceMethod ({ cls := "java/lang/AbstractStringBuilder", name := "append", desc := "(Ljava/lang/String;)Ljava/lang/AbstractStringBuilder;" } : Jvm.MethodName)).before a0 Z = true := hw _ (List.mem_of_getElem? (i := 68) rfl)
theorem wd_69 {a0 : Array Value} {Z : State} (hw : ∀ d ∈ tables_1, d.before a0 Z = true) : (Jvm.Cond.superclass "java/lang/StringBuilder" "java/lang/AbstractStringBuilder").before a0 Z = true := hw _ (List.mem_of_getElem? (i := 69) rfl)
theorem wd_71 {a0 : Array Value} {Z : State} (hw : ∀ d ∈ tables_1, d.before a0 Z = true) : (Jvm.Cond.code ({ cls := "java/lang/AbstractStringBuilder", name := "append", desc := "(Ljava/lang/String;)Ljava/lang/AbstractStringBuilder;" } : Jvm.MethodName) jdk_68_method_22_code (3 : Nat) (Option.some (Jvm.ClassFile.FieldType.object "java/lang/AbstractStringBuilder"))).before a0 Z = true := hw _ (List.mem_of_getElem? (i := 71) rfl)
theorem wd_72 {a0 : Array Value} {Z : State} (hw : ∀ d ∈ tables_1, d.before a0 Z = true) : (Jvm.Cond.methodLink "java/lang/AbstractStringBuilder" (32 : Nat) ({ cls := "java/lang/String", name := "length", desc := "()I" } : Jvm.MethodName)).before a0 Z = true := hw _ (List.mem_of_getElem? (i := 72) rfl)
theorem wd_73 {a0 : Array Value} {Z : State} (hw : ∀ d ∈ tables_1, d.before a0 Z = true) : (Jvm.Cond.declares ({ cls := "java/lang/String", name := "length", desc := "()I" } : Jvm.MethodName)).before a0 Z = true := hw _ (List.mem_of_getElem? (i := 73) rfl)
theorem wd_74 {a0 : Array Value} {Z : State} (hw : ∀ d ∈ tables_1, d.before a0 Z = true) : (Jvm.Cond.instanceMethod ({ cls := "java/lang/String", name := "length", desc := "()I" } : Jvm.MethodName)).before a0 Z = true := hw _ (List.mem_of_getElem? (i := 74) rfl)
theorem wd_75 {a0 : Array Value} {Z : State} (hw : ∀ d ∈ tables_1, d.before a0 Z = true) : (Jvm.Cond.selects "java/lang/String" ({ cls := "java/lang/String", name := "length", desc := "()I" } : Jvm.MethodName) ({ cls := "java/lang/String", name := "length", desc := "()I" } : Jvm.MethodName)).before a0 Z = true := hw _ (List.mem_of_getElem? (i := 75) rfl)
theorem wd_77 {a0 : Array Value} {Z : State} (hw : ∀ d ∈ tables_1, d.before a0 Z = true) : (Jvm.Cond.methodLink "java/lang/String" (335 : Nat) ({ cls := "java/lang/String", name := "coder", desc := "()B" } : Jvm.MethodName)).before a0 Z = true := hw _ (List.mem_of_getElem? (i := 77) rfl)
theorem wd_78 {a0 : Array Value} {Z : State} (hw : ∀ d ∈ tables_1, d.before a0 Z = true) : (Jvm.Cond.declares ({ cls := "java/lang/String", name := "coder", desc := "()B" } : Jvm.MethodName)).before a0 Z = true := hw _ (List.mem_of_getElem? (i := 78) rfl)
theorem wd_79 {a0 : Array Value} {Z : State} (hw : ∀ d ∈ tables_1, d.before a0 Z = true) : (Jvm.Cond.instanceMethod ({ cls := "java/lang/String", name := "coder", desc := "()B" } : Jvm.MethodName)).before a0 Z = true := hw _ (List.mem_of_getElem? (i := 79) rfl)
theorem wd_80 {a0 : Array Value} {Z : State} (hw : ∀ d ∈ tables_1, d.before a0 Z = true) : (Jvm.Cond.selects "java/lang/String" ({ cls := "java/lang/String", name := "coder", desc := "()B" } : Jvm.MethodName) ({ cls := "java/lang/String", name := "coder", desc := "()B" } : Jvm.MethodName)).before a0 Z = true := hw _ (List.mem_of_getElem? (i := 80) rfl)
theorem wd_81 {a0 : Array Value} {Z : State} (hw : ∀ d ∈ tables_1, d.before a0 Z = true) : (Jvm.Cond.code ({ cls := "java/lang/String", name := "coder", desc := "()B" } : Jvm.MethodName) jdk_42_method_152_code (1 : Nat) (Option.some Jvm.ClassFile.FieldType.byte)).before a0 Z = true := hw _ (List.mem_of_getElem? (i := 81) rfl)
theorem wd_82 {a0 : Array Value} {Z : State} (hw : ∀ d ∈ tables_1, d.before a0 Z = true) : (Jvm.Cond.fieldLink "java/lang/AbstractStringBuilder" (79 : Nat) "java/lang/AbstractStringBuilder" "count" "I").before a0 Z = true := hw _ (List.mem_of_getElem? (i := 82) rfl)
theorem wd_83 {a0 : Array Value} {Z : State} (hw : ∀ d ∈ tables_1, d.before a0 Z = true) : (Jvm.Cond.lays "java/lang/StringBuilder" "java/lang/AbstractStringBuilder" "count" "I").before a0 Z = true := hw _ (List.mem_of_getElem? (i := 83) rfl)
theorem wd_84 {a0 : Array Value} {Z : State} (hw : ∀ d ∈ tables_1, d.before a0 Z = true) : (Jvm.Cond.methodLink "java/lang/AbstractStringBuilder" (100 : Nat) ({ cls := "java/lang/AbstractStringBuilder", name := "ensureCapacityInternal", desc := "(I)V" } : Jvm.MethodName)).before a0 Z = true := hw _ (List.mem_of_getElem? (i := 84) rfl)
theorem wd_85 {a0 : Array Value} {Z : State} (hw : ∀ d ∈ tables_1, d.before a0 Z = true) : (Jvm.Cond.instanceMethod ({ cls := "java/lang/AbstractStringBuilder", name := "ensureCapacityInternal", desc := "(I)V" } : Jvm.MethodName)).before a0 Z = true := hw _ (List.mem_of_getElem? (i := 85) rfl)
theorem wd_86 {a0 : Array Value} {Z : State} (hw : ∀ d ∈ tables_1, d.before a0 Z = true) : (Jvm.Cond.privateMethod ({ cls := "java/lang/AbstractStringBuilder", name := "ensureCapacityInternal", desc := "(I)V" } : Jvm.MethodName)).before a0 Z = true := hw _ (List.mem_of_getElem? (i := 86) rfl)
theorem wd_87 {a0 : Array Value} {Z : State} (hw : ∀ d ∈ tables_1, d.before a0 Z = true) : (Jvm.Cond.selects "java/lang/StringBuilder" ({ cls := "java/lang/AbstractStringBuilder", name := "ensureCapacityInternal", desc := "(I)V" } : Jvm.MethodName) ({ cls := "java/lang/AbstractStringBuilder", name := "ensureCapacityInternal", desc := "(I)V" } : Jvm.MethodName)).before a0 Z = true := hw _ (List.mem_of_getElem? (i := 87) rfl)
theorem wd_88 {a0 : Array Value} {Z : State} (hw : ∀ d ∈ tables_1, d.before a0 Z = true) : (Jvm.Cond.code ({ cls := "java/lang/AbstractStringBuilder", name := "ensureCapacityInternal", desc := "(I)V" } : Jvm.MethodName) jdk_68_method_9_code (3 : Nat) (Option.none : Option Jvm.ClassFile.FieldType)).before a0 Z = true := hw _ (List.mem_of_getElem? (i := 88) rfl)
theorem wd_89 {a0 : Array Value} {Z : State} (hw : ∀ d ∈ tables_1, d.before a0 Z = true) : (Jvm.Cond.methodLink "java/lang/AbstractStringBuilder" (208 : Nat) ({ cls := "java/lang/AbstractStringBuilder", name := "putStringAt", desc := "(ILjava/lang/String;)V" } : Jvm.MethodName)).before a0 Z = true := hw _ (List.mem_of_getElem? (i := 89) rfl)
theorem wd_90 {a0 : Array Value} {Z : State} (hw : ∀ d ∈ tables_1, d.before a0 Z = true) : (Jvm.Cond.instanceMethod ({ cls := "java/lang/AbstractStringBuilder", name := "putStringAt", desc := "(ILjava/lang/String;)V" } : Jvm.MethodName)).before a0 Z = true := hw _ (List.mem_of_getElem? (i := 90) rfl)
theorem wd_91 {a0 : Array Value} {Z : State} (hw : ∀ d ∈ tables_1, d.before a0 Z = true) : (Jvm.Cond.privateMethod ({ cls := "java/lang/AbstractStringBuilder", name := "putStringAt", desc := "(ILjava/lang/String;)V" } : Jvm.MethodName)).before a0 Z = true := hw _ (List.mem_of_getElem? (i := 91) rfl)
theorem wd_92 {a0 : Array Value} {Z : State} (hw : ∀ d ∈ tables_1, d.before a0 Z = true) : (Jvm.Cond.selects "java/lang/StringBuilder" ({ cls := "java/lang/AbstractStringBuilder", name := "putStringAt", desc := "(ILjava/lang/String;)V" } : Jvm.MethodName) ({ cls := "java/lang/AbstractStringBuilder", name := "putStringAt", desc := "(ILjava/lang/String;)V" } : Jvm.MethodName)).before a0 Z = true := hw _ (List.mem_of_getElem? (i := 92) rfl)
theorem wd_93 {a0 : Array Value} {Z : State} (hw : ∀ d ∈ tables_1, d.before a0 Z = true) : (Jvm.Cond.code ({ cls := "java/lang/AbstractStringBuilder", name := "putStringAt", desc := "(ILjava/lang/String;)V" } : Jvm.MethodName) jdk_68_method_73_code (3 : Nat) (Option.none : Option Jvm.ClassFile.FieldType)).before a0 Z = true := hw _ (List.mem_of_getElem? (i := 93) rfl)
theorem wd_94 {a0 : Array Value} {Z : State} (hw : ∀ d ∈ tables_1, d.before a0 Z = true) : (Jvm.Cond.methodLink "java/lang/AbstractStringBuilder" (397 : Nat) ({ cls := "java/lang/AbstractStringBuilder", name := "inflateIfNeededFor", desc := "(Ljava/lang/String;)V" } : Jvm.MethodName)).before a0 Z = true := hw _ (List.mem_of_getElem? (i := 94) rfl)
theorem wd_95 {a0 : Array Value} {Z : State} (hw : ∀ d ∈ tables_1, d.before a0 Z = true) : (Jvm.Cond.instanceMethod ({ cls := "java/lang/AbstractStringBuilder", name := "inflateIfNeededFor", desc := "(Ljava/lang/String;)V" } : Jvm.MethodName)).before a0 Z = true := hw _ (List.mem_of_getElem? (i := 95) rfl)
theorem wd_96 {a0 : Array Value} {Z : State} (hw : ∀ d ∈ tables_1, d.before a0 Z = true) : (Jvm.Cond.privateMethod ({ cls := "java/lang/AbstractStringBuilder", name := "inflateIfNeededFor", desc := "(Ljava/lang/String;)V" } : Jvm.MethodName)).before a0 Z = true := hw _ (List.mem_of_getElem? (i := 96) rfl)
theorem wd_97 {a0 : Array Value} {Z : State} (hw : ∀ d ∈ tables_1, d.before a0 Z = true) : (Jvm.Cond.selects "java/lang/StringBuilder" ({ cls := "java/lang/AbstractStringBuilder", name := "inflateIfNeededFor", desc := "(Ljava/lang/String;)V" } : Jvm.MethodName) ({ cls := "java/lang/AbstractStringBuilder", name := "inflateIfNeededFor", desc := "(Ljava/lang/String;)V" } : Jvm.MethodName)).before a0 Z = true := hw _ (List.mem_of_getElem? (i := 97) rfl)
theorem wd_98 {a0 : Array Value} {Z : State} (hw : ∀ d ∈ tables_1, d.before a0 Z = true) : (Jvm.Cond.code ({ cls := "java/lang/AbstractStringBuilder", name := "inflateIfNeededFor", desc := "(Ljava/lang/String;)V" } : Jvm.MethodName) jdk_68_method_71_code (2 : Nat) (Option.none : Option Jvm.ClassFile.FieldType)).before a0 Z = true := hw _ (List.mem_of_getElem? (i := 98) rfl)
theorem wd_99 {a0 : Array Value} {Z : State} (hw : ∀ d ∈ tables_1, d.before a0 Z = true) : (Jvm.Cond.methodLink "java/lang/AbstractStringBuilder" (40 : Nat) ({ cls := "java/lang/String", name := "coder", desc := "()B" } : Jvm.MethodName)).before a0 Z = true := hw _ (List.mem_of_getElem? (i := 99) rfl)
theorem wd_100 {a0 : Array Value} {Z : State} (hw : ∀ d ∈ tables_1, d.before a0 Z = true) : (Jvm.Cond.methodLink "java/lang/AbstractStringBuilder" (399 : Nat) ({ cls := "java/lang/String", name := "getBytes", desc := "([BIB)V" } : Jvm.MethodName)).before a0 Z = true := hw _ (List.mem_of_getElem? (i := 100) rfl)
theorem wd_101 {a0 : Array Value} {Z : State} (hw : ∀ d ∈ tables_1, d.before a0 Z = true) : (Jvm.Cond.declares ({ cls := "java/lang/String", name := "getBytes", desc := "([BIB)V" } : Jvm.MethodName)).before a0 Z = true := hw _ (List.mem_of_getElem? (i := 101) rfl)
theorem wd_102 {a0 : Array Value} {Z : State} (hw : ∀ d ∈ tables_1, d.before a0 Z = true) : (Jvm.Cond.instanceMethod ({ cls := "java/lang/String", name := "getBytes", desc := "([BIB)V" } : Jvm.MethodName)).before a0 Z = true := hw _ (List.mem_of_getElem? (i := 102) rfl)
theorem wd_103 {a0 : Array Value} {Z : State} (hw : ∀ d ∈ tables_1, d.before a0 Z = true) : (Jvm.Cond.selects "java/lang/String" ({ cls := "java/lang/String", name := "getBytes", desc := "([BIB)V" } : Jvm.MethodName) ({ cls := "java/lang/String", name := "getBytes", desc := "([BIB)V" } : Jvm.MethodName)).before a0 Z = true := hw _ (List.mem_of_getElem? (i := 103) rfl)
theorem wd_104 {a0 : Array Value} {Z : State} (hw : ∀ d ∈ tables_1, d.before a0 Z = true) : (Jvm.Cond.code ({ cls := "java/lang/String", name := "getBytes", desc := "([BIB)V" } : Jvm.MethodName) jdk_42_method_147_code (4 : Nat) (Option.none : Option Jvm.ClassFile.FieldType)).before a0 Z = true := hw _ (List.mem_of_getElem? (i := 104) rfl)
theorem wd_105 {a0 : Array Value} {Z : State} (hw : ∀ d ∈ tables_1, d.before a0 Z = true) : (Jvm.Cond.methodLink "java/lang/String" (212 : Nat) ({ cls := "java/lang/System", name := "arraycopy", desc := "(Ljava/lang/Object;ILjava/lang/Object;II)V" } : Jvm.MethodName)).before a0 Z = true := hw _ (List.mem_of_getElem? (i := 105) rfl)
theorem wd_106 {a0 : Array Value} {Z : State} (hw : ∀ d ∈ tables_1, d.before a0 Z = true) : (Jvm.Cond.static ({ cls := "java/lang/System", name := "arraycopy", desc := "(Ljava/lang/Object;ILjava/lang/Object;II)V" } : Jvm.MethodName)).before a0 Z = true := hw _ (List.mem_of_getElem? (i := 106) rfl)
theorem wd_107 {a0 : Array Value} {Z : State} (hw : ∀ d ∈ tables_1, d.before a0 Z = true) : (Jvm.Cond.initialized "java/lang/System").before a0 Z = true := hw _ (List.mem_of_getElem? (i := 107) rfl)
theorem wd_108 {a0 : Array Value} {Z : State} (hw : ∀ d ∈ tables_1, d.before a0 Z = true) : (Jvm.Cond.native ({ cls := "java/lang/System", name := "arraycopy", desc := "(Ljava/lang/Object;ILjava/lang/Object;II)V" } : Jvm.MethodName)).before a0 Z = true := hw _ (List.mem_of_getElem? (i := 108) rfl)
theorem wd_109 {a0 : Array Value} {Z : State} (hw : ∀ d ∈ tables_1, d.before a0 Z = true) : (Jvm.Cond.stringLink "com/example/lakehouse_catalog/lakehousecatalog/iceberg/IcebergRoutes" (30 : Nat) " ").before a0 Z = true := hw _ (List.mem_of_getElem? (i := 109) rfl)
theorem wd_110 {a0 : Array Value} {Z : State} (hw : ∀ d ∈ tables_1, d.before a0 Z = true) : (Jvm.Cond.stringLink "com/example/lakehouse_catalog/lakehousecatalog/iceberg/IcebergRoutes" (9 : Nat) "/v1").before a0 Z = true := hw _ (List.mem_of_getElem? (i := 110) rfl)
theorem wd_111 {a0 : Array Value} {Z : State} (hw : ∀ d ∈ tables_1, d.before a0 Z = true) : (Jvm.Cond.stringLink "com/example/lakehouse_catalog/lakehousecatalog/iceberg/IcebergRoutes" (32 : Nat) "/{prefix}").before a0 Z = true := hw _ (List.mem_of_getElem? (i := 111) rfl)
theorem wd_112 {a0 : Array Value} {Z : State} (hw : ∀ d ∈ tables_1, d.before a0 Z = true) : (Jvm.Cond.methodLink "com/example/lakehouse_catalog/lakehousecatalog/iceberg/IcebergRoutes" (34 : Nat) ({ cls := "java/lang/String", name := "length", desc := "()I" } : Jvm.MethodName)).before a0 Z = true := hw _ (List.mem_of_getElem? (i := 112) rfl)
theorem wd_113 {a0 : Array Value} {Z : State} (hw : ∀ d ∈ tables_1, d.before a0 Z = true) : (Jvm.Cond.methodLink "com/example/lakehouse_catalog/lakehousecatalog/iceberg/IcebergRoutes" (38 : Nat) ({ cls := "java/lang/String", name := "substring", desc := "(I)Ljava/lang/String;" } : Jvm.MethodName)).before a0 Z = true := hw _ (List.mem_of_getElem? (i := 113) rfl)
theorem wd_114 {a0 : Array Value} {Z : State} (hw : ∀ d ∈ tables_1, d.before a0 Z = true) : (Jvm.Cond.declares ({ cls := "java/lang/String", name := "substring", desc := "(I)Ljava/lang/String;" } : Jvm.MethodName)).before a0 Z = true := hw _ (List.mem_of_getElem? (i := 114) rfl)
theorem wd_115 {a0 : Array Value} {Z : State} (hw : ∀ d ∈ tables_1, d.before a0 Z = true) : (Jvm.Cond.instanceMethod ({ cls := "java/lang/String", name := "substring", desc := "(I)Ljava/lang/String;" } : Jvm.MethodName)).before a0 Z = true := hw _ (List.mem_of_getElem? (i := 115) rfl)
theorem wd_116 {a0 : Array Value} {Z : State} (hw : ∀ d ∈ tables_1, d.before a0 Z = true) : (Jvm.Cond.selects "java/lang/String" ({ cls := "java/lang/String", name := "substring", desc := "(I)Ljava/lang/String;" } : Jvm.MethodName) ({ cls := "java/lang/String", name := "substring", desc := "(I)Ljava/lang/String;" } : Jvm.MethodName)).before a0 Z = true := hw _ (List.mem_of_getElem? (i := 116) rfl)
theorem wd_117 {a0 : Array Value} {Z : State} (hw : ∀ d ∈ tables_1, d.before a0 Z = true) : (Jvm.Cond.code ({ cls := "java/lang/String", name := "substring", desc := "(I)Ljava/lang/String;" } : Jvm.MethodName) jdk_42_method_91_code (2 : Nat) (Option.some (Jvm.ClassFile.FieldType.object "java/lang/String"))).before a0 Z = true := hw _ (List.mem_of_getElem? (i := 117) rfl)
theorem wd_118 {a0 : Array Value} {Z : State} (hw : ∀ d ∈ tables_1, d.before a0 Z = true) : (Jvm.Cond.methodLink "java/lang/String" (505 : Nat) ({ cls := "java/lang/String", name := "length", desc := "()I" } : Jvm.MethodName)).before a0 Z = true := hw _ (List.mem_of_getElem? (i := 118) rfl)
theorem wd_119 {a0 : Array Value} {Z : State} (hw : ∀ d ∈ tables_1, d.before a0 Z = true) : (Jvm.Cond.methodLink "java/lang/String" (681 : Nat) ({ cls := "java/lang/String", name := "substring", desc := "(II)Ljava/lang/String;" } : Jvm.MethodName)).before a0 Z = true := hw _ (List.mem_of_getElem? (i := 119) rfl)
theorem wd_120 {a0 : Array Value} {Z : State} (hw : ∀ d ∈ tables_1, d.before a0 Z = true) : (Jvm.Cond.declares ({ cls := "java/lang/String", name := "substring", desc := "(II)Ljava/lang/String;" } : Jvm.MethodName)).before a0 Z = true := hw _ (List.mem_of_getElem? (i := 120) rfl)
theorem wd_121 {a0 : Array Value} {Z : State} (hw : ∀ d ∈ tables_1, d.before a0 Z = true) : (Jvm.Cond.instanceMethod ({ cls := "java/lang/String", name := "substring", desc := "(II)Ljava/lang/String;" } : Jvm.MethodName)).before a0 Z = true := hw _ (List.mem_of_getElem? (i := 121) rfl)
theorem wd_122 {a0 : Array Value} {Z : State} (hw : ∀ d ∈ tables_1, d.before a0 Z = true) : (Jvm.Cond.selects "java/lang/String" ({ cls := "java/lang/String", name := "substring", desc := "(II)Ljava/lang/String;" } : Jvm.MethodName) ({ cls := "java/lang/String", name := "substring", desc := "(II)Ljava/lang/String;" } : Jvm.MethodName)).before a0 Z = true := hw _ (List.mem_of_getElem? (i := 122) rfl)
theorem wd_123 {a0 : Array Value} {Z : State} (hw : ∀ d ∈ tables_1, d.before a0 Z = true) : (Jvm.Cond.code ({ cls := "java/lang/String", name := "substring", desc := "(II)Ljava/lang/String;" } : Jvm.MethodName) jdk_42_method_92_code (5 : Nat) (Option.some (Jvm.ClassFile.FieldType.object "java/lang/String"))).before a0 Z = true := hw _ (List.mem_of_getElem? (i := 123) rfl)
theorem wd_124 {a0 : Array Value} {Z : State} (hw : ∀ d ∈ tables_1, d.before a0 Z = true) : (Jvm.Cond.methodLink "java/lang/String" (521 : Nat) ({ cls := "java/lang/String", name := "checkBoundsBeginEnd", desc := "(III)V" } : Jvm.MethodName)).before a0 Z = true := hw _ (List.mem_of_getElem? (i := 124) rfl)
theorem wd_125 {a0 : Array Value} {Z : State} (hw : ∀ d ∈ tables_1, d.before a0 Z = true) : (Jvm.Cond.static ({ cls := "java/lang/String", name := "checkBoundsBeginEnd", desc := "(III)V" } : Jvm.MethodName)).before a0 Z = true := hw _ (List.mem_of_getElem? (i := 125) rfl)
theorem wd_126 {a0 : Array Value} {Z : State} (hw : ∀ d ∈ tables_1, d.before a0 Z = true) : (Jvm.Cond.code ({ cls := "java/lang/String", name := "checkBoundsBeginEnd", desc := "(III)V" } : Jvm.MethodName) jdk_42_method_158_code (3 : Nat) (Option.none : Option Jvm.ClassFile.FieldType)).before a0 Z = true := hw _ (List.mem_of_getElem? (i := 126) rfl)
theorem wd_127 {a0 : Array Value} {Z : State} (hw : ∀ d ∈ tables_1, d.before a0 Z = true) : (Jvm.Cond.fieldLink "java/lang/String" (1053 : Nat) "jdk/internal/util/Preconditions" "SIOOBE_FORMATTER" "Ljava/util/function/BiFunction;").before a0 Z = true := hw _ (List.mem_of_getElem? (i := 127) rfl)
theorem wd_128 {a0 : Array Value} {Z : State} (hw : ∀ d ∈ tables_1, d.before a0 Z = true) : (Jvm.Cond.initialized "jdk/internal/util/Preconditions").before a0 Z = true := hw _ (List.mem_of_getElem? (i := 128) rfl)
theorem wd_129 {a0 : Array Value} {Z : State} (hw : ∀ d ∈ tables_1, d.before a0 Z = true) : (Jvm.Cond.methodLink "java/lang/String" (1062 : Nat) ({ cls := "jdk/internal/util/Preconditions", name := "checkFromToIndex", desc := "(IIILjava/util/function/BiFunction;)I" } : Jvm.MethodName)).before a0 Z = true := hw _ (List.mem_of_getElem? (i := 129) rfl)
theorem wd_130 {a0 : Array Value} {Z : State} (hw : ∀ d ∈ tables_1, d.before a0 Z = true) : (Jvm.Cond.static ({ cls := "jdk/internal/util/Preconditions", name := "checkFromToIndex", desc := "(IIILjava/util/function/BiFunction;)I" } : Jvm.MethodName)).before a0 Z = true := hw _ (List.mem_of_getElem? (i := 130) rfl)
theorem wd_131 {a0 : Array Value} {Z : State} (hw : ∀ d ∈ tables_1, d.before a0 Z = true) : (Jvm.Cond.code ({ cls := "jdk/internal/util/Preconditions", name := "checkFromToIndex", desc := "(IIILjava/util/function/BiFunction;)I" } : Jvm.MethodName) jdk_41_method_12_code (4 : Nat) (Option.some Jvm.ClassFile.FieldType.int)).before a0 Z = true := hw _ (List.mem_of_getElem? (i := 131) rfl)
theorem wd_132 {a0 : Array Value} {Z : State} (hw : ∀ d ∈ tables_1, d.before a0 Z = true) : (Jvm.Cond.methodLink "java/lang/String" (492 : Nat) ({ cls := "java/lang/String", name := "isLatin1", desc := "()Z" } : Jvm.MethodName)).before a0 Z = true := hw _ (List.mem_of_getElem? (i := 132) rfl)
theorem wd_133 {a0 : Array Value} {Z : State} (hw : ∀ d ∈ tables_1, d.before a0 Z = true) : (Jvm.Cond.declares ({ cls := "java/lang/String", name := "isLatin1", desc := "()Z" } : Jvm.MethodName)).before a0 Z = true := hw _ (List.mem_of_getElem? (i := 133) rfl)
theorem wd_134 {a0 : Array Value} {Z : State} (hw : ∀ d ∈ tables_1, d.before a0 Z = true) : (Jvm.Cond.instanceMethod ({ cls := "java/lang/String", name := "isLatin1", desc := "()Z" } : Jvm.MethodName)).before a0 Z = true := hw _ (List.mem_of_getElem? (i := 134) rfl)
theorem wd_135 {a0 : Array Value} {Z : State} (hw : ∀ d ∈ tables_1, d.before a0 Z = true) : (Jvm.Cond.selects "java/lang/String" ({ cls := "java/lang/String", name := "isLatin1", desc := "()Z" } : Jvm.MethodName) ({ cls := "java/lang/String", name := "isLatin1", desc := "()Z" } : Jvm.MethodName)).before a0 Z = true := hw _ (List.mem_of_getElem? (i := 135) rfl)
theorem wd_136 {a0 : Array Value} {Z : State} (hw : ∀ d ∈ tables_1, d.before a0 Z = true) : (Jvm.Cond.code ({ cls := "java/lang/String", name := "isLatin1", desc := "()Z" } : Jvm.MethodName) jdk_42_method_154_code (1 : Nat) (Option.some Jvm.ClassFile.FieldType.boolean)).before a0 Z = true := hw _ (List.mem_of_getElem? (i := 136) rfl)
theorem wd_137 {a0 : Array Value} {Z : State} (hw : ∀ d ∈ tables_1, d.before a0 Z = true) : (Jvm.Cond.methodLink "java/lang/String" (685 : Nat) ({ cls := "java/lang/StringLatin1", name := "newString", desc := "([BII)Ljava/lang/String;" } : Jvm.MethodName)).before a0 Z = true := hw _ (List.mem_of_getElem? (i := 137) rfl)
theorem wd_138 {a0 : Array Value} {Z : State} (hw : ∀ d ∈ tables_1, d.before a0 Z = true) : (Jvm.Cond.static ({ cls := "java/lang/StringLatin1", name := "newString", desc := "([BII)Ljava/lang/String;" } : Jvm.MethodName)).before a0 Z = true := hw _ (List.mem_of_getElem? (i := 138) rfl)
theorem wd_139 {a0 : Array Value} {Z : State} (hw : ∀ d ∈ tables_1, d.before a0 Z = true) : (Jvm.Cond.initialized "java/lang/StringLatin1").before a0 Z = true := hw _ (List.mem_of_getElem? (i := 139) rfl)
theorem wd_140 {a0 : Array Value} {Z : State} (hw : ∀ d ∈ tables_1, d.before a0 Z = true) : (Jvm.Cond.code ({ cls := "java/lang/StringLatin1", name := "newString", desc := "([BII)Ljava/lang/String;" } : Jvm.MethodName) jdk_43_method_47_code (3 : Nat) (Option.some (Jvm.ClassFile.FieldType.object "java/lang/String"))).before a0 Z = true := hw _ (List.mem_of_getElem? (i := 140) rfl)
theorem wd_141 {a0 : Array Value} {Z : State} (hw : ∀ d ∈ tables_1, d.before a0 Z = true) : (Jvm.Cond.stringLink "java/lang/StringLatin1" (151 : Nat) "").before a0 Z = true := hw _ (List.mem_of_getElem? (i := 141) rfl)
theorem wd_142 {a0 : Array Value} {Z : State} (hw : ∀ d ∈ tables_1, d.before a0 Z = true) : (Jvm.Cond.methodLink "com/example/lakehouse_catalog/lakehousecatalog/iceberg/IcebergRoutes" (42 : Nat) ({ cls := "java/lang/StringBuilder", name := "toString", desc := "()Ljava/lang/String;" } : Jvm.MethodName)).before a0 Z = true := hw _ (List.mem_of_getElem? (i := 142) rfl)
theorem wd_143 {a0 : Array Value} {Z : State} (hw : ∀ d ∈ tables_1, d.before a0 Z = true) : (Jvm.Cond.declares ({ cls := "java/lang/StringBuilder", name := "toString", desc := "()Ljava/lang/String;" } : Jvm.MethodName)).before a0 Z = true := hw _ (List.mem_of_getElem? (i := 143) rfl)
theorem wd_144 {a0 : Array Value} {Z : State} (hw : ∀ d ∈ tables_1, d.before a0 Z = true) : (Jvm.Cond.instanceMethod ({ cls := "java/lang/StringBuilder", name := "toString", desc := "()Ljava/lang/String;" } : Jvm.MethodName)).before a0 Z = true := hw _ (List.mem_of_getElem? (i := 144) rfl)
theorem wd_145 {a0 : Array Value} {Z : State} (hw : ∀ d ∈ tables_1, d.before a0 Z = true) : (Jvm.Cond.selects "java/lang/StringBuilder" ({ cls := "java/lang/StringBuilder", name := "toString", desc := "()Ljava/lang/String;" } : Jvm.MethodName) ({ cls := "java/lang/StringBuilder", name := "toString", desc := "()Ljava/lang/String;" } : Jvm.MethodName)).before a0 Z = true := hw _ (List.mem_of_getElem? (i := 145) rfl)
theorem wd_146 {a0 : Array Value} {Z : State} (hw : ∀ d ∈ tables_1, d.before a0 Z = true) : (Jvm.Cond.code ({ cls := "java/lang/StringBuilder", name := "toString", desc := "()Ljava/lang/String;" } : Jvm.MethodName) jdk_67_method_42_code (1 : Nat) (Option.some (Jvm.ClassFile.FieldType.object "java/lang/String"))).before a0 Z = true := hw _ (List.mem_of_getElem? (i := 146) rfl)
theorem wd_147 {a0 : Array Value} {Z : State} (hw : ∀ d ∈ tables_1, d.before a0 Z = true) : (Jvm.Cond.classLink "java/lang/StringBuilder" (18 : Nat) "java/lang/String").before a0 Z = true := hw _ (List.mem_of_getElem? (i := 147) rfl)
theorem wd_148 {a0 : Array Value} {Z : State} (hw : ∀ d ∈ tables_1, d.before a0 Z = true) : (Jvm.Cond.methodLink "java/lang/StringBuilder" (137 : Nat) ({ cls := "java/lang/String", name := "<init>", desc := "(Ljava/lang/StringBuilder;)V" } : Jvm.MethodName)).before a0 Z = true := hw _ (List.mem_of_getElem? (i := 148) rfl)
theorem wd_149 {a0 : Array Value} {Z : State} (hw : ∀ d ∈ tables_1, d.before a0 Z = true) : (Jvm.Cond.instanceMethod ({ cls := "java/lang/String", name := "<init>", desc := "(Ljava/lang/StringBuilder;)V" } : Jvm.MethodName)).before a0 Z = true := hw _ (List.mem_of_getElem? (i := 149) rfl)
theorem wd_150 {a0 : Array Value} {Z : State} (hw : ∀ d ∈ tables_1, d.before a0 Z = true) : (Jvm.Cond.code ({ cls := "java/lang/String", name := "<init>", desc := "(Ljava/lang/StringBuilder;)V" } : Jvm.MethodName) jdk_42_method_53_code (2 : Nat) (Option.none : Option Jvm.ClassFile.FieldType)).before a0 Z = true := hw _ (List.mem_of_getElem? (i := 150) rfl)
theorem wd_151 {a0 : Array Value} {Z : State} (hw : ∀ d ∈ tables_1, d.before a0 Z = true) : (Jvm.Cond.methodLink "java/lang/String" (489 : Nat) ({ cls := "java/lang/String", name := "<init>", desc := "(Ljava/lang/AbstractStringBuilder;Ljava/lang/Void;)V" } : Jvm.MethodName)).before a0 Z = true := hw _ (List.mem_of_getElem? (i := 151) rfl)
theorem wd_152 {a0 : Array Value} {Z : State} (hw : ∀ d ∈ tables_1, d.before a0 Z = true) : (Jvm.Cond.instanceMethod ({ cls := "java/lang/String", name := "<init>", desc := "(Ljava/lang/AbstractStringBuilder;Ljava/lang/Void;)V" } : Jvm.MethodName)).before a0 Z = true := hw _ (List.mem_of_getElem? (i := 152) rfl)
theorem wd_153 {a0 : Array Value} {Z : State} (hw : ∀ d ∈ tables_1, d.before a0 Z = true) : (Jvm.Cond.code ({ cls := "java/lang/String", name := "<init>", desc := "(Ljava/lang/AbstractStringBuilder;Ljava/lang/Void;)V" } : Jvm.MethodName) jdk_42_method_150_code (5 : Nat) (Option.none : Option Jvm.ClassFile.FieldType)).before a0 Z = true := hw _ (List.mem_of_getElem? (i := 153) rfl)
theorem wd_154 {a0 : Array Value} {Z : State} (hw : ∀ d ∈ tables_1, d.before a0 Z = true) : (Jvm.Cond.methodLink "java/lang/String" (552 : Nat) ({ cls := "java/lang/AbstractStringBuilder", name := "getValue", desc := "()[B" } : Jvm.MethodName)).before a0 Z = true := hw _ (List.mem_of_getElem? (i := 154) rfl)
theorem wd_155 {a0 : Array Value} {Z : State} (hw : ∀ d ∈ tables_1, d.before a0 Z = true) : (Jvm.Cond.declares ({ cls := "java/lang/AbstractStringBuilder", name := "getValue", desc := "()[B" } : Jvm.MethodName)).before a0 Z = true := hw _ (List.mem_of_getElem? (i := 155) rfl)
theorem wd_156 {a0 : Array Value} {Z : State} (hw : ∀ d ∈ tables_1, d.before a0 Z = true) : (Jvm.Cond.instanceMethod ({ cls := "java/lang/AbstractStringBuilder", name := "getValue", desc := "()[B" } : Jvm.MethodName)).before a0 Z = true := hw _ (List.mem_of_getElem? (i := 156) rfl)
theorem wd_157 {a0 : Array Value} {Z : State} (hw : ∀ d ∈ tables_1, d.before a0 Z = true) : (Jvm.Cond.selects "java/lang/StringBuilder" ({ cls := "java/lang/AbstractStringBuilder", name := "getValue", desc := "()[B" } : Jvm.MethodName) ({ cls := "java/lang/AbstractStringBuilder", name := "getValue", desc := "()[B" } : Jvm.MethodName)).before a0 Z = true := hw _ (List.mem_of_getElem? (i := 157) rfl)
theorem wd_158 {a0 : Array Value} {Z : State} (hw : ∀ d ∈ tables_1, d.before a0 Z = true) : (Jvm.Cond.code ({ cls := "java/lang/AbstractStringBuilder", name := "getValue", desc := "()[B" } : Jvm.MethodName) jdk_68_method_64_code (1 : Nat) (Option.some (Jvm.ClassFile.FieldType.array Jvm.ClassFile.FieldType.byte))).before a0 Z = true := hw _ (List.mem_of_getElem? (i := 158) rfl)
theorem wd_159 {a0 : Array Value} {Z : State} (hw : ∀ d ∈ tables_1, d.before a0 Z = true) : (Jvm.Cond.methodLink "java/lang/String" (549 : Nat) ({ cls := "java/lang/AbstractStringBuilder", name := "length", desc := "()I" } : Jvm.MethodName)).before a0 Z = true := hw _ (List.mem_of_getElem? (i := 159) rfl)
theorem wd_160 {a0 : Array Value} {Z : State} (hw : ∀ d ∈ tables_1, d.before a0 Z = true) : (Jvm.Cond.declares ({ cls := "java/lang/AbstractStringBuilder", name := "length", desc := "()I" } : Jvm.MethodName)).before a0 Z = true := hw _ (List.mem_of_getElem? (i := 160) rfl)
theorem wd_161 {a0 : Array Value} {Z : State} (hw : ∀ d ∈ tables_1, d.before a0 Z = true) : (Jvm.Cond.instanceMethod ({ cls := "java/lang/AbstractStringBuilder", name := "length", desc := "()I" } : Jvm.MethodName)).before a0 Z = true := hw _ (List.mem_of_getElem? (i := 161) rfl)
theorem wd_162 {a0 : Array Value} {Z : State} (hw : ∀ d ∈ tables_1, d.before a0 Z = true) : (Jvm.Cond.selects "java/lang/StringBuilder" ({ cls := "java/lang/AbstractStringBuilder", name := "length", desc := "()I" } : Jvm.MethodName) ({ cls := "java/lang/StringBuilder", name := "length", desc := "()I" } : Jvm.MethodName)).before a0 Z = true := hw _ (List.mem_of_getElem? (i := 162) rfl)
theorem wd_163 {a0 : Array Value} {Z : State} (hw : ∀ d ∈ tables_1, d.before a0 Z = true) : (Jvm.Cond.instanceMethod ({ cls := "java/lang/StringBuilder", name := "length", desc := "()I" } : Jvm.MethodName)).before a0 Z = true := hw _ (List.mem_of_getElem? (i := 163) rfl)
theorem wd_164 {a0 : Array Value} {Z : State} (hw : ∀ d ∈ tables_1, d.before a0 Z = true) : (Jvm.Cond.code ({ cls := "java/lang/StringBuilder", name := "length", desc := "()I" } : Jvm.MethodName) jdk_67_method_93_code (1 : Nat) (Option.some Jvm.ClassFile.FieldType.int)).before a0 Z = true := hw _ (List.mem_of_getElem? (i := 164) rfl)
theorem wd_165 {a0 : Array Value} {Z : State} (hw : ∀ d ∈ tables_1, d.before a0 Z = true) : (Jvm.Cond.methodLink "java/lang/StringBuilder" (343 : Nat) ({ cls := "java/lang/AbstractStringBuilder", name := "length", desc := "()I" } : Jvm.MethodName)).before a0 Z = true := hw _ (List.mem_of_getElem? (i := 165) rfl)
theorem wd_166 {a0 : Array Value} {Z : State} (hw : ∀ d ∈ tables_1, d.before a0 Z = true) : (Jvm.Cond.code ({ cls := "java/lang/AbstractStringBuilder", name := "length", desc := "()I" } : Jvm.MethodName) jdk_68_method_6_code (1 : Nat) (Option.some Jvm.ClassFile.FieldType.int)).before a0 Z = true := hw _ (List.mem_of_getElem? (i := 166) rfl)
theorem wd_167 {a0 : Array Value} {Z : State} (hw : ∀ d ∈ tables_1, d.before a0 Z = true) : (Jvm.Cond.methodLink "java/lang/String" (1047 : Nat) ({ cls := "java/lang/AbstractStringBuilder", name := "isLatin1", desc := "()Z" } : Jvm.MethodName)).before a0 Z = true := hw _ (List.mem_of_getElem? (i := 167) rfl)
theorem wd_168 {a0 : Array Value} {Z : State} (hw : ∀ d ∈ tables_1, d.before a0 Z = true) : (Jvm.Cond.declares ({ cls := "java/lang/AbstractStringBuilder", name := "isLatin1", desc := "()Z" } : Jvm.MethodName)).before a0 Z = true := hw _ (List.mem_of_getElem? (i := 168) rfl)
theorem wd_169 {a0 : Array Value} {Z : State} (hw : ∀ d ∈ tables_1, d.before a0 Z = true) : (Jvm.Cond.instanceMethod ({ cls := "java/lang/AbstractStringBuilder", name := "isLatin1", desc := "()Z" } : Jvm.MethodName)).before a0 Z = true := hw _ (List.mem_of_getElem? (i := 169) rfl)
theorem wd_170 {a0 : Array Value} {Z : State} (hw : ∀ d ∈ tables_1, d.before a0 Z = true) : (Jvm.Cond.selects "java/lang/StringBuilder" ({ cls := "java/lang/AbstractStringBuilder", name := "isLatin1", desc := "()Z" } : Jvm.MethodName) ({ cls := "java/lang/AbstractStringBuilder", name := "isLatin1", desc := "()Z" } : Jvm.MethodName)).before a0 Z = true := hw _ (List.mem_of_getElem? (i := 170) rfl)
theorem wd_171 {a0 : Array Value} {Z : State} (hw : ∀ d ∈ tables_1, d.before a0 Z = true) : (Jvm.Cond.code ({ cls := "java/lang/AbstractStringBuilder", name := "isLatin1", desc := "()Z" } : Jvm.MethodName) jdk_68_method_68_code (1 : Nat) (Option.some Jvm.ClassFile.FieldType.boolean)).before a0 Z = true := hw _ (List.mem_of_getElem? (i := 171) rfl)
theorem wd_172 {a0 : Array Value} {Z : State} (hw : ∀ d ∈ tables_1, d.before a0 Z = true) : (Jvm.Cond.methodLink "java/lang/String" (54 : Nat) ({ cls := "java/util/Arrays", name := "copyOfRange", desc := "([BII)[B" } : Jvm.MethodName)).before a0 Z = true := hw _ (List.mem_of_getElem? (i := 172) rfl)
theorem wd_173 {a0 : Array Value} {Z : State} (hw : ∀ d ∈ tables_1, d.before a0 Z = true) : (Jvm.Cond.static ({ cls := "java/util/Arrays", name := "copyOfRange", desc := "([BII)[B" } : Jvm.MethodName)).before a0 Z = true := hw _ (List.mem_of_getElem? (i := 173) rfl)
theorem wd_174 {a0 : Array Value} {Z : State} (hw : ∀ d ∈ tables_1, d.before a0 Z = true) : (Jvm.Cond.initialized "java/util/Arrays").before a0 Z = true := hw _ (List.mem_of_getElem? (i := 174) rfl)
theorem wd_175 {a0 : Array Value} {Z : State} (hw : ∀ d ∈ tables_1, d.before a0 Z = true) : (Jvm.Cond.code ({ cls := "java/util/Arrays", name := "copyOfRange", desc := "([BII)[B" } : Jvm.MethodName) jdk_65_method_132_code (3 : Nat) (Option.some (Jvm.ClassFile.FieldType.array Jvm.ClassFile.FieldType.byte))).before a0 Z = true := hw _ (List.mem_of_getElem? (i := 175) rfl)
theorem wd_176 {a0 : Array Value} {Z : State} (hw : ∀ d ∈ tables_1, d.before a0 Z = true) : (Jvm.Cond.methodLink "java/util/Arrays" (339 : Nat) ({ cls := "java/util/Arrays", name := "copyOfRangeByte", desc := "([BII)[B" } : Jvm.MethodName)).before a0 Z = true := hw _ (List.mem_of_getElem? (i := 176) rfl)
theorem wd_177 {a0 : Array Value} {Z : State} (hw : ∀ d ∈ tables_1, d.before a0 Z = true) : (Jvm.Cond.static ({ cls := "java/util/Arrays", name := "copyOfRangeByte", desc := "([BII)[B" } : Jvm.MethodName)).before a0 Z = true := hw _ (List.mem_of_getElem? (i := 177) rfl)
theorem wd_178 {a0 : Array Value} {Z : State} (hw : ∀ d ∈ tables_1, d.before a0 Z = true) : (Jvm.Cond.code ({ cls := "java/util/Arrays", name := "copyOfRangeByte", desc := "([BII)[B" } : Jvm.MethodName) jdk_65_method_133_code (5 : Nat) (Option.some (Jvm.ClassFile.FieldType.array Jvm.ClassFile.FieldType.byte))).before a0 Z = true := hw _ (List.mem_of_getElem? (i := 178) rfl)
theorem wd_179 {a0 : Array Value} {Z : State} (hw : ∀ d ∈ tables_1, d.before a0 Z = true) : (Jvm.Cond.methodLink "java/util/Arrays" (343 : Nat) ({ cls := "java/util/Arrays", name := "checkLength", desc := "(II)V" } : Jvm.MethodName)).before a0 Z = true := hw _ (List.mem_of_getElem? (i := 179) rfl)
theorem wd_180 {a0 : Array Value} {Z : State} (hw : ∀ d ∈ tables_1, d.before a0 Z = true) : (Jvm.Cond.static ({ cls := "java/util/Arrays", name := "checkLength", desc := "(II)V" } : Jvm.MethodName)).before a0 Z = true := hw _ (List.mem_of_getElem? (i := 180) rfl)
theorem wd_181 {a0 : Array Value} {Z : State} (hw : ∀ d ∈ tables_1, d.before a0 Z = true) : (Jvm.Cond.code ({ cls := "java/util/Arrays", name := "checkLength", desc := "(II)V" } : Jvm.MethodName) jdk_65_method_131_code (2 : Nat) (Option.none : Option Jvm.ClassFile.FieldType)).before a0 Z = true := hw _ (List.mem_of_getElem? (i := 181) rfl)
theorem wd_182 {a0 : Array Value} {Z : State} (hw : ∀ d ∈ tables_1, d.before a0 Z = true) : (Jvm.Cond.methodLink "java/util/Arrays" (304 : Nat) ({ cls := "java/lang/Math", name := "min", desc := "(II)I" } : Jvm.MethodName)).before a0 Z = true := hw _ (List.mem_of_getElem? (i := 182) rfl)
theorem wd_183 {a0 : Array Value} {Z : State} (hw : ∀ d ∈ tables_1, d.before a0 Z = true) : (Jvm.Cond.static ({ cls := "java/lang/Math", name := "min", desc := "(II)I" } : Jvm.MethodName)).before a0 Z = true := hw _ (List.mem_of_getElem? (i := 183) rfl)
theorem wd_184 {a0 : Array Value} {Z : State} (hw : ∀ d ∈ tables_1, d.before a0 Z = true) : (Jvm.Cond.initialized "java/lang/Math").before a0 Z = true := hw _ (List.mem_of_getElem? (i := 184) rfl)
theorem wd_185 {a0 : Array Value} {Z : State} (hw : ∀ d ∈ tables_1, d.before a0 Z = true) : (Jvm.Cond.code ({ cls := "java/lang/Math", name := "min", desc := "(II)I" } : Jvm.MethodName) jdk_29_method_69_code (2 : Nat) (Option.some Jvm.ClassFile.FieldType.int)).before a0 Z = true := hw _ (List.mem_of_getElem? (i := 185) rfl)
theorem wd_186 {a0 : Array Value} {Z : State} (hw : ∀ d ∈ tables_1, d.before a0 Z = true) : (Jvm.Cond.methodLink "java/util/Arrays" (150 : Nat) ({ cls := "java/lang/System", name := "arraycopy", desc := "(Ljava/lang/Object;ILjava/lang/Object;II)V" } : Jvm.MethodName)).before a0 Z = true := hw _ (List.mem_of_getElem? (i := 186) rfl)
theorem wd_187 {a0 : Array Value} {Z : State} (hw : ∀ d ∈ tables_1, d.before a0 Z = true) : (Jvm.Cond.methodLink "com/example/lakehouse_catalog/lakehousecatalog/iceberg/IcebergRoutesEndpointPinLaw" (27 : Nat) ({ cls := "java/lang/String", name := "length", desc := "()I" } : Jvm.MethodName)).before a0 Z = true := hw _ (List.mem_of_getElem? (i := 187) rfl)
theorem wd_188 {a0 : Array Value} {Z : State} (hw : ∀ d ∈ tables_1, d.before a0 Z = true) : (Jvm.Cond.methodLink "com/example/lakehouse_catalog/lakehousecatalog/iceberg/IcebergRoutesEndpointPinLaw" (31 : Nat) ({ cls := "java/lang/String", name := "charAt", desc := "(I)C" } : Jvm.MethodName)).before a0 Z = true := hw _ (List.mem_of_getElem? (i := 188) rfl)
theorem wd_189 {a0 : Array Value} {Z : State} (hw : ∀ d ∈ tables_1, d.before a0 Z = true) : (Jvm.Cond.declares ({ cls := "java/lang/String", name := "charAt", desc := "(I)C" } : Jvm.MethodName)).before a0 Z = true := hw _ (List.mem_of_getElem? (i := 189) rfl)
theorem wd_190 {a0 : Array Value} {Z : State} (hw : ∀ d ∈ tables_1, d.before a0 Z = true) : (Jvm.Cond.instanceMethod ({ cls := "java/lang/String", name := "charAt", desc := "(I)C" } : Jvm.MethodName)).before a0 Z = true := hw _ (List.mem_of_getElem? (i := 190) rfl)
theorem wd_191 {a0 : Array Value} {Z : State} (hw : ∀ d ∈ tables_1, d.before a0 Z = true) : (Jvm.Cond.selects "java/lang/String" ({ cls := "java/lang/String", name := "charAt", desc := "(I)C" } : Jvm.MethodName) ({ cls := "java/lang/String", name := "charAt", desc := "(I)C" } : Jvm.MethodName)).before a0 Z = true := hw _ (List.mem_of_getElem? (i := 191) rfl)
theorem wd_202 {a0 : Array Value} {Z : State} (hw : ∀ d ∈ tables_1, d.before a0 Z = true) : (Jvm.Cond.classLink "java/lang/StringLatin1" (1 : Nat) "java/lang/String").before a0 Z = true := hw _ (List.mem_of_getElem? (i := 202) rfl)
theorem wd_203 {a0 : Array Value} {Z : State} (hw : ∀ d ∈ tables_1, d.before a0 Z = true) : (Jvm.Cond.methodLink "java/lang/StringLatin1" (232 : Nat) ({ cls := "java/util/Arrays", name := "copyOfRange", desc := "([BII)[B" } : Jvm.MethodName)).before a0 Z = true := hw _ (List.mem_of_getElem? (i := 203) rfl)
theorem wd_204 {a0 : Array Value} {Z : State} (hw : ∀ d ∈ tables_1, d.before a0 Z = true) : (Jvm.Cond.methodLink "java/lang/StringLatin1" (112 : Nat) ({ cls := "java/lang/String", name := "<init>", desc := "([BB)V" } : Jvm.MethodName)).before a0 Z = true := hw _ (List.mem_of_getElem? (i := 204) rfl)
theorem wd_205 {a0 : Array Value} {Z : State} (hw : ∀ d ∈ tables_1, d.before a0 Z = true) : (Jvm.Cond.instanceMethod ({ cls := "java/lang/String", name := "<init>", desc := "([BB)V" } : Jvm.MethodName)).before a0 Z = true := hw _ (List.mem_of_getElem? (i := 205) rfl)
theorem wd_206 {a0 : Array Value} {Z : State} (hw : ∀ d ∈ tables_1, d.before a0 Z = true) : (Jvm.Cond.code ({ cls := "java/lang/String", name := "<init>", desc := "([BB)V" } : Jvm.MethodName) jdk_42_method_151_code (3 : Nat) (Option.none : Option Jvm.ClassFile.FieldType)).before a0 Z = true := hw _ (List.mem_of_getElem? (i := 206) rfl)
theorem wd_207 {a0 : Array Value} {Z : State} (hw : ∀ d ∈ tables_1, d.before a0 Z = true) : (Jvm.Cond.methodLink "java/util/Arrays" (310 : Nat) ({ cls := "[B", name := "clone", desc := "()Ljava/lang/Object;" } : Jvm.MethodName)).before a0 Z = true := hw _ (List.mem_of_getElem? (i := 207) rfl)
theorem wd_208 {a0 : Array Value} {Z : State} (hw : ∀ d ∈ tables_1, d.before a0 Z = true) : (Jvm.Cond.sameMethod "[B" "java/lang/Object" "clone" "()Ljava/lang/Object;").before a0 Z = true := hw _ (List.mem_of_getElem? (i := 208) rfl)
theorem wd_210 {a0 : Array Value} {Z : State} (hw : ∀ d ∈ tables_1, d.before a0 Z = true) : (Jvm.Cond.instanceMethod ({ cls := "java/lang/Object", name := "clone", desc := "()Ljava/lang/Object;" } : Jvm.MethodName)).before a0 Z = true := hw _ (List.mem_of_getElem? (i := 210) rfl)
theorem wd_211 {a0 : Array Value} {Z : State} (hw : ∀ d ∈ tables_1, d.before a0 Z = true) : (Jvm.Cond.selects "[B" ({ cls := "[B", name := "clone", desc := "()Ljava/lang/Object;" } : Jvm.MethodName) ({ cls := "java/lang/Object", name := "clone", desc := "()Ljava/lang/Object;" } : Jvm.MethodName)).before a0 Z = true := hw _ (List.mem_of_getElem? (i := 211) rfl)
theorem wd_212 {a0 : Array Value} {Z : State} (hw : ∀ d ∈ tables_1, d.before a0 Z = true) : (Jvm.Cond.native ({ cls := "java/lang/Object", name := "clone", desc := "()Ljava/lang/Object;" } : Jvm.MethodName)).before a0 Z = true := hw _ (List.mem_of_getElem? (i := 212) rfl)
theorem wd_213 {a0 : Array Value} {Z : State} (hw : ∀ d ∈ tables_1, d.before a0 Z = true) : (Jvm.Cond.castable "[B" "java/lang/Cloneable").before a0 Z = true := hw _ (List.mem_of_getElem? (i := 213) rfl)
theorem wd_214 {a0 : Array Value} {Z : State} (hw : ∀ d ∈ tables_1, d.before a0 Z = true) : (Jvm.Cond.classLink "java/util/Arrays" (311 : Nat) "[B").before a0 Z = true := hw _ (List.mem_of_getElem? (i := 214) rfl)
theorem wd_216 {a0 : Array Value} {Z : State} (hw : ∀ d ∈ tables_1, d.before a0 Z = true) : (Jvm.Cond.methodLink "java/lang/AbstractStringBuilder" (104 : Nat) ({ cls := "java/lang/AbstractStringBuilder", name := "newCapacity", desc := "(I)I" } : Jvm.MethodName)).before a0 Z = true := hw _ (List.mem_of_getElem? (i := 216) rfl)
theorem wd_217 {a0 : Array Value} {Z : State} (hw : ∀ d ∈ tables_1, d.before a0 Z = true) : (Jvm.Cond.instanceMethod ({ cls := "java/lang/AbstractStringBuilder", name := "newCapacity", desc := "(I)I" } : Jvm.MethodName)).before a0 Z = true := hw _ (List.mem_of_getElem? (i := 217) rfl)
theorem wd_218 {a0 : Array Value} {Z : State} (hw : ∀ d ∈ tables_1, d.before a0 Z = true) : (Jvm.Cond.privateMethod ({ cls := "java/lang/AbstractStringBuilder", name := "newCapacity", desc := "(I)I" } : Jvm.MethodName)).before a0 Z = true := hw _ (List.mem_of_getElem? (i := 218) rfl)
theorem wd_219 {a0 : Array Value} {Z : State} (hw : ∀ d ∈ tables_1, d.before a0 Z = true) : (Jvm.Cond.selects "java/lang/StringBuilder" ({ cls := "java/lang/AbstractStringBuilder", name := "newCapacity", desc := "(I)I" } : Jvm.MethodName) ({ cls := "java/lang/AbstractStringBuilder", name := "newCapacity", desc := "(I)I" } : Jvm.MethodName)).before a0 Z = true := hw _ (List.mem_of_getElem? (i := 219) rfl)
theorem wd_220 {a0 : Array Value} {Z : State} (hw : ∀ d ∈ tables_1, d.before a0 Z = true) : (Jvm.Cond.code ({ cls := "java/lang/AbstractStringBuilder", name := "newCapacity", desc := "(I)I" } : Jvm.MethodName) jdk_68_method_10_code (6 : Nat) (Option.some Jvm.ClassFile.FieldType.int)).before a0 Z = true := hw _ (List.mem_of_getElem? (i := 220) rfl)
theorem wd_221 {a0 : Array Value} {Z : State} (hw : ∀ d ∈ tables_1, d.before a0 Z = true) : (Jvm.Cond.methodLink "java/lang/AbstractStringBuilder" (114 : Nat) ({ cls := "jdk/internal/util/ArraysSupport", name := "newLength", desc := "(III)I" } : Jvm.MethodName)).before a0 Z = true := hw _ (List.mem_of_getElem? (i := 221) rfl)
theorem wd_222 {a0 : Array Value} {Z : State} (hw : ∀ d ∈ tables_1, d.before a0 Z = true) : (Jvm.Cond.static ({ cls := "jdk/internal/util/ArraysSupport", name := "newLength", desc := "(III)I" } : Jvm.MethodName)).before a0 Z = true := hw _ (List.mem_of_getElem? (i := 222) rfl)
theorem wd_223 {a0 : Array Value} {Z : State} (hw : ∀ d ∈ tables_1, d.before a0 Z = true) : (Jvm.Cond.initialized "jdk/internal/util/ArraysSupport").before a0 Z = true := hw _ (List.mem_of_getElem? (i := 223) rfl)
theorem wd_224 {a0 : Array Value} {Z : State} (hw : ∀ d ∈ tables_1, d.before a0 Z = true) : (Jvm.Cond.code ({ cls := "jdk/internal/util/ArraysSupport", name := "newLength", desc := "(III)I" } : Jvm.MethodName) jdk_48_method_27_code (4 : Nat) (Option.some Jvm.ClassFile.FieldType.int)).before a0 Z = true := hw _ (List.mem_of_getElem? (i := 224) rfl)
theorem wd_225 {a0 : Array Value} {Z : State} (hw : ∀ d ∈ tables_1, d.before a0 Z = true) : (Jvm.Cond.methodLink "jdk/internal/util/ArraysSupport" (194 : Nat) ({ cls := "java/lang/Math", name := "max", desc := "(II)I" } : Jvm.MethodName)).before a0 Z = true := hw _ (List.mem_of_getElem? (i := 225) rfl)
theorem wd_226 {a0 : Array Value} {Z : State} (hw : ∀ d ∈ tables_1, d.before a0 Z = true) : (Jvm.Cond.static ({ cls := "java/lang/Math", name := "max", desc := "(II)I" } : Jvm.MethodName)).before a0 Z = true := hw _ (List.mem_of_getElem? (i := 226) rfl)
theorem wd_227 {a0 : Array Value} {Z : State} (hw : ∀ d ∈ tables_1, d.before a0 Z = true) : (Jvm.Cond.code ({ cls := "java/lang/Math", name := "max", desc := "(II)I" } : Jvm.MethodName) jdk_29_method_65_code (2 : Nat) (Option.some Jvm.ClassFile.FieldType.int)).before a0 Z = true := hw _ (List.mem_of_getElem? (i := 227) rfl)
theorem wd_228 {a0 : Array Value} {Z : State} (hw : ∀ d ∈ tables_1, d.before a0 Z = true) : (Jvm.Cond.constant "jdk/internal/util/ArraysSupport" (200 : Nat) (2147483639 : Int32)).before a0 Z = true := hw _ (List.mem_of_getElem? (i := 228) rfl)
theorem wd_229 {a0 : Array Value} {Z : State} (hw : ∀ d ∈ tables_1, d.before a0 Z = true) : (Jvm.Cond.constant "java/lang/AbstractStringBuilder" (39 : Nat) (2147483647 : Int32)).before a0 Z = true := hw _ (List.mem_of_getElem? (i := 229) rfl)
theorem wd_230 {a0 : Array Value} {Z : State} (hw : ∀ d ∈ tables_1, d.before a0 Z = true) : (Jvm.Cond.methodLink "java/lang/AbstractStringBuilder" (108 : Nat) ({ cls := "java/util/Arrays", name := "copyOf", desc := "([BI)[B" } : Jvm.MethodName)).before a0 Z = true := hw _ (List.mem_of_getElem? (i := 230) rfl)
theorem wd_231 {a0 : Array Value} {Z : State} (hw : ∀ d ∈ tables_1, d.before a0 Z = true) : (Jvm.Cond.static ({ cls := "java/util/Arrays", name := "copyOf", desc := "([BI)[B" } : Jvm.MethodName)).before a0 Z = true := hw _ (List.mem_of_getElem? (i := 231) rfl)
theorem wd_232 {a0 : Array Value} {Z : State} (hw : ∀ d ∈ tables_1, d.before a0 Z = true) : (Jvm.Cond.code ({ cls := "java/util/Arrays", name := "copyOf", desc := "([BI)[B" } : Jvm.MethodName) jdk_65_method_121_code (3 : Nat) (Option.some (Jvm.ClassFile.FieldType.array Jvm.ClassFile.FieldType.byte))).before a0 Z = true := hw _ (List.mem_of_getElem? (i := 232) rfl)
theorem pn_0 : plainName "java/lang/AbstractStringBuilder" = true := by first | (simp [plainName, overriddenIn]; done) | decide +kernel
theorem pn_1 : plainName "java/lang/StringBuilder" = true := by first | (simp [plainName, overriddenIn]; done) | decide +kernel
theorem pn_2 : plainName "java/lang/String" = true := by first | (simp [plainName, overriddenIn]; done) | decide +kernel
theorem pn_3 : plainName "jdk/internal/util/ArraysSupport" = true := by first | (simp [plainName, overriddenIn]; done) | decide +kernel
theorem pn_4 : plainName "java/util/Arrays" = true := by first | (simp [plainName, overriddenIn]; done) | decide +kernel
theorem pn_5 : plainName "jdk/internal/util/Preconditions" = true := by first | (simp [plainName, overriddenIn]; done) | decide +kernel
theorem pn_6 : plainName "java/lang/StringLatin1" = true := by first | (simp [plainName, overriddenIn]; done) | decide +kernel
theorem pn_7 : plainName "com/example/lakehouse_catalog/lakehousecatalog/iceberg/IcebergRoutes" = true := by first | (simp [plainName, overriddenIn]; done) | decide +kernel
theorem pn_8 : plainName "com/example/lakehouse_catalog/lakehousecatalog/iceberg/IcebergRoutesEndpointPinLaw" = true := by first | (simp [plainName, overriddenIn]; done) | decide +kernel
theorem pd_0 : parseMethodDescriptor "(I)V" = some ⟨[.int], none⟩ := by decide +kernel
theorem pd_1 : parseMethodDescriptor "()B" = some ⟨[], some .byte⟩ := by decide +kernel
theorem pd_2 : parseMethodDescriptor "(Ljava/lang/String;)V" = some ⟨[(.object "java/lang/String")], none⟩ := by decide +kernel
theorem pd_3 : parseMethodDescriptor "([BIB)V" = some ⟨[(.array .byte), .int, .byte], none⟩ := by decide +kernel
theorem pd_4 : parseMethodDescriptor "(II)I" = some ⟨[.int, .int], some .int⟩ := by decide +kernel
theorem pd_5 : parseMethodDescriptor "(III)I" = some ⟨[.int, .int, .int], some .int⟩ := by decide +kernel
theorem pd_6 : parseMethodDescriptor "(I)I" = some ⟨[.int], some .int⟩ := by decide +kernel
theorem pd_7 : parseMethodDescriptor "([BI)[B" = some ⟨[(.array .byte), .int], some (.array .byte)⟩ := by decide +kernel
theorem pd_8 : parseMethodDescriptor "()I" = some ⟨[], some .int⟩ := by decide +kernel
theorem pd_9 : parseMethodDescriptor "(ILjava/lang/String;)V" = some ⟨[.int, (.object "java/lang/String")], none⟩ := by decide +kernel
theorem pd_10 : parseMethodDescriptor "(Ljava/lang/String;)Ljava/lang/AbstractStringBuilder;" = some ⟨[(.object "java/lang/String")], some (.object "java/lang/AbstractStringBuilder")⟩ := by decide +kernel
theorem pd_11 : parseMethodDescriptor "(II)V" = some ⟨[.int, .int], none⟩ := by decide +kernel
theorem pd_12 : parseMethodDescriptor "([BII)[B" = some ⟨[(.array .byte), .int, .int], some (.array .byte)⟩ := by decide +kernel
theorem pd_13 : parseMethodDescriptor "()[B" = some ⟨[], some (.array .byte)⟩ := by decide +kernel
theorem pd_14 : parseMethodDescriptor "()Z" = some ⟨[], some .boolean⟩ := by decide +kernel
theorem pd_15 : parseMethodDescriptor "(Ljava/lang/AbstractStringBuilder;Ljava/lang/Void;)V" = some ⟨[(.object "java/lang/AbstractStringBuilder"), (.object "java/lang/Void")], none⟩ := by decide +kernel
theorem pd_16 : parseMethodDescriptor "(Ljava/lang/StringBuilder;)V" = some ⟨[(.object "java/lang/StringBuilder")], none⟩ := by decide +kernel
theorem pd_17 : parseMethodDescriptor "(IIILjava/util/function/BiFunction;)I" = some ⟨[.int, .int, .int, (.object "java/util/function/BiFunction")], some .int⟩ := by decide +kernel
theorem pd_18 : parseMethodDescriptor "([BB)V" = some ⟨[(.array .byte), .byte], none⟩ := by decide +kernel
theorem pd_19 : parseMethodDescriptor "(III)V" = some ⟨[.int, .int, .int], none⟩ := by decide +kernel
theorem pd_20 : parseMethodDescriptor "([BII)Ljava/lang/String;" = some ⟨[(.array .byte), .int, .int], some (.object "java/lang/String")⟩ := by decide +kernel
theorem pd_21 : parseMethodDescriptor "(II)Ljava/lang/String;" = some ⟨[.int, .int], some (.object "java/lang/String")⟩ := by decide +kernel
theorem pd_22 : parseMethodDescriptor "()V" = some ⟨[], none⟩ := by decide +kernel
theorem pd_23 : parseMethodDescriptor "(Ljava/lang/String;)Ljava/lang/StringBuilder;" = some ⟨[(.object "java/lang/String")], some (.object "java/lang/StringBuilder")⟩ := by decide +kernel
theorem pd_24 : parseMethodDescriptor "(I)Ljava/lang/String;" = some ⟨[.int], some (.object "java/lang/String")⟩ := by decide +kernel
theorem pd_25 : parseMethodDescriptor "()Ljava/lang/String;" = some ⟨[], some (.object "java/lang/String")⟩ := by decide +kernel
theorem pd_26 : parseMethodDescriptor "([CIILjava/lang/Void;)V" = some ⟨[(.array .char), .int, .int, (.object "java/lang/Void")], none⟩ := by decide +kernel
theorem pd_27 : parseMethodDescriptor "([C)V" = some ⟨[(.array .char)], none⟩ := by decide +kernel
theorem pd_28 : parseMethodDescriptor "(I)C" = some ⟨[.int], some .char⟩ := by decide +kernel
theorem pd_29 : parseMethodDescriptor "(ICCC)Ljava/lang/String;" = some ⟨[.int, .char, .char, .char], some (.object "java/lang/String")⟩ := by decide +kernel
theorem pd_30 : parseMethodDescriptor "(Ljava/lang/String;Ljava/lang/String;)Ljava/lang/String;" = some ⟨[(.object "java/lang/String"), (.object "java/lang/String")], some (.object "java/lang/String")⟩ := by decide +kernel
theorem pf_0 : parseFieldDescriptor "[B" = some (.array .byte) := by decide +kernel
theorem pf_1 : parseFieldDescriptor "B" = some .byte := by decide +kernel
theorem pf_2 : parseFieldDescriptor "I" = some .int := by decide +kernel
theorem sn_0 {a0 : Array Value} {Z : State} (hw : ∀ d ∈ tables_1, d.before a0 Z = true) : Jvm.RoadKit.slotOf Z "java/lang/AbstractStringBuilder" "coder" "B" ≠ Jvm.RoadKit.slotOf Z "java/lang/AbstractStringBuilder" "value" "[B" := slot_ne (a0 := a0) (C := "java/lang/StringBuilder") (Or.inl (wd_61 hw)) (Or.inl (wd_59 hw)) (by decide) pf_1 pf_0
theorem sn_1 {a0 : Array Value} {Z : State} (hw : ∀ d ∈ tables_1, d.before a0 Z = true) : Jvm.RoadKit.slotOf Z "java/lang/AbstractStringBuilder" "value" "[B" ≠ Jvm.RoadKit.slotOf Z "java/lang/AbstractStringBuilder" "coder" "B" := slot_ne (a0 := a0) (C := "java/lang/StringBuilder") (Or.inl (wd_59 hw)) (Or.inl (wd_61 hw)) (by decide) pf_0 pf_1
theorem sn_2 {a0 : Array Value} {Z : State} (hw : ∀ d ∈ tables_1, d.before a0 Z = true) : Jvm.RoadKit.slotOf Z "java/lang/AbstractStringBuilder" "count" "I" ≠ Jvm.RoadKit.slotOf Z "java/lang/AbstractStringBuilder" "value" "[B" := slot_ne (a0 := a0) (C := "java/lang/StringBuilder") (Or.inl (wd_83 hw)) (Or.inl (wd_59 hw)) (by decide) pf_2 pf_0
theorem sn_3 {a0 : Array Value} {Z : State} (hw : ∀ d ∈ tables_1, d.before a0 Z = true) : Jvm.RoadKit.slotOf Z "java/lang/AbstractStringBuilder" "count" "I" ≠ Jvm.RoadKit.slotOf Z "java/lang/AbstractStringBuilder" "coder" "B" := slot_ne (a0 := a0) (C := "java/lang/StringBuilder") (Or.inl (wd_83 hw)) (Or.inl (wd_61 hw)) (by decide) pf_2 pf_1
theorem sn_4 {a0 : Array Value} {Z : State} (hw : ∀ d ∈ tables_1, d.before a0 Z = true) : Jvm.RoadKit.slotOf Z "java/lang/AbstractStringBuilder" "value" "[B" ≠ Jvm.RoadKit.slotOf Z "java/lang/AbstractStringBuilder" "count" "I" := slot_ne (a0 := a0) (C := "java/lang/StringBuilder") (Or.inl (wd_59 hw)) (Or.inl (wd_83 hw)) (by decide) pf_0 pf_2
theorem sn_5 {a0 : Array Value} {Z : State} (hw : ∀ d ∈ tables_1, d.before a0 Z = true) : Jvm.RoadKit.slotOf Z "java/lang/AbstractStringBuilder" "coder" "B" ≠ Jvm.RoadKit.slotOf Z "java/lang/AbstractStringBuilder" "count" "I" := slot_ne (a0 := a0) (C := "java/lang/StringBuilder") (Or.inl (wd_61 hw)) (Or.inl (wd_83 hw)) (by decide) pf_1 pf_2
theorem sn_6 {a0 : Array Value} {Z : State} (hw : ∀ d ∈ tables_1, d.before a0 Z = true) : Jvm.RoadKit.slotOf Z "java/lang/String" "value" "[B" ≠ Jvm.RoadKit.slotOf Z "java/lang/String" "coder" "B" := slot_ne (a0 := a0) (C := "java/lang/String") (Or.inr (wd_20 hw)) (Or.inr (wd_21 hw)) (by decide) pf_0 pf_1
theorem sn_7 {a0 : Array Value} {Z : State} (hw : ∀ d ∈ tables_1, d.before a0 Z = true) : Jvm.RoadKit.slotOf Z "java/lang/String" "coder" "B" ≠ Jvm.RoadKit.slotOf Z "java/lang/String" "value" "[B" := slot_ne (a0 := a0) (C := "java/lang/String") (Or.inr (wd_21 hw)) (Or.inr (wd_20 hw)) (by decide) pf_1 pf_0
theorem d_jdk_29_method_65_code_0 : decode jdk_29_method_65_code 0 = .ok (.iload_n 0, 1) := by decide +kernel
theorem d_jdk_29_method_65_code_1 : decode jdk_29_method_65_code 1 = .ok (.iload_n 1, 1) := by decide +kernel
theorem d_jdk_29_method_65_code_10 : decode jdk_29_method_65_code 10 = .ok (.ireturn, 1) := by decide +kernel
theorem d_jdk_29_method_65_code_2 : decode jdk_29_method_65_code 2 = .ok (.if_icmp .lt 7, 3) := by decide +kernel
theorem d_jdk_29_method_65_code_9 : decode jdk_29_method_65_code 9 = .ok (.iload_n 1, 1) := by decide +kernel
theorem d_jdk_29_method_69_code_0 : decode jdk_29_method_69_code 0 = .ok (.iload_n 0, 1) := by decide +kernel
theorem d_jdk_29_method_69_code_1 : decode jdk_29_method_69_code 1 = .ok (.iload_n 1, 1) := by decide +kernel
theorem d_jdk_29_method_69_code_10 : decode jdk_29_method_69_code 10 = .ok (.ireturn, 1) := by decide +kernel
theorem d_jdk_29_method_69_code_2 : decode jdk_29_method_69_code 2 = .ok (.if_icmp .gt 7, 3) := by decide +kernel
theorem d_jdk_29_method_69_code_5 : decode jdk_29_method_69_code 5 = .ok (.iload_n 0, 1) := by decide +kernel
theorem d_jdk_29_method_69_code_6 : decode jdk_29_method_69_code 6 = .ok (.goto 4, 3) := by decide +kernel
theorem d_jdk_29_method_69_code_9 : decode jdk_29_method_69_code 9 = .ok (.iload_n 1, 1) := by decide +kernel
theorem d_jdk_41_method_12_code_0 : decode jdk_41_method_12_code 0 = .ok (.iload_n 0, 1) := by decide +kernel
theorem d_jdk_41_method_12_code_1 : decode jdk_41_method_12_code 1 = .ok (.ifCond .lt 13, 3) := by decide +kernel
theorem d_jdk_41_method_12_code_10 : decode jdk_41_method_12_code 10 = .ok (.iload_n 2, 1) := by decide +kernel
theorem d_jdk_41_method_12_code_11 : decode jdk_41_method_12_code 11 = .ok (.if_icmp .le 11, 3) := by decide +kernel
theorem d_jdk_41_method_12_code_22 : decode jdk_41_method_12_code 22 = .ok (.iload_n 0, 1) := by decide +kernel
theorem d_jdk_41_method_12_code_23 : decode jdk_41_method_12_code 23 = .ok (.ireturn, 1) := by decide +kernel
theorem d_jdk_41_method_12_code_4 : decode jdk_41_method_12_code 4 = .ok (.iload_n 0, 1) := by decide +kernel
theorem d_jdk_41_method_12_code_5 : decode jdk_41_method_12_code 5 = .ok (.iload_n 1, 1) := by decide +kernel
theorem d_jdk_41_method_12_code_6 : decode jdk_41_method_12_code 6 = .ok (.if_icmp .gt 8, 3) := by decide +kernel
theorem d_jdk_41_method_12_code_9 : decode jdk_41_method_12_code 9 = .ok (.iload_n 1, 1) := by decide +kernel
theorem d_jdk_42_method_147_code_0 : decode jdk_42_method_147_code 0 = .ok (.aload_n 0, 1) := by decide +kernel
theorem d_jdk_42_method_147_code_1 : decode jdk_42_method_147_code 1 = .ok (.invokevirtual 335, 3) := by decide +kernel
theorem d_jdk_42_method_147_code_12 : decode jdk_42_method_147_code 12 = .ok (.iconst 0, 1) := by decide +kernel
theorem d_jdk_42_method_147_code_13 : decode jdk_42_method_147_code 13 = .ok (.aload_n 1, 1) := by decide +kernel
theorem d_jdk_42_method_147_code_14 : decode jdk_42_method_147_code 14 = .ok (.iload_n 2, 1) := by decide +kernel
theorem d_jdk_42_method_147_code_15 : decode jdk_42_method_147_code 15 = .ok (.iload_n 3, 1) := by decide +kernel
theorem d_jdk_42_method_147_code_16 : decode jdk_42_method_147_code 16 = .ok (.ishl, 1) := by decide +kernel
theorem d_jdk_42_method_147_code_17 : decode jdk_42_method_147_code 17 = .ok (.aload_n 0, 1) := by decide +kernel
theorem d_jdk_42_method_147_code_18 : decode jdk_42_method_147_code 18 = .ok (.getfield 9, 3) := by decide +kernel
theorem d_jdk_42_method_147_code_21 : decode jdk_42_method_147_code 21 = .ok (.arraylength, 1) := by decide +kernel
theorem d_jdk_42_method_147_code_22 : decode jdk_42_method_147_code 22 = .ok (.invokestatic 212, 3) := by decide +kernel
theorem d_jdk_42_method_147_code_25 : decode jdk_42_method_147_code 25 = .ok (.goto 18, 3) := by decide +kernel
theorem d_jdk_42_method_147_code_4 : decode jdk_42_method_147_code 4 = .ok (.iload_n 3, 1) := by decide +kernel
theorem d_jdk_42_method_147_code_43 : decode jdk_42_method_147_code 43 = .ok (.return_, 1) := by decide +kernel
theorem d_jdk_42_method_147_code_5 : decode jdk_42_method_147_code 5 = .ok (.if_icmp .ne 23, 3) := by decide +kernel
theorem d_jdk_42_method_147_code_8 : decode jdk_42_method_147_code 8 = .ok (.aload_n 0, 1) := by decide +kernel
theorem d_jdk_42_method_147_code_9 : decode jdk_42_method_147_code 9 = .ok (.getfield 9, 3) := by decide +kernel
theorem d_jdk_42_method_149_code_0 : decode jdk_42_method_149_code 0 = .ok (.aload_n 0, 1) := by decide +kernel
theorem d_jdk_42_method_149_code_1 : decode jdk_42_method_149_code 1 = .ok (.invokespecial 1, 3) := by decide +kernel
theorem d_jdk_42_method_149_code_11 : decode jdk_42_method_149_code 11 = .ok (.getfield 9, 3) := by decide +kernel
theorem d_jdk_42_method_149_code_14 : decode jdk_42_method_149_code 14 = .ok (.putfield 9, 3) := by decide +kernel
theorem d_jdk_42_method_149_code_17 : decode jdk_42_method_149_code 17 = .ok (.aload_n 0, 1) := by decide +kernel
theorem d_jdk_42_method_149_code_18 : decode jdk_42_method_149_code 18 = .ok (.ldc 7, 2) := by decide +kernel
theorem d_jdk_42_method_149_code_20 : decode jdk_42_method_149_code 20 = .ok (.getfield 15, 3) := by decide +kernel
theorem d_jdk_42_method_149_code_23 : decode jdk_42_method_149_code 23 = .ok (.putfield 15, 3) := by decide +kernel
theorem d_jdk_42_method_149_code_26 : decode jdk_42_method_149_code 26 = .ok (.return_, 1) := by decide +kernel
theorem d_jdk_42_method_149_code_4 : decode jdk_42_method_149_code 4 = .ok (.iload_n 3, 1) := by decide +kernel
theorem d_jdk_42_method_149_code_5 : decode jdk_42_method_149_code 5 = .ok (.ifCond .ne 22, 3) := by decide +kernel
theorem d_jdk_42_method_149_code_8 : decode jdk_42_method_149_code 8 = .ok (.aload_n 0, 1) := by decide +kernel
theorem d_jdk_42_method_149_code_9 : decode jdk_42_method_149_code 9 = .ok (.ldc 7, 2) := by decide +kernel
theorem d_jdk_42_method_150_code_0 : decode jdk_42_method_150_code 0 = .ok (.aload_n 0, 1) := by decide +kernel
theorem d_jdk_42_method_150_code_1 : decode jdk_42_method_150_code 1 = .ok (.invokespecial 1, 3) := by decide +kernel
theorem d_jdk_42_method_150_code_10 : decode jdk_42_method_150_code 10 = .ok (.invokevirtual 549, 3) := by decide +kernel
theorem d_jdk_42_method_150_code_13 : decode jdk_42_method_150_code 13 = .ok (.istore 4, 2) := by decide +kernel
theorem d_jdk_42_method_150_code_15 : decode jdk_42_method_150_code 15 = .ok (.aload_n 1, 1) := by decide +kernel
theorem d_jdk_42_method_150_code_16 : decode jdk_42_method_150_code 16 = .ok (.invokevirtual 1047, 3) := by decide +kernel
theorem d_jdk_42_method_150_code_19 : decode jdk_42_method_150_code 19 = .ok (.ifCond .eq 22, 3) := by decide +kernel
theorem d_jdk_42_method_150_code_22 : decode jdk_42_method_150_code 22 = .ok (.aload_n 0, 1) := by decide +kernel
theorem d_jdk_42_method_150_code_23 : decode jdk_42_method_150_code 23 = .ok (.iconst 0, 1) := by decide +kernel
theorem d_jdk_42_method_150_code_24 : decode jdk_42_method_150_code 24 = .ok (.putfield 15, 3) := by decide +kernel
theorem d_jdk_42_method_150_code_27 : decode jdk_42_method_150_code 27 = .ok (.aload_n 0, 1) := by decide +kernel
theorem d_jdk_42_method_150_code_28 : decode jdk_42_method_150_code 28 = .ok (.aload_n 3, 1) := by decide +kernel
theorem d_jdk_42_method_150_code_29 : decode jdk_42_method_150_code 29 = .ok (.iconst 0, 1) := by decide +kernel
theorem d_jdk_42_method_150_code_30 : decode jdk_42_method_150_code 30 = .ok (.iload 4, 2) := by decide +kernel
theorem d_jdk_42_method_150_code_32 : decode jdk_42_method_150_code 32 = .ok (.invokestatic 54, 3) := by decide +kernel
theorem d_jdk_42_method_150_code_35 : decode jdk_42_method_150_code 35 = .ok (.putfield 9, 3) := by decide +kernel
theorem d_jdk_42_method_150_code_38 : decode jdk_42_method_150_code 38 = .ok (.goto 59, 3) := by decide +kernel
theorem d_jdk_42_method_150_code_4 : decode jdk_42_method_150_code 4 = .ok (.aload_n 1, 1) := by decide +kernel
theorem d_jdk_42_method_150_code_5 : decode jdk_42_method_150_code 5 = .ok (.invokevirtual 552, 3) := by decide +kernel
theorem d_jdk_42_method_150_code_8 : decode jdk_42_method_150_code 8 = .ok (.astore_n 3, 1) := by decide +kernel
theorem d_jdk_42_method_150_code_9 : decode jdk_42_method_150_code 9 = .ok (.aload_n 1, 1) := by decide +kernel
theorem d_jdk_42_method_150_code_97 : decode jdk_42_method_150_code 97 = .ok (.return_, 1) := by decide +kernel
theorem d_jdk_42_method_151_code_0 : decode jdk_42_method_151_code 0 = .ok (.aload_n 0, 1) := by decide +kernel
theorem d_jdk_42_method_151_code_1 : decode jdk_42_method_151_code 1 = .ok (.invokespecial 1, 3) := by decide +kernel
theorem d_jdk_42_method_151_code_10 : decode jdk_42_method_151_code 10 = .ok (.iload_n 2, 1) := by decide +kernel
theorem d_jdk_42_method_151_code_11 : decode jdk_42_method_151_code 11 = .ok (.putfield 15, 3) := by decide +kernel
theorem d_jdk_42_method_151_code_14 : decode jdk_42_method_151_code 14 = .ok (.return_, 1) := by decide +kernel
theorem d_jdk_42_method_151_code_4 : decode jdk_42_method_151_code 4 = .ok (.aload_n 0, 1) := by decide +kernel
theorem d_jdk_42_method_151_code_5 : decode jdk_42_method_151_code 5 = .ok (.aload_n 1, 1) := by decide +kernel
theorem d_jdk_42_method_151_code_6 : decode jdk_42_method_151_code 6 = .ok (.putfield 9, 3) := by decide +kernel
theorem d_jdk_42_method_151_code_9 : decode jdk_42_method_151_code 9 = .ok (.aload_n 0, 1) := by decide +kernel
theorem d_jdk_42_method_152_code_0 : decode jdk_42_method_152_code 0 = .ok (.getstatic 38, 3) := by decide +kernel
theorem d_jdk_42_method_152_code_10 : decode jdk_42_method_152_code 10 = .ok (.goto 4, 3) := by decide +kernel
theorem d_jdk_42_method_152_code_14 : decode jdk_42_method_152_code 14 = .ok (.ireturn, 1) := by decide +kernel
theorem d_jdk_42_method_152_code_3 : decode jdk_42_method_152_code 3 = .ok (.ifCond .eq 10, 3) := by decide +kernel
theorem d_jdk_42_method_152_code_6 : decode jdk_42_method_152_code 6 = .ok (.aload_n 0, 1) := by decide +kernel
theorem d_jdk_42_method_152_code_7 : decode jdk_42_method_152_code 7 = .ok (.getfield 15, 3) := by decide +kernel
theorem d_jdk_42_method_154_code_0 : decode jdk_42_method_154_code 0 = .ok (.getstatic 38, 3) := by decide +kernel
theorem d_jdk_42_method_154_code_10 : decode jdk_42_method_154_code 10 = .ok (.ifCond .ne 7, 3) := by decide +kernel
theorem d_jdk_42_method_154_code_13 : decode jdk_42_method_154_code 13 = .ok (.iconst 1, 1) := by decide +kernel
theorem d_jdk_42_method_154_code_14 : decode jdk_42_method_154_code 14 = .ok (.goto 4, 3) := by decide +kernel
theorem d_jdk_42_method_154_code_18 : decode jdk_42_method_154_code 18 = .ok (.ireturn, 1) := by decide +kernel
theorem d_jdk_42_method_154_code_3 : decode jdk_42_method_154_code 3 = .ok (.ifCond .eq 14, 3) := by decide +kernel
theorem d_jdk_42_method_154_code_6 : decode jdk_42_method_154_code 6 = .ok (.aload_n 0, 1) := by decide +kernel
theorem d_jdk_42_method_154_code_7 : decode jdk_42_method_154_code 7 = .ok (.getfield 15, 3) := by decide +kernel
theorem d_jdk_42_method_158_code_0 : decode jdk_42_method_158_code 0 = .ok (.iload_n 0, 1) := by decide +kernel
theorem d_jdk_42_method_158_code_1 : decode jdk_42_method_158_code 1 = .ok (.iload_n 1, 1) := by decide +kernel
theorem d_jdk_42_method_158_code_10 : decode jdk_42_method_158_code 10 = .ok (.return_, 1) := by decide +kernel
theorem d_jdk_42_method_158_code_2 : decode jdk_42_method_158_code 2 = .ok (.iload_n 2, 1) := by decide +kernel
theorem d_jdk_42_method_158_code_3 : decode jdk_42_method_158_code 3 = .ok (.getstatic 1053, 3) := by decide +kernel
theorem d_jdk_42_method_158_code_6 : decode jdk_42_method_158_code 6 = .ok (.invokestatic 1062, 3) := by decide +kernel
theorem d_jdk_42_method_158_code_9 : decode jdk_42_method_158_code 9 = .ok (.pop, 1) := by decide +kernel
theorem d_jdk_42_method_3_code_0 : decode jdk_42_method_3_code 0 = .ok (.aload_n 0, 1) := by decide +kernel
theorem d_jdk_42_method_3_code_1 : decode jdk_42_method_3_code 1 = .ok (.aload_n 1, 1) := by decide +kernel
theorem d_jdk_42_method_3_code_2 : decode jdk_42_method_3_code 2 = .ok (.iconst 0, 1) := by decide +kernel
theorem d_jdk_42_method_3_code_3 : decode jdk_42_method_3_code 3 = .ok (.aload_n 1, 1) := by decide +kernel
theorem d_jdk_42_method_3_code_4 : decode jdk_42_method_3_code 4 = .ok (.arraylength, 1) := by decide +kernel
theorem d_jdk_42_method_3_code_5 : decode jdk_42_method_3_code 5 = .ok (.aconst_null, 1) := by decide +kernel
theorem d_jdk_42_method_3_code_6 : decode jdk_42_method_3_code 6 = .ok (.invokespecial 27, 3) := by decide +kernel
theorem d_jdk_42_method_3_code_9 : decode jdk_42_method_3_code 9 = .ok (.return_, 1) := by decide +kernel
theorem d_jdk_42_method_53_code_0 : decode jdk_42_method_53_code 0 = .ok (.aload_n 0, 1) := by decide +kernel
theorem d_jdk_42_method_53_code_1 : decode jdk_42_method_53_code 1 = .ok (.aload_n 1, 1) := by decide +kernel
theorem d_jdk_42_method_53_code_2 : decode jdk_42_method_53_code 2 = .ok (.aconst_null, 1) := by decide +kernel
theorem d_jdk_42_method_53_code_3 : decode jdk_42_method_53_code 3 = .ok (.invokespecial 489, 3) := by decide +kernel
theorem d_jdk_42_method_53_code_6 : decode jdk_42_method_53_code 6 = .ok (.return_, 1) := by decide +kernel
theorem d_jdk_42_method_91_code_0 : decode jdk_42_method_91_code 0 = .ok (.aload_n 0, 1) := by decide +kernel
theorem d_jdk_42_method_91_code_1 : decode jdk_42_method_91_code 1 = .ok (.iload_n 1, 1) := by decide +kernel
theorem d_jdk_42_method_91_code_2 : decode jdk_42_method_91_code 2 = .ok (.aload_n 0, 1) := by decide +kernel
theorem d_jdk_42_method_91_code_3 : decode jdk_42_method_91_code 3 = .ok (.invokevirtual 505, 3) := by decide +kernel
theorem d_jdk_42_method_91_code_6 : decode jdk_42_method_91_code 6 = .ok (.invokevirtual 681, 3) := by decide +kernel
theorem d_jdk_42_method_91_code_9 : decode jdk_42_method_91_code 9 = .ok (.areturn, 1) := by decide +kernel
theorem d_jdk_42_method_92_code_0 : decode jdk_42_method_92_code 0 = .ok (.aload_n 0, 1) := by decide +kernel
theorem d_jdk_42_method_92_code_1 : decode jdk_42_method_92_code 1 = .ok (.invokevirtual 505, 3) := by decide +kernel
theorem d_jdk_42_method_92_code_11 : decode jdk_42_method_92_code 11 = .ok (.iload_n 1, 1) := by decide +kernel
theorem d_jdk_42_method_92_code_12 : decode jdk_42_method_92_code 12 = .ok (.ifCond .ne 10, 3) := by decide +kernel
theorem d_jdk_42_method_92_code_22 : decode jdk_42_method_92_code 22 = .ok (.iload_n 2, 1) := by decide +kernel
theorem d_jdk_42_method_92_code_23 : decode jdk_42_method_92_code 23 = .ok (.iload_n 1, 1) := by decide +kernel
theorem d_jdk_42_method_92_code_24 : decode jdk_42_method_92_code 24 = .ok (.isub, 1) := by decide +kernel
theorem d_jdk_42_method_92_code_25 : decode jdk_42_method_92_code 25 = .ok (.istore 4, 2) := by decide +kernel
theorem d_jdk_42_method_92_code_27 : decode jdk_42_method_92_code 27 = .ok (.aload_n 0, 1) := by decide +kernel
theorem d_jdk_42_method_92_code_28 : decode jdk_42_method_92_code 28 = .ok (.invokevirtual 492, 3) := by decide +kernel
theorem d_jdk_42_method_92_code_31 : decode jdk_42_method_92_code 31 = .ok (.ifCond .eq 16, 3) := by decide +kernel
theorem d_jdk_42_method_92_code_34 : decode jdk_42_method_92_code 34 = .ok (.aload_n 0, 1) := by decide +kernel
theorem d_jdk_42_method_92_code_35 : decode jdk_42_method_92_code 35 = .ok (.getfield 9, 3) := by decide +kernel
theorem d_jdk_42_method_92_code_38 : decode jdk_42_method_92_code 38 = .ok (.iload_n 1, 1) := by decide +kernel
theorem d_jdk_42_method_92_code_39 : decode jdk_42_method_92_code 39 = .ok (.iload 4, 2) := by decide +kernel
theorem d_jdk_42_method_92_code_4 : decode jdk_42_method_92_code 4 = .ok (.istore_n 3, 1) := by decide +kernel
theorem d_jdk_42_method_92_code_41 : decode jdk_42_method_92_code 41 = .ok (.invokestatic 685, 3) := by decide +kernel
theorem d_jdk_42_method_92_code_44 : decode jdk_42_method_92_code 44 = .ok (.goto 13, 3) := by decide +kernel
theorem d_jdk_42_method_92_code_5 : decode jdk_42_method_92_code 5 = .ok (.iload_n 1, 1) := by decide +kernel
theorem d_jdk_42_method_92_code_57 : decode jdk_42_method_92_code 57 = .ok (.areturn, 1) := by decide +kernel
theorem d_jdk_42_method_92_code_6 : decode jdk_42_method_92_code 6 = .ok (.iload_n 2, 1) := by decide +kernel
theorem d_jdk_42_method_92_code_7 : decode jdk_42_method_92_code 7 = .ok (.iload_n 3, 1) := by decide +kernel
theorem d_jdk_42_method_92_code_8 : decode jdk_42_method_92_code 8 = .ok (.invokestatic 521, 3) := by decide +kernel
theorem d_jdk_43_method_47_code_0 : decode jdk_43_method_47_code 0 = .ok (.iload_n 2, 1) := by decide +kernel
theorem d_jdk_43_method_47_code_1 : decode jdk_43_method_47_code 1 = .ok (.ifCond .ne 6, 3) := by decide +kernel
theorem d_jdk_43_method_47_code_10 : decode jdk_43_method_47_code 10 = .ok (.dup, 1) := by decide +kernel
theorem d_jdk_43_method_47_code_11 : decode jdk_43_method_47_code 11 = .ok (.aload_n 0, 1) := by decide +kernel
theorem d_jdk_43_method_47_code_12 : decode jdk_43_method_47_code 12 = .ok (.iload_n 1, 1) := by decide +kernel
theorem d_jdk_43_method_47_code_13 : decode jdk_43_method_47_code 13 = .ok (.iload_n 1, 1) := by decide +kernel
theorem d_jdk_43_method_47_code_14 : decode jdk_43_method_47_code 14 = .ok (.iload_n 2, 1) := by decide +kernel
theorem d_jdk_43_method_47_code_15 : decode jdk_43_method_47_code 15 = .ok (.iadd, 1) := by decide +kernel
theorem d_jdk_43_method_47_code_16 : decode jdk_43_method_47_code 16 = .ok (.invokestatic 232, 3) := by decide +kernel
theorem d_jdk_43_method_47_code_19 : decode jdk_43_method_47_code 19 = .ok (.iconst 0, 1) := by decide +kernel
theorem d_jdk_43_method_47_code_20 : decode jdk_43_method_47_code 20 = .ok (.invokespecial 112, 3) := by decide +kernel
theorem d_jdk_43_method_47_code_23 : decode jdk_43_method_47_code 23 = .ok (.areturn, 1) := by decide +kernel
theorem d_jdk_43_method_47_code_4 : decode jdk_43_method_47_code 4 = .ok (.ldc 151, 2) := by decide +kernel
theorem d_jdk_43_method_47_code_6 : decode jdk_43_method_47_code 6 = .ok (.areturn, 1) := by decide +kernel
theorem d_jdk_43_method_47_code_7 : decode jdk_43_method_47_code 7 = .ok (.new 1, 3) := by decide +kernel
theorem d_jdk_48_method_27_code_0 : decode jdk_48_method_27_code 0 = .ok (.iload_n 0, 1) := by decide +kernel
theorem d_jdk_48_method_27_code_1 : decode jdk_48_method_27_code 1 = .ok (.iload_n 1, 1) := by decide +kernel
theorem d_jdk_48_method_27_code_10 : decode jdk_48_method_27_code 10 = .ok (.if_icmp .ge 11, 3) := by decide +kernel
theorem d_jdk_48_method_27_code_13 : decode jdk_48_method_27_code 13 = .ok (.iload_n 3, 1) := by decide +kernel
theorem d_jdk_48_method_27_code_14 : decode jdk_48_method_27_code 14 = .ok (.ldc 200, 2) := by decide +kernel
theorem d_jdk_48_method_27_code_16 : decode jdk_48_method_27_code 16 = .ok (.if_icmp .gt 5, 3) := by decide +kernel
theorem d_jdk_48_method_27_code_19 : decode jdk_48_method_27_code 19 = .ok (.iload_n 3, 1) := by decide +kernel
theorem d_jdk_48_method_27_code_2 : decode jdk_48_method_27_code 2 = .ok (.iload_n 2, 1) := by decide +kernel
theorem d_jdk_48_method_27_code_20 : decode jdk_48_method_27_code 20 = .ok (.ireturn, 1) := by decide +kernel
theorem d_jdk_48_method_27_code_3 : decode jdk_48_method_27_code 3 = .ok (.invokestatic 194, 3) := by decide +kernel
theorem d_jdk_48_method_27_code_6 : decode jdk_48_method_27_code 6 = .ok (.iadd, 1) := by decide +kernel
theorem d_jdk_48_method_27_code_7 : decode jdk_48_method_27_code 7 = .ok (.istore_n 3, 1) := by decide +kernel
theorem d_jdk_48_method_27_code_8 : decode jdk_48_method_27_code 8 = .ok (.iconst 0, 1) := by decide +kernel
theorem d_jdk_48_method_27_code_9 : decode jdk_48_method_27_code 9 = .ok (.iload_n 3, 1) := by decide +kernel
theorem d_jdk_65_method_121_code_0 : decode jdk_65_method_121_code 0 = .ok (.iload_n 1, 1) := by decide +kernel
theorem d_jdk_65_method_121_code_1 : decode jdk_65_method_121_code 1 = .ok (.aload_n 0, 1) := by decide +kernel
theorem d_jdk_65_method_121_code_14 : decode jdk_65_method_121_code 14 = .ok (.iload_n 1, 1) := by decide +kernel
theorem d_jdk_65_method_121_code_15 : decode jdk_65_method_121_code 15 = .ok (.newarray .byte, 2) := by decide +kernel
theorem d_jdk_65_method_121_code_17 : decode jdk_65_method_121_code 17 = .ok (.astore_n 2, 1) := by decide +kernel
theorem d_jdk_65_method_121_code_18 : decode jdk_65_method_121_code 18 = .ok (.aload_n 0, 1) := by decide +kernel
theorem d_jdk_65_method_121_code_19 : decode jdk_65_method_121_code 19 = .ok (.iconst 0, 1) := by decide +kernel
theorem d_jdk_65_method_121_code_2 : decode jdk_65_method_121_code 2 = .ok (.arraylength, 1) := by decide +kernel
theorem d_jdk_65_method_121_code_20 : decode jdk_65_method_121_code 20 = .ok (.aload_n 2, 1) := by decide +kernel
theorem d_jdk_65_method_121_code_21 : decode jdk_65_method_121_code 21 = .ok (.iconst 0, 1) := by decide +kernel
theorem d_jdk_65_method_121_code_22 : decode jdk_65_method_121_code 22 = .ok (.aload_n 0, 1) := by decide +kernel
theorem d_jdk_65_method_121_code_23 : decode jdk_65_method_121_code 23 = .ok (.arraylength, 1) := by decide +kernel
theorem d_jdk_65_method_121_code_24 : decode jdk_65_method_121_code 24 = .ok (.iload_n 1, 1) := by decide +kernel
theorem d_jdk_65_method_121_code_25 : decode jdk_65_method_121_code 25 = .ok (.invokestatic 304, 3) := by decide +kernel
theorem d_jdk_65_method_121_code_28 : decode jdk_65_method_121_code 28 = .ok (.invokestatic 150, 3) := by decide +kernel
theorem d_jdk_65_method_121_code_3 : decode jdk_65_method_121_code 3 = .ok (.if_icmp .ne 11, 3) := by decide +kernel
theorem d_jdk_65_method_121_code_31 : decode jdk_65_method_121_code 31 = .ok (.aload_n 2, 1) := by decide +kernel
theorem d_jdk_65_method_121_code_32 : decode jdk_65_method_121_code 32 = .ok (.areturn, 1) := by decide +kernel
theorem d_jdk_65_method_131_code_0 : decode jdk_65_method_131_code 0 = .ok (.iload_n 1, 1) := by decide +kernel
theorem d_jdk_65_method_131_code_1 : decode jdk_65_method_131_code 1 = .ok (.iload_n 0, 1) := by decide +kernel
theorem d_jdk_65_method_131_code_2 : decode jdk_65_method_131_code 2 = .ok (.if_icmp .ge 35, 3) := by decide +kernel
theorem d_jdk_65_method_131_code_37 : decode jdk_65_method_131_code 37 = .ok (.return_, 1) := by decide +kernel
theorem d_jdk_65_method_132_code_0 : decode jdk_65_method_132_code 0 = .ok (.iload_n 1, 1) := by decide +kernel
theorem d_jdk_65_method_132_code_1 : decode jdk_65_method_132_code 1 = .ok (.ifCond .ne 9, 3) := by decide +kernel
theorem d_jdk_65_method_132_code_10 : decode jdk_65_method_132_code 10 = .ok (.aload_n 0, 1) := by decide +kernel
theorem d_jdk_65_method_132_code_11 : decode jdk_65_method_132_code 11 = .ok (.iload_n 1, 1) := by decide +kernel
theorem d_jdk_65_method_132_code_12 : decode jdk_65_method_132_code 12 = .ok (.iload_n 2, 1) := by decide +kernel
theorem d_jdk_65_method_132_code_13 : decode jdk_65_method_132_code 13 = .ok (.invokestatic 339, 3) := by decide +kernel
theorem d_jdk_65_method_132_code_16 : decode jdk_65_method_132_code 16 = .ok (.areturn, 1) := by decide +kernel
theorem d_jdk_65_method_132_code_17 : decode jdk_65_method_132_code 17 = .ok (.aload_n 0, 1) := by decide +kernel
theorem d_jdk_65_method_132_code_18 : decode jdk_65_method_132_code 18 = .ok (.invokevirtual 310, 3) := by decide +kernel
theorem d_jdk_65_method_132_code_21 : decode jdk_65_method_132_code 21 = .ok (.checkcast 311, 3) := by decide +kernel
theorem d_jdk_65_method_132_code_24 : decode jdk_65_method_132_code 24 = .ok (.areturn, 1) := by decide +kernel
theorem d_jdk_65_method_132_code_4 : decode jdk_65_method_132_code 4 = .ok (.iload_n 2, 1) := by decide +kernel
theorem d_jdk_65_method_132_code_5 : decode jdk_65_method_132_code 5 = .ok (.aload_n 0, 1) := by decide +kernel
theorem d_jdk_65_method_132_code_6 : decode jdk_65_method_132_code 6 = .ok (.arraylength, 1) := by decide +kernel
theorem d_jdk_65_method_132_code_7 : decode jdk_65_method_132_code 7 = .ok (.if_icmp .eq 10, 3) := by decide +kernel
theorem d_jdk_65_method_133_code_0 : decode jdk_65_method_133_code 0 = .ok (.iload_n 1, 1) := by decide +kernel
theorem d_jdk_65_method_133_code_1 : decode jdk_65_method_133_code 1 = .ok (.iload_n 2, 1) := by decide +kernel
theorem d_jdk_65_method_133_code_10 : decode jdk_65_method_133_code 10 = .ok (.newarray .byte, 2) := by decide +kernel
theorem d_jdk_65_method_133_code_12 : decode jdk_65_method_133_code 12 = .ok (.astore 4, 2) := by decide +kernel
theorem d_jdk_65_method_133_code_14 : decode jdk_65_method_133_code 14 = .ok (.aload_n 0, 1) := by decide +kernel
theorem d_jdk_65_method_133_code_15 : decode jdk_65_method_133_code 15 = .ok (.iload_n 1, 1) := by decide +kernel
theorem d_jdk_65_method_133_code_16 : decode jdk_65_method_133_code 16 = .ok (.aload 4, 2) := by decide +kernel
theorem d_jdk_65_method_133_code_18 : decode jdk_65_method_133_code 18 = .ok (.iconst 0, 1) := by decide +kernel
theorem d_jdk_65_method_133_code_19 : decode jdk_65_method_133_code 19 = .ok (.aload_n 0, 1) := by decide +kernel
theorem d_jdk_65_method_133_code_2 : decode jdk_65_method_133_code 2 = .ok (.invokestatic 343, 3) := by decide +kernel
theorem d_jdk_65_method_133_code_20 : decode jdk_65_method_133_code 20 = .ok (.arraylength, 1) := by decide +kernel
theorem d_jdk_65_method_133_code_21 : decode jdk_65_method_133_code 21 = .ok (.iload_n 1, 1) := by decide +kernel
theorem d_jdk_65_method_133_code_22 : decode jdk_65_method_133_code 22 = .ok (.isub, 1) := by decide +kernel
theorem d_jdk_65_method_133_code_23 : decode jdk_65_method_133_code 23 = .ok (.iload_n 3, 1) := by decide +kernel
theorem d_jdk_65_method_133_code_24 : decode jdk_65_method_133_code 24 = .ok (.invokestatic 304, 3) := by decide +kernel
theorem d_jdk_65_method_133_code_27 : decode jdk_65_method_133_code 27 = .ok (.invokestatic 150, 3) := by decide +kernel
theorem d_jdk_65_method_133_code_30 : decode jdk_65_method_133_code 30 = .ok (.aload 4, 2) := by decide +kernel
theorem d_jdk_65_method_133_code_32 : decode jdk_65_method_133_code 32 = .ok (.areturn, 1) := by decide +kernel
theorem d_jdk_65_method_133_code_5 : decode jdk_65_method_133_code 5 = .ok (.iload_n 2, 1) := by decide +kernel
theorem d_jdk_65_method_133_code_6 : decode jdk_65_method_133_code 6 = .ok (.iload_n 1, 1) := by decide +kernel
theorem d_jdk_65_method_133_code_7 : decode jdk_65_method_133_code 7 = .ok (.isub, 1) := by decide +kernel
theorem d_jdk_65_method_133_code_8 : decode jdk_65_method_133_code 8 = .ok (.istore_n 3, 1) := by decide +kernel
theorem d_jdk_65_method_133_code_9 : decode jdk_65_method_133_code 9 = .ok (.iload_n 3, 1) := by decide +kernel
theorem d_jdk_67_method_1_code_0 : decode jdk_67_method_1_code 0 = .ok (.aload_n 0, 1) := by decide +kernel
theorem d_jdk_67_method_1_code_1 : decode jdk_67_method_1_code 1 = .ok (.bipush 16, 2) := by decide +kernel
theorem d_jdk_67_method_1_code_3 : decode jdk_67_method_1_code 3 = .ok (.invokespecial 1, 3) := by decide +kernel
theorem d_jdk_67_method_1_code_6 : decode jdk_67_method_1_code 6 = .ok (.return_, 1) := by decide +kernel
theorem d_jdk_67_method_42_code_0 : decode jdk_67_method_42_code 0 = .ok (.new 18, 3) := by decide +kernel
theorem d_jdk_67_method_42_code_3 : decode jdk_67_method_42_code 3 = .ok (.dup, 1) := by decide +kernel
theorem d_jdk_67_method_42_code_4 : decode jdk_67_method_42_code 4 = .ok (.aload_n 0, 1) := by decide +kernel
theorem d_jdk_67_method_42_code_5 : decode jdk_67_method_42_code 5 = .ok (.invokespecial 137, 3) := by decide +kernel
theorem d_jdk_67_method_42_code_8 : decode jdk_67_method_42_code 8 = .ok (.areturn, 1) := by decide +kernel
theorem d_jdk_67_method_7_code_0 : decode jdk_67_method_7_code 0 = .ok (.aload_n 0, 1) := by decide +kernel
theorem d_jdk_67_method_7_code_1 : decode jdk_67_method_7_code 1 = .ok (.aload_n 1, 1) := by decide +kernel
theorem d_jdk_67_method_7_code_2 : decode jdk_67_method_7_code 2 = .ok (.invokespecial 29, 3) := by decide +kernel
theorem d_jdk_67_method_7_code_5 : decode jdk_67_method_7_code 5 = .ok (.pop, 1) := by decide +kernel
theorem d_jdk_67_method_7_code_6 : decode jdk_67_method_7_code 6 = .ok (.aload_n 0, 1) := by decide +kernel
theorem d_jdk_67_method_7_code_7 : decode jdk_67_method_7_code 7 = .ok (.areturn, 1) := by decide +kernel
theorem d_jdk_67_method_93_code_0 : decode jdk_67_method_93_code 0 = .ok (.aload_n 0, 1) := by decide +kernel
theorem d_jdk_67_method_93_code_1 : decode jdk_67_method_93_code 1 = .ok (.invokespecial 343, 3) := by decide +kernel
theorem d_jdk_67_method_93_code_4 : decode jdk_67_method_93_code 4 = .ok (.ireturn, 1) := by decide +kernel
theorem d_jdk_68_method_10_code_0 : decode jdk_68_method_10_code 0 = .ok (.aload_n 0, 1) := by decide +kernel
theorem d_jdk_68_method_10_code_1 : decode jdk_68_method_10_code 1 = .ok (.getfield 15, 3) := by decide +kernel
theorem d_jdk_68_method_10_code_11 : decode jdk_68_method_10_code 11 = .ok (.ishl, 1) := by decide +kernel
theorem d_jdk_68_method_10_code_12 : decode jdk_68_method_10_code 12 = .ok (.istore_n 3, 1) := by decide +kernel
theorem d_jdk_68_method_10_code_13 : decode jdk_68_method_10_code 13 = .ok (.iload_n 3, 1) := by decide +kernel
theorem d_jdk_68_method_10_code_14 : decode jdk_68_method_10_code 14 = .ok (.iload_n 2, 1) := by decide +kernel
theorem d_jdk_68_method_10_code_15 : decode jdk_68_method_10_code 15 = .ok (.isub, 1) := by decide +kernel
theorem d_jdk_68_method_10_code_16 : decode jdk_68_method_10_code 16 = .ok (.istore 4, 2) := by decide +kernel
theorem d_jdk_68_method_10_code_18 : decode jdk_68_method_10_code 18 = .ok (.iload_n 2, 1) := by decide +kernel
theorem d_jdk_68_method_10_code_19 : decode jdk_68_method_10_code 19 = .ok (.iload 4, 2) := by decide +kernel
theorem d_jdk_68_method_10_code_21 : decode jdk_68_method_10_code 21 = .ok (.iload_n 2, 1) := by decide +kernel
theorem d_jdk_68_method_10_code_22 : decode jdk_68_method_10_code 22 = .ok (.iconst 2, 1) := by decide +kernel
theorem d_jdk_68_method_10_code_23 : decode jdk_68_method_10_code 23 = .ok (.aload_n 0, 1) := by decide +kernel
theorem d_jdk_68_method_10_code_24 : decode jdk_68_method_10_code 24 = .ok (.getfield 22, 3) := by decide +kernel
theorem d_jdk_68_method_10_code_27 : decode jdk_68_method_10_code 27 = .ok (.ishl, 1) := by decide +kernel
theorem d_jdk_68_method_10_code_28 : decode jdk_68_method_10_code 28 = .ok (.iadd, 1) := by decide +kernel
theorem d_jdk_68_method_10_code_29 : decode jdk_68_method_10_code 29 = .ok (.invokestatic 114, 3) := by decide +kernel
theorem d_jdk_68_method_10_code_32 : decode jdk_68_method_10_code 32 = .ok (.istore 5, 2) := by decide +kernel
theorem d_jdk_68_method_10_code_34 : decode jdk_68_method_10_code 34 = .ok (.iload 5, 2) := by decide +kernel
theorem d_jdk_68_method_10_code_36 : decode jdk_68_method_10_code 36 = .ok (.ldc 39, 2) := by decide +kernel
theorem d_jdk_68_method_10_code_38 : decode jdk_68_method_10_code 38 = .ok (.if_icmp .ne 13, 3) := by decide +kernel
theorem d_jdk_68_method_10_code_4 : decode jdk_68_method_10_code 4 = .ok (.arraylength, 1) := by decide +kernel
theorem d_jdk_68_method_10_code_5 : decode jdk_68_method_10_code 5 = .ok (.istore_n 2, 1) := by decide +kernel
theorem d_jdk_68_method_10_code_51 : decode jdk_68_method_10_code 51 = .ok (.iload 5, 2) := by decide +kernel
theorem d_jdk_68_method_10_code_53 : decode jdk_68_method_10_code 53 = .ok (.aload_n 0, 1) := by decide +kernel
theorem d_jdk_68_method_10_code_54 : decode jdk_68_method_10_code 54 = .ok (.getfield 22, 3) := by decide +kernel
theorem d_jdk_68_method_10_code_57 : decode jdk_68_method_10_code 57 = .ok (.ishr, 1) := by decide +kernel
theorem d_jdk_68_method_10_code_58 : decode jdk_68_method_10_code 58 = .ok (.ireturn, 1) := by decide +kernel
theorem d_jdk_68_method_10_code_6 : decode jdk_68_method_10_code 6 = .ok (.iload_n 1, 1) := by decide +kernel
theorem d_jdk_68_method_10_code_7 : decode jdk_68_method_10_code 7 = .ok (.aload_n 0, 1) := by decide +kernel
theorem d_jdk_68_method_10_code_8 : decode jdk_68_method_10_code 8 = .ok (.getfield 22, 3) := by decide +kernel
theorem d_jdk_68_method_22_code_0 : decode jdk_68_method_22_code 0 = .ok (.aload_n 1, 1) := by decide +kernel
theorem d_jdk_68_method_22_code_1 : decode jdk_68_method_22_code 1 = .ok (.ifnonnull 8, 3) := by decide +kernel
theorem d_jdk_68_method_22_code_10 : decode jdk_68_method_22_code 10 = .ok (.invokevirtual 32, 3) := by decide +kernel
theorem d_jdk_68_method_22_code_13 : decode jdk_68_method_22_code 13 = .ok (.istore_n 2, 1) := by decide +kernel
theorem d_jdk_68_method_22_code_14 : decode jdk_68_method_22_code 14 = .ok (.aload_n 0, 1) := by decide +kernel
theorem d_jdk_68_method_22_code_15 : decode jdk_68_method_22_code 15 = .ok (.aload_n 0, 1) := by decide +kernel
theorem d_jdk_68_method_22_code_16 : decode jdk_68_method_22_code 16 = .ok (.getfield 79, 3) := by decide +kernel
theorem d_jdk_68_method_22_code_19 : decode jdk_68_method_22_code 19 = .ok (.iload_n 2, 1) := by decide +kernel
theorem d_jdk_68_method_22_code_20 : decode jdk_68_method_22_code 20 = .ok (.iadd, 1) := by decide +kernel
theorem d_jdk_68_method_22_code_21 : decode jdk_68_method_22_code 21 = .ok (.invokevirtual 100, 3) := by decide +kernel
theorem d_jdk_68_method_22_code_24 : decode jdk_68_method_22_code 24 = .ok (.aload_n 0, 1) := by decide +kernel
theorem d_jdk_68_method_22_code_25 : decode jdk_68_method_22_code 25 = .ok (.aload_n 0, 1) := by decide +kernel
theorem d_jdk_68_method_22_code_26 : decode jdk_68_method_22_code 26 = .ok (.getfield 79, 3) := by decide +kernel
theorem d_jdk_68_method_22_code_29 : decode jdk_68_method_22_code 29 = .ok (.aload_n 1, 1) := by decide +kernel
theorem d_jdk_68_method_22_code_30 : decode jdk_68_method_22_code 30 = .ok (.invokevirtual 208, 3) := by decide +kernel
theorem d_jdk_68_method_22_code_33 : decode jdk_68_method_22_code 33 = .ok (.aload_n 0, 1) := by decide +kernel
theorem d_jdk_68_method_22_code_34 : decode jdk_68_method_22_code 34 = .ok (.dup, 1) := by decide +kernel
theorem d_jdk_68_method_22_code_35 : decode jdk_68_method_22_code 35 = .ok (.getfield 79, 3) := by decide +kernel
theorem d_jdk_68_method_22_code_38 : decode jdk_68_method_22_code 38 = .ok (.iload_n 2, 1) := by decide +kernel
theorem d_jdk_68_method_22_code_39 : decode jdk_68_method_22_code 39 = .ok (.iadd, 1) := by decide +kernel
theorem d_jdk_68_method_22_code_40 : decode jdk_68_method_22_code 40 = .ok (.putfield 79, 3) := by decide +kernel
theorem d_jdk_68_method_22_code_43 : decode jdk_68_method_22_code 43 = .ok (.aload_n 0, 1) := by decide +kernel
theorem d_jdk_68_method_22_code_44 : decode jdk_68_method_22_code 44 = .ok (.areturn, 1) := by decide +kernel
theorem d_jdk_68_method_22_code_9 : decode jdk_68_method_22_code 9 = .ok (.aload_n 1, 1) := by decide +kernel
theorem d_jdk_68_method_2_code_0 : decode jdk_68_method_2_code 0 = .ok (.aload_n 0, 1) := by decide +kernel
theorem d_jdk_68_method_2_code_1 : decode jdk_68_method_2_code 1 = .ok (.invokespecial 3, 3) := by decide +kernel
theorem d_jdk_68_method_2_code_10 : decode jdk_68_method_2_code 10 = .ok (.aload_n 0, 1) := by decide +kernel
theorem d_jdk_68_method_2_code_11 : decode jdk_68_method_2_code 11 = .ok (.iload_n 1, 1) := by decide +kernel
theorem d_jdk_68_method_2_code_12 : decode jdk_68_method_2_code 12 = .ok (.newarray .byte, 2) := by decide +kernel
theorem d_jdk_68_method_2_code_14 : decode jdk_68_method_2_code 14 = .ok (.putfield 15, 3) := by decide +kernel
theorem d_jdk_68_method_2_code_17 : decode jdk_68_method_2_code 17 = .ok (.aload_n 0, 1) := by decide +kernel
theorem d_jdk_68_method_2_code_18 : decode jdk_68_method_2_code 18 = .ok (.iconst 0, 1) := by decide +kernel
theorem d_jdk_68_method_2_code_19 : decode jdk_68_method_2_code 19 = .ok (.putfield 22, 3) := by decide +kernel
theorem d_jdk_68_method_2_code_22 : decode jdk_68_method_2_code 22 = .ok (.goto 16, 3) := by decide +kernel
theorem d_jdk_68_method_2_code_38 : decode jdk_68_method_2_code 38 = .ok (.return_, 1) := by decide +kernel
theorem d_jdk_68_method_2_code_4 : decode jdk_68_method_2_code 4 = .ok (.getstatic 18, 3) := by decide +kernel
theorem d_jdk_68_method_2_code_7 : decode jdk_68_method_2_code 7 = .ok (.ifCond .eq 18, 3) := by decide +kernel
theorem d_jdk_68_method_64_code_0 : decode jdk_68_method_64_code 0 = .ok (.aload_n 0, 1) := by decide +kernel
theorem d_jdk_68_method_64_code_1 : decode jdk_68_method_64_code 1 = .ok (.getfield 15, 3) := by decide +kernel
theorem d_jdk_68_method_64_code_4 : decode jdk_68_method_64_code 4 = .ok (.areturn, 1) := by decide +kernel
theorem d_jdk_68_method_68_code_0 : decode jdk_68_method_68_code 0 = .ok (.getstatic 18, 3) := by decide +kernel
theorem d_jdk_68_method_68_code_10 : decode jdk_68_method_68_code 10 = .ok (.ifCond .ne 7, 3) := by decide +kernel
theorem d_jdk_68_method_68_code_13 : decode jdk_68_method_68_code 13 = .ok (.iconst 1, 1) := by decide +kernel
theorem d_jdk_68_method_68_code_14 : decode jdk_68_method_68_code 14 = .ok (.goto 4, 3) := by decide +kernel
theorem d_jdk_68_method_68_code_18 : decode jdk_68_method_68_code 18 = .ok (.ireturn, 1) := by decide +kernel
theorem d_jdk_68_method_68_code_3 : decode jdk_68_method_68_code 3 = .ok (.ifCond .eq 14, 3) := by decide +kernel
theorem d_jdk_68_method_68_code_6 : decode jdk_68_method_68_code 6 = .ok (.aload_n 0, 1) := by decide +kernel
theorem d_jdk_68_method_68_code_7 : decode jdk_68_method_68_code 7 = .ok (.getfield 22, 3) := by decide +kernel
theorem d_jdk_68_method_6_code_0 : decode jdk_68_method_6_code 0 = .ok (.aload_n 0, 1) := by decide +kernel
theorem d_jdk_68_method_6_code_1 : decode jdk_68_method_6_code 1 = .ok (.getfield 79, 3) := by decide +kernel
theorem d_jdk_68_method_6_code_4 : decode jdk_68_method_6_code 4 = .ok (.ireturn, 1) := by decide +kernel
theorem d_jdk_68_method_71_code_0 : decode jdk_68_method_71_code 0 = .ok (.getstatic 18, 3) := by decide +kernel
theorem d_jdk_68_method_71_code_10 : decode jdk_68_method_71_code 10 = .ok (.aload_n 1, 1) := by decide +kernel
theorem d_jdk_68_method_71_code_11 : decode jdk_68_method_71_code 11 = .ok (.invokevirtual 40, 3) := by decide +kernel
theorem d_jdk_68_method_71_code_14 : decode jdk_68_method_71_code 14 = .ok (.if_icmp .eq 7, 3) := by decide +kernel
theorem d_jdk_68_method_71_code_21 : decode jdk_68_method_71_code 21 = .ok (.return_, 1) := by decide +kernel
theorem d_jdk_68_method_71_code_3 : decode jdk_68_method_71_code 3 = .ok (.ifCond .eq 18, 3) := by decide +kernel
theorem d_jdk_68_method_71_code_6 : decode jdk_68_method_71_code 6 = .ok (.aload_n 0, 1) := by decide +kernel
theorem d_jdk_68_method_71_code_7 : decode jdk_68_method_71_code 7 = .ok (.getfield 22, 3) := by decide +kernel
theorem d_jdk_68_method_73_code_0 : decode jdk_68_method_73_code 0 = .ok (.aload_n 0, 1) := by decide +kernel
theorem d_jdk_68_method_73_code_1 : decode jdk_68_method_73_code 1 = .ok (.aload_n 2, 1) := by decide +kernel
theorem d_jdk_68_method_73_code_10 : decode jdk_68_method_73_code 10 = .ok (.iload_n 1, 1) := by decide +kernel
theorem d_jdk_68_method_73_code_11 : decode jdk_68_method_73_code 11 = .ok (.aload_n 0, 1) := by decide +kernel
theorem d_jdk_68_method_73_code_12 : decode jdk_68_method_73_code 12 = .ok (.getfield 22, 3) := by decide +kernel
theorem d_jdk_68_method_73_code_15 : decode jdk_68_method_73_code 15 = .ok (.invokevirtual 399, 3) := by decide +kernel
theorem d_jdk_68_method_73_code_18 : decode jdk_68_method_73_code 18 = .ok (.return_, 1) := by decide +kernel
theorem d_jdk_68_method_73_code_2 : decode jdk_68_method_73_code 2 = .ok (.invokevirtual 397, 3) := by decide +kernel
theorem d_jdk_68_method_73_code_5 : decode jdk_68_method_73_code 5 = .ok (.aload_n 2, 1) := by decide +kernel
theorem d_jdk_68_method_73_code_6 : decode jdk_68_method_73_code 6 = .ok (.aload_n 0, 1) := by decide +kernel
theorem d_jdk_68_method_73_code_7 : decode jdk_68_method_73_code 7 = .ok (.getfield 15, 3) := by decide +kernel
theorem d_jdk_68_method_9_code_0 : decode jdk_68_method_9_code 0 = .ok (.aload_n 0, 1) := by decide +kernel
theorem d_jdk_68_method_9_code_1 : decode jdk_68_method_9_code 1 = .ok (.getfield 15, 3) := by decide +kernel
theorem d_jdk_68_method_9_code_10 : decode jdk_68_method_9_code 10 = .ok (.istore_n 2, 1) := by decide +kernel
theorem d_jdk_68_method_9_code_11 : decode jdk_68_method_9_code 11 = .ok (.iload_n 1, 1) := by decide +kernel
theorem d_jdk_68_method_9_code_12 : decode jdk_68_method_9_code 12 = .ok (.iload_n 2, 1) := by decide +kernel
theorem d_jdk_68_method_9_code_13 : decode jdk_68_method_9_code 13 = .ok (.isub, 1) := by decide +kernel
theorem d_jdk_68_method_9_code_14 : decode jdk_68_method_9_code 14 = .ok (.ifCond .le 24, 3) := by decide +kernel
theorem d_jdk_68_method_9_code_17 : decode jdk_68_method_9_code 17 = .ok (.aload_n 0, 1) := by decide +kernel
theorem d_jdk_68_method_9_code_18 : decode jdk_68_method_9_code 18 = .ok (.aload_n 0, 1) := by decide +kernel
theorem d_jdk_68_method_9_code_19 : decode jdk_68_method_9_code 19 = .ok (.getfield 15, 3) := by decide +kernel
theorem d_jdk_68_method_9_code_22 : decode jdk_68_method_9_code 22 = .ok (.aload_n 0, 1) := by decide +kernel
theorem d_jdk_68_method_9_code_23 : decode jdk_68_method_9_code 23 = .ok (.iload_n 1, 1) := by decide +kernel
theorem d_jdk_68_method_9_code_24 : decode jdk_68_method_9_code 24 = .ok (.invokevirtual 104, 3) := by decide +kernel
theorem d_jdk_68_method_9_code_27 : decode jdk_68_method_9_code 27 = .ok (.aload_n 0, 1) := by decide +kernel
theorem d_jdk_68_method_9_code_28 : decode jdk_68_method_9_code 28 = .ok (.getfield 22, 3) := by decide +kernel
theorem d_jdk_68_method_9_code_31 : decode jdk_68_method_9_code 31 = .ok (.ishl, 1) := by decide +kernel
theorem d_jdk_68_method_9_code_32 : decode jdk_68_method_9_code 32 = .ok (.invokestatic 108, 3) := by decide +kernel
theorem d_jdk_68_method_9_code_35 : decode jdk_68_method_9_code 35 = .ok (.putfield 15, 3) := by decide +kernel
theorem d_jdk_68_method_9_code_38 : decode jdk_68_method_9_code 38 = .ok (.return_, 1) := by decide +kernel
theorem d_jdk_68_method_9_code_4 : decode jdk_68_method_9_code 4 = .ok (.arraylength, 1) := by decide +kernel
theorem d_jdk_68_method_9_code_5 : decode jdk_68_method_9_code 5 = .ok (.aload_n 0, 1) := by decide +kernel
theorem d_jdk_68_method_9_code_6 : decode jdk_68_method_9_code 6 = .ok (.getfield 22, 3) := by decide +kernel
theorem d_jdk_68_method_9_code_9 : decode jdk_68_method_9_code 9 = .ok (.ishr, 1) := by decide +kernel
theorem d_method_2_code_0 : decode method_2_code 0 = .ok (.iload_n 0, 1) := by decide +kernel
theorem d_method_2_code_1 : decode method_2_code 1 = .ok (.ifCond .ne 14, 3) := by decide +kernel
theorem d_method_2_code_11 : decode method_2_code 11 = .ok (.invokespecial 9, 3) := by decide +kernel
theorem d_method_2_code_14 : decode method_2_code 14 = .ok (.areturn, 1) := by decide +kernel
theorem d_method_2_code_15 : decode method_2_code 15 = .ok (.iload_n 0, 1) := by decide +kernel
theorem d_method_2_code_16 : decode method_2_code 16 = .ok (.iconst 1, 1) := by decide +kernel
theorem d_method_2_code_17 : decode method_2_code 17 = .ok (.if_icmp .ne 18, 3) := by decide +kernel
theorem d_method_2_code_20 : decode method_2_code 20 = .ok (.new 7, 3) := by decide +kernel
theorem d_method_2_code_23 : decode method_2_code 23 = .ok (.dup, 1) := by decide +kernel
theorem d_method_2_code_24 : decode method_2_code 24 = .ok (.iconst 1, 1) := by decide +kernel
theorem d_method_2_code_25 : decode method_2_code 25 = .ok (.newarray .char, 2) := by decide +kernel
theorem d_method_2_code_27 : decode method_2_code 27 = .ok (.dup, 1) := by decide +kernel
theorem d_method_2_code_28 : decode method_2_code 28 = .ok (.iconst 0, 1) := by decide +kernel
theorem d_method_2_code_29 : decode method_2_code 29 = .ok (.iload_n 1, 1) := by decide +kernel
theorem d_method_2_code_30 : decode method_2_code 30 = .ok (.castore, 1) := by decide +kernel
theorem d_method_2_code_31 : decode method_2_code 31 = .ok (.invokespecial 9, 3) := by decide +kernel
theorem d_method_2_code_34 : decode method_2_code 34 = .ok (.areturn, 1) := by decide +kernel
theorem d_method_2_code_35 : decode method_2_code 35 = .ok (.iload_n 0, 1) := by decide +kernel
theorem d_method_2_code_36 : decode method_2_code 36 = .ok (.iconst 2, 1) := by decide +kernel
theorem d_method_2_code_37 : decode method_2_code 37 = .ok (.if_icmp .ne 22, 3) := by decide +kernel
theorem d_method_2_code_4 : decode method_2_code 4 = .ok (.new 7, 3) := by decide +kernel
theorem d_method_2_code_40 : decode method_2_code 40 = .ok (.new 7, 3) := by decide +kernel
theorem d_method_2_code_43 : decode method_2_code 43 = .ok (.dup, 1) := by decide +kernel
theorem d_method_2_code_44 : decode method_2_code 44 = .ok (.iconst 2, 1) := by decide +kernel
theorem d_method_2_code_45 : decode method_2_code 45 = .ok (.newarray .char, 2) := by decide +kernel
theorem d_method_2_code_47 : decode method_2_code 47 = .ok (.dup, 1) := by decide +kernel
theorem d_method_2_code_48 : decode method_2_code 48 = .ok (.iconst 0, 1) := by decide +kernel
theorem d_method_2_code_49 : decode method_2_code 49 = .ok (.iload_n 1, 1) := by decide +kernel
theorem d_method_2_code_50 : decode method_2_code 50 = .ok (.castore, 1) := by decide +kernel
theorem d_method_2_code_51 : decode method_2_code 51 = .ok (.dup, 1) := by decide +kernel
theorem d_method_2_code_52 : decode method_2_code 52 = .ok (.iconst 1, 1) := by decide +kernel
theorem d_method_2_code_53 : decode method_2_code 53 = .ok (.iload_n 2, 1) := by decide +kernel
theorem d_method_2_code_54 : decode method_2_code 54 = .ok (.castore, 1) := by decide +kernel
theorem d_method_2_code_55 : decode method_2_code 55 = .ok (.invokespecial 9, 3) := by decide +kernel
theorem d_method_2_code_58 : decode method_2_code 58 = .ok (.areturn, 1) := by decide +kernel
theorem d_method_2_code_59 : decode method_2_code 59 = .ok (.new 7, 3) := by decide +kernel
theorem d_method_2_code_62 : decode method_2_code 62 = .ok (.dup, 1) := by decide +kernel
theorem d_method_2_code_63 : decode method_2_code 63 = .ok (.iconst 3, 1) := by decide +kernel
theorem d_method_2_code_64 : decode method_2_code 64 = .ok (.newarray .char, 2) := by decide +kernel
theorem d_method_2_code_66 : decode method_2_code 66 = .ok (.dup, 1) := by decide +kernel
theorem d_method_2_code_67 : decode method_2_code 67 = .ok (.iconst 0, 1) := by decide +kernel
theorem d_method_2_code_68 : decode method_2_code 68 = .ok (.iload_n 1, 1) := by decide +kernel
theorem d_method_2_code_69 : decode method_2_code 69 = .ok (.castore, 1) := by decide +kernel
theorem d_method_2_code_7 : decode method_2_code 7 = .ok (.dup, 1) := by decide +kernel
theorem d_method_2_code_70 : decode method_2_code 70 = .ok (.dup, 1) := by decide +kernel
theorem d_method_2_code_71 : decode method_2_code 71 = .ok (.iconst 1, 1) := by decide +kernel
theorem d_method_2_code_72 : decode method_2_code 72 = .ok (.iload_n 2, 1) := by decide +kernel
theorem d_method_2_code_73 : decode method_2_code 73 = .ok (.castore, 1) := by decide +kernel
theorem d_method_2_code_74 : decode method_2_code 74 = .ok (.dup, 1) := by decide +kernel
theorem d_method_2_code_75 : decode method_2_code 75 = .ok (.iconst 2, 1) := by decide +kernel
theorem d_method_2_code_76 : decode method_2_code 76 = .ok (.iload_n 3, 1) := by decide +kernel
theorem d_method_2_code_77 : decode method_2_code 77 = .ok (.castore, 1) := by decide +kernel
theorem d_method_2_code_78 : decode method_2_code 78 = .ok (.invokespecial 9, 3) := by decide +kernel
theorem d_method_2_code_8 : decode method_2_code 8 = .ok (.iconst 0, 1) := by decide +kernel
theorem d_method_2_code_81 : decode method_2_code 81 = .ok (.areturn, 1) := by decide +kernel
theorem d_method_2_code_9 : decode method_2_code 9 = .ok (.newarray .char, 2) := by decide +kernel
theorem d_method_3_code_0 : decode method_3_code 0 = .ok (.iload_n 0, 1) := by decide +kernel
theorem d_method_3_code_1 : decode method_3_code 1 = .ok (.ifCond .ne 29, 3) := by decide +kernel
theorem d_method_3_code_100 : decode method_3_code 100 = .ok (.invokespecial 9, 3) := by decide +kernel
theorem d_method_3_code_103 : decode method_3_code 103 = .ok (.areturn, 1) := by decide +kernel
theorem d_method_3_code_104 : decode method_3_code 104 = .ok (.new 7, 3) := by decide +kernel
theorem d_method_3_code_107 : decode method_3_code 107 = .ok (.dup, 1) := by decide +kernel
theorem d_method_3_code_108 : decode method_3_code 108 = .ok (.bipush 6, 2) := by decide +kernel
theorem d_method_3_code_11 : decode method_3_code 11 = .ok (.dup, 1) := by decide +kernel
theorem d_method_3_code_110 : decode method_3_code 110 = .ok (.newarray .char, 2) := by decide +kernel
theorem d_method_3_code_112 : decode method_3_code 112 = .ok (.dup, 1) := by decide +kernel
theorem d_method_3_code_113 : decode method_3_code 113 = .ok (.iconst 0, 1) := by decide +kernel
theorem d_method_3_code_114 : decode method_3_code 114 = .ok (.bipush 47, 2) := by decide +kernel
theorem d_method_3_code_116 : decode method_3_code 116 = .ok (.castore, 1) := by decide +kernel
theorem d_method_3_code_117 : decode method_3_code 117 = .ok (.dup, 1) := by decide +kernel
theorem d_method_3_code_118 : decode method_3_code 118 = .ok (.iconst 1, 1) := by decide +kernel
theorem d_method_3_code_119 : decode method_3_code 119 = .ok (.bipush 118, 2) := by decide +kernel
theorem d_method_3_code_12 : decode method_3_code 12 = .ok (.iconst 0, 1) := by decide +kernel
theorem d_method_3_code_121 : decode method_3_code 121 = .ok (.castore, 1) := by decide +kernel
theorem d_method_3_code_122 : decode method_3_code 122 = .ok (.dup, 1) := by decide +kernel
theorem d_method_3_code_123 : decode method_3_code 123 = .ok (.iconst 2, 1) := by decide +kernel
theorem d_method_3_code_124 : decode method_3_code 124 = .ok (.bipush 49, 2) := by decide +kernel
theorem d_method_3_code_126 : decode method_3_code 126 = .ok (.castore, 1) := by decide +kernel
theorem d_method_3_code_127 : decode method_3_code 127 = .ok (.dup, 1) := by decide +kernel
theorem d_method_3_code_128 : decode method_3_code 128 = .ok (.iconst 3, 1) := by decide +kernel
theorem d_method_3_code_129 : decode method_3_code 129 = .ok (.iload_n 1, 1) := by decide +kernel
theorem d_method_3_code_13 : decode method_3_code 13 = .ok (.bipush 47, 2) := by decide +kernel
theorem d_method_3_code_130 : decode method_3_code 130 = .ok (.castore, 1) := by decide +kernel
theorem d_method_3_code_131 : decode method_3_code 131 = .ok (.dup, 1) := by decide +kernel
theorem d_method_3_code_132 : decode method_3_code 132 = .ok (.iconst 4, 1) := by decide +kernel
theorem d_method_3_code_133 : decode method_3_code 133 = .ok (.iload_n 2, 1) := by decide +kernel
theorem d_method_3_code_134 : decode method_3_code 134 = .ok (.castore, 1) := by decide +kernel
theorem d_method_3_code_135 : decode method_3_code 135 = .ok (.dup, 1) := by decide +kernel
theorem d_method_3_code_136 : decode method_3_code 136 = .ok (.iconst 5, 1) := by decide +kernel
theorem d_method_3_code_137 : decode method_3_code 137 = .ok (.iload_n 3, 1) := by decide +kernel
theorem d_method_3_code_138 : decode method_3_code 138 = .ok (.castore, 1) := by decide +kernel
theorem d_method_3_code_139 : decode method_3_code 139 = .ok (.invokespecial 9, 3) := by decide +kernel
theorem d_method_3_code_142 : decode method_3_code 142 = .ok (.areturn, 1) := by decide +kernel
theorem d_method_3_code_15 : decode method_3_code 15 = .ok (.castore, 1) := by decide +kernel
theorem d_method_3_code_16 : decode method_3_code 16 = .ok (.dup, 1) := by decide +kernel
theorem d_method_3_code_17 : decode method_3_code 17 = .ok (.iconst 1, 1) := by decide +kernel
theorem d_method_3_code_18 : decode method_3_code 18 = .ok (.bipush 118, 2) := by decide +kernel
theorem d_method_3_code_20 : decode method_3_code 20 = .ok (.castore, 1) := by decide +kernel
theorem d_method_3_code_21 : decode method_3_code 21 = .ok (.dup, 1) := by decide +kernel
theorem d_method_3_code_22 : decode method_3_code 22 = .ok (.iconst 2, 1) := by decide +kernel
theorem d_method_3_code_23 : decode method_3_code 23 = .ok (.bipush 49, 2) := by decide +kernel
theorem d_method_3_code_25 : decode method_3_code 25 = .ok (.castore, 1) := by decide +kernel
theorem d_method_3_code_26 : decode method_3_code 26 = .ok (.invokespecial 9, 3) := by decide +kernel
theorem d_method_3_code_29 : decode method_3_code 29 = .ok (.areturn, 1) := by decide +kernel
theorem d_method_3_code_30 : decode method_3_code 30 = .ok (.iload_n 0, 1) := by decide +kernel
theorem d_method_3_code_31 : decode method_3_code 31 = .ok (.iconst 1, 1) := by decide +kernel
theorem d_method_3_code_32 : decode method_3_code 32 = .ok (.if_icmp .ne 33, 3) := by decide +kernel
theorem d_method_3_code_35 : decode method_3_code 35 = .ok (.new 7, 3) := by decide +kernel
theorem d_method_3_code_38 : decode method_3_code 38 = .ok (.dup, 1) := by decide +kernel
theorem d_method_3_code_39 : decode method_3_code 39 = .ok (.iconst 4, 1) := by decide +kernel
theorem d_method_3_code_4 : decode method_3_code 4 = .ok (.new 7, 3) := by decide +kernel
theorem d_method_3_code_40 : decode method_3_code 40 = .ok (.newarray .char, 2) := by decide +kernel
theorem d_method_3_code_42 : decode method_3_code 42 = .ok (.dup, 1) := by decide +kernel
theorem d_method_3_code_43 : decode method_3_code 43 = .ok (.iconst 0, 1) := by decide +kernel
theorem d_method_3_code_44 : decode method_3_code 44 = .ok (.bipush 47, 2) := by decide +kernel
theorem d_method_3_code_46 : decode method_3_code 46 = .ok (.castore, 1) := by decide +kernel
theorem d_method_3_code_47 : decode method_3_code 47 = .ok (.dup, 1) := by decide +kernel
theorem d_method_3_code_48 : decode method_3_code 48 = .ok (.iconst 1, 1) := by decide +kernel
theorem d_method_3_code_49 : decode method_3_code 49 = .ok (.bipush 118, 2) := by decide +kernel
theorem d_method_3_code_51 : decode method_3_code 51 = .ok (.castore, 1) := by decide +kernel
theorem d_method_3_code_52 : decode method_3_code 52 = .ok (.dup, 1) := by decide +kernel
theorem d_method_3_code_53 : decode method_3_code 53 = .ok (.iconst 2, 1) := by decide +kernel
theorem d_method_3_code_54 : decode method_3_code 54 = .ok (.bipush 49, 2) := by decide +kernel
theorem d_method_3_code_56 : decode method_3_code 56 = .ok (.castore, 1) := by decide +kernel
theorem d_method_3_code_57 : decode method_3_code 57 = .ok (.dup, 1) := by decide +kernel
theorem d_method_3_code_58 : decode method_3_code 58 = .ok (.iconst 3, 1) := by decide +kernel
theorem d_method_3_code_59 : decode method_3_code 59 = .ok (.iload_n 1, 1) := by decide +kernel
theorem d_method_3_code_60 : decode method_3_code 60 = .ok (.castore, 1) := by decide +kernel
theorem d_method_3_code_61 : decode method_3_code 61 = .ok (.invokespecial 9, 3) := by decide +kernel
theorem d_method_3_code_64 : decode method_3_code 64 = .ok (.areturn, 1) := by decide +kernel
theorem d_method_3_code_65 : decode method_3_code 65 = .ok (.iload_n 0, 1) := by decide +kernel
theorem d_method_3_code_66 : decode method_3_code 66 = .ok (.iconst 2, 1) := by decide +kernel
theorem d_method_3_code_67 : decode method_3_code 67 = .ok (.if_icmp .ne 37, 3) := by decide +kernel
theorem d_method_3_code_7 : decode method_3_code 7 = .ok (.dup, 1) := by decide +kernel
theorem d_method_3_code_70 : decode method_3_code 70 = .ok (.new 7, 3) := by decide +kernel
theorem d_method_3_code_73 : decode method_3_code 73 = .ok (.dup, 1) := by decide +kernel
theorem d_method_3_code_74 : decode method_3_code 74 = .ok (.iconst 5, 1) := by decide +kernel
theorem d_method_3_code_75 : decode method_3_code 75 = .ok (.newarray .char, 2) := by decide +kernel
theorem d_method_3_code_77 : decode method_3_code 77 = .ok (.dup, 1) := by decide +kernel
theorem d_method_3_code_78 : decode method_3_code 78 = .ok (.iconst 0, 1) := by decide +kernel
theorem d_method_3_code_79 : decode method_3_code 79 = .ok (.bipush 47, 2) := by decide +kernel
theorem d_method_3_code_8 : decode method_3_code 8 = .ok (.iconst 3, 1) := by decide +kernel
theorem d_method_3_code_81 : decode method_3_code 81 = .ok (.castore, 1) := by decide +kernel
theorem d_method_3_code_82 : decode method_3_code 82 = .ok (.dup, 1) := by decide +kernel
theorem d_method_3_code_83 : decode method_3_code 83 = .ok (.iconst 1, 1) := by decide +kernel
theorem d_method_3_code_84 : decode method_3_code 84 = .ok (.bipush 118, 2) := by decide +kernel
theorem d_method_3_code_86 : decode method_3_code 86 = .ok (.castore, 1) := by decide +kernel
theorem d_method_3_code_87 : decode method_3_code 87 = .ok (.dup, 1) := by decide +kernel
theorem d_method_3_code_88 : decode method_3_code 88 = .ok (.iconst 2, 1) := by decide +kernel
theorem d_method_3_code_89 : decode method_3_code 89 = .ok (.bipush 49, 2) := by decide +kernel
theorem d_method_3_code_9 : decode method_3_code 9 = .ok (.newarray .char, 2) := by decide +kernel
theorem d_method_3_code_91 : decode method_3_code 91 = .ok (.castore, 1) := by decide +kernel
theorem d_method_3_code_92 : decode method_3_code 92 = .ok (.dup, 1) := by decide +kernel
theorem d_method_3_code_93 : decode method_3_code 93 = .ok (.iconst 3, 1) := by decide +kernel
theorem d_method_3_code_94 : decode method_3_code 94 = .ok (.iload_n 1, 1) := by decide +kernel
theorem d_method_3_code_95 : decode method_3_code 95 = .ok (.castore, 1) := by decide +kernel
theorem d_method_3_code_96 : decode method_3_code 96 = .ok (.dup, 1) := by decide +kernel
theorem d_method_3_code_97 : decode method_3_code 97 = .ok (.iconst 4, 1) := by decide +kernel
theorem d_method_3_code_98 : decode method_3_code 98 = .ok (.iload_n 2, 1) := by decide +kernel
theorem d_method_3_code_99 : decode method_3_code 99 = .ok (.castore, 1) := by decide +kernel
theorem d_prog_17_method_3_code_0 : decode prog_17_method_3_code 0 = .ok (.new 23, 3) := by decide +kernel
theorem d_prog_17_method_3_code_11 : decode prog_17_method_3_code 11 = .ok (.ldc 30, 2) := by decide +kernel
theorem d_prog_17_method_3_code_13 : decode prog_17_method_3_code 13 = .ok (.invokevirtual 26, 3) := by decide +kernel
theorem d_prog_17_method_3_code_16 : decode prog_17_method_3_code 16 = .ok (.ldc 9, 2) := by decide +kernel
theorem d_prog_17_method_3_code_18 : decode prog_17_method_3_code 18 = .ok (.invokevirtual 26, 3) := by decide +kernel
theorem d_prog_17_method_3_code_21 : decode prog_17_method_3_code 21 = .ok (.ldc 32, 2) := by decide +kernel
theorem d_prog_17_method_3_code_23 : decode prog_17_method_3_code 23 = .ok (.invokevirtual 26, 3) := by decide +kernel
theorem d_prog_17_method_3_code_26 : decode prog_17_method_3_code 26 = .ok (.aload_n 1, 1) := by decide +kernel
theorem d_prog_17_method_3_code_27 : decode prog_17_method_3_code 27 = .ok (.ldc 9, 2) := by decide +kernel
theorem d_prog_17_method_3_code_29 : decode prog_17_method_3_code 29 = .ok (.invokevirtual 34, 3) := by decide +kernel
theorem d_prog_17_method_3_code_3 : decode prog_17_method_3_code 3 = .ok (.dup, 1) := by decide +kernel
theorem d_prog_17_method_3_code_32 : decode prog_17_method_3_code 32 = .ok (.invokevirtual 38, 3) := by decide +kernel
theorem d_prog_17_method_3_code_35 : decode prog_17_method_3_code 35 = .ok (.invokevirtual 26, 3) := by decide +kernel
theorem d_prog_17_method_3_code_38 : decode prog_17_method_3_code 38 = .ok (.invokevirtual 42, 3) := by decide +kernel
theorem d_prog_17_method_3_code_4 : decode prog_17_method_3_code 4 = .ok (.invokespecial 25, 3) := by decide +kernel
theorem d_prog_17_method_3_code_41 : decode prog_17_method_3_code 41 = .ok (.areturn, 1) := by decide +kernel
theorem d_prog_17_method_3_code_7 : decode prog_17_method_3_code 7 = .ok (.aload_n 0, 1) := by decide +kernel
theorem d_prog_17_method_3_code_8 : decode prog_17_method_3_code 8 = .ok (.invokevirtual 26, 3) := by decide +kernel
theorem lat0 : ∀ c ∈ ([] : List Int32), ¬ c < 0 ∧ ¬ (255 : Int32) < c := fun _ q => nomatch q
theorem latc {x : Int32} {cs : List Int32} (q : ¬ x < 0 ∧ ¬ (255 : Int32) < x) (r : ∀ c ∈ cs, ¬ c < 0 ∧ ¬ (255 : Int32) < c) : ∀ c ∈ x :: cs, ¬ c < 0 ∧ ¬ (255 : Int32) < c := fun c z => (List.mem_cons.mp z).elim (fun u => u ▸ q) (r c)
theorem eqv_if {cs ds : List Int32} {v : Option Value} (h : (v = some (.int 1) ∧ cs = ds) ∨ (v = some (.int 0) ∧ ¬ cs = ds)) : v = some (.int (if cs = ds then (1 : Int32) else 0)) := by
  rcases h with ⟨a, b⟩ | ⟨a, b⟩
  · rw [a, if_pos b]
  · rw [a, if_neg b]
theorem sw_words {a0 : Array Value} {Z : State} (hw : ∀ d ∈ tables_1, d.before a0 Z = true) : ∀ d ∈ StrChars.Road.words, d.before a0 Z = true := fun d hd => hw d ((by decide +kernel : ∀ d ∈ StrChars.Road.words, d ∈ tables_1) d hd)
theorem sw_wordsChN {a0 : Array Value} {Z : State} (hw : ∀ d ∈ tables_1, d.before a0 Z = true) : ∀ d ∈ StrChars.Road.wordsChN, d.before a0 Z = true := fun d hd => hw d ((by decide +kernel : ∀ d ∈ StrChars.Road.wordsChN, d ∈ tables_1) d hd)
theorem sw_wordsLen {a0 : Array Value} {Z : State} (hw : ∀ d ∈ tables_1, d.before a0 Z = true) : ∀ d ∈ StrChars.Road.wordsLen, d.before a0 Z = true := fun d hd => hw d ((by decide +kernel : ∀ d ∈ StrChars.Road.wordsLen, d ∈ tables_1) d hd)
def EL : List (String × Nat) := [("com/example/lakehouse_catalog/lakehousecatalog/iceberg/IcebergRoutes", 9), ("com/example/lakehouse_catalog/lakehousecatalog/iceberg/IcebergRoutes", 30), ("com/example/lakehouse_catalog/lakehousecatalog/iceberg/IcebergRoutes", 32), ("java/lang/String", 7), ("java/lang/StringLatin1", 151)]
theorem hEL_ {Z : State} {a0 : Array Value} (hw : ∀ d ∈ tables_1, d.before a0 Z = true) : EW Z a0 EL := (EW.cons (wd_110 hw) (by decide) (EW.cons (wd_109 hw) (by decide) (EW.cons (wd_111 hw) (by decide) (EW.cons (wd_18 hw) (by decide) (EW.cons (wd_141 hw) (by decide) EW.nil)))))
theorem hwS_ {Z : State} {a0 : Array Value} (hw : ∀ d ∈ tables_1, d.before a0 Z = true) : ∀ d ∈ Bundle.stringAtoms, d.before a0 Z = true := fun d hd => hw d ((by decide +kernel : ∀ d ∈ Bundle.stringAtoms, d ∈ tables_1) d hd)
def St (Z : State) (zc : Int32) (vfm : Value) : Prop := Sta Z Z.heap "java/lang/String" "COMPACT_STRINGS" "Z" (.int zc) ∧ ¬ zc = 0 ∧ Sta Z Z.heap "jdk/internal/util/Preconditions" "SIOOBE_FORMATTER" "Ljava/util/function/BiFunction;" vfm ∧ vfm.isRef = true
theorem nar255 (x : Int32) : nar .char (x &&& (255 : Int32)) = x &&& (255 : Int32) := i2c_mask x
theorem lat255 (x : Int32) : ¬ (x &&& (255 : Int32)) < 0 ∧ ¬ (255 : Int32) < x &&& (255 : Int32) := by
  have h := c_mask x 255 8 (by decide) (by decide)
  have e1 : (255 : Int32).toInt = 255 := by decide
  have e2 : (0 : Int32).toInt = 0 := by decide
  rw [Int32.lt_iff_toInt_lt, Int32.lt_iff_toInt_lt, h]
  omega
theorem latI {x : Int32} (h : ¬ x < 0 ∧ ¬ (255 : Int32) < x) : 0 ≤ x.toInt ∧ x.toInt ≤ 255 := by
  have e1 : (255 : Int32).toInt = 255 := by decide
  have e2 : (0 : Int32).toInt = 0 := by decide
  rw [Int32.lt_iff_toInt_lt, Int32.lt_iff_toInt_lt] at h
  omega
theorem nar_lat {x : Int32} (h : ¬ x < 0 ∧ ¬ (255 : Int32) < x) : nar .char x = x := by
  have q := latI h
  have r := c_i2c x
  have s := rng32 x
  apply Int32.toInt_inj.mp
  show x.toUInt32.toUInt16.toUInt32.toInt32.toInt = x.toInt
  omega
theorem i8_inj {x y : Int32} (hx : ¬ x < 0 ∧ ¬ (255 : Int32) < x) (hy : ¬ y < 0 ∧ ¬ (255 : Int32) < y) (e : x.toInt8.toInt32 = y.toInt8.toInt32) : x = y := by
  have a := latI hx
  have b := latI hy
  have r := c_i2b x
  have s := c_i2b y
  rw [e] at r
  apply Int32.toInt_inj.mp
  omega
theorem bytes_getD (cs : List Int32) (i : Nat) : ((cs.map fun c => c.toInt8.toInt32).map Value.int).getD i (.int (0 : Int32)) = .int (cs.getD i 0).toInt8.toInt32 := by
  rw [List.map_map, List.getD_eq_getElem?_getD, List.getD_eq_getElem?_getD, List.getElem?_map]
  cases cs[i]? <;> rfl
theorem ofNat_toInt {k : Nat} (h : k ≤ 100000) : (Int32.ofNat k).toInt = k := Int32.toInt_ofNat_small (by omega)
theorem lt_ofNat {k i : Nat} {j : Int32} (h : k ≤ 100000) (e : j.toInt = i) (q : i < k) : ¬ j < 0 ∧ j < Int32.ofNat k := by
  rw [Int32.lt_iff_toInt_lt, Int32.lt_iff_toInt_lt, ofNat_toInt h, e]
  have e2 : (0 : Int32).toInt = 0 := by decide
  omega
theorem sub_lt0 {k n : Nat} {j : Int32} (h : k ≤ 100000) (e : j.toInt = n) (q : n ≤ 100000) : (Int32.ofNat k - j) < 0 ↔ k < n := by
  have a := c_isub (Int32.ofNat k) j
  have b := rng32 (Int32.ofNat k - j)
  rw [ofNat_toInt h, e] at a
  have e2 : (0 : Int32).toInt = 0 := by decide
  rw [Int32.lt_iff_toInt_lt, e2]
  omega

theorem ofn_add (a b : Nat) : Int32.ofNat a + Int32.ofNat b = Int32.ofNat (a + b) := by
  apply Int32.toBitVec_inj.mp
  rw [Int32.toBitVec_add]
  show BitVec.ofNat 32 a + BitVec.ofNat 32 b = BitVec.ofNat 32 (a + b)
  exact (BitVec.ofNat_add a b).symm
theorem len_app (cs ds : List Int32) : Int32.ofNat cs.length + Int32.ofNat ds.length = Int32.ofNat (cs ++ ds).length := by rw [List.length_append]; exact ofn_add _ _
theorem clampN {k : Nat} (h : k ≤ 100000) : (Int32.ofNat k).toNatClampNeg = k := by
  have e := ofNat_toInt h
  simp only [Int32.toNatClampNeg]
  omega
theorem ofn_pos {k : Nat} (h : k ≤ 100000) : ¬ Int32.ofNat k < 0 := by
  rw [Int32.lt_iff_toInt_lt, ofNat_toInt h]
  have e : (0 : Int32).toInt = 0 := by decide
  omega
theorem ofn_lt {j k : Nat} (hj : j ≤ 100000) (hk : k ≤ 100000) : Int32.ofNat j < Int32.ofNat k ↔ j < k := by
  rw [Int32.lt_iff_toInt_lt, ofNat_toInt hj, ofNat_toInt hk]; omega
theorem ofn_inj {j k : Nat} (hj : j ≤ 100000) (hk : k ≤ 100000) (h : Int32.ofNat j = Int32.ofNat k) : j = k := by
  have a := ofNat_toInt hj
  have b := ofNat_toInt hk
  rw [h] at a
  omega
theorem ofn_sub {j k : Nat} (hj : j ≤ 100000) (hk : k ≤ 100000) (h : k ≤ j) : Int32.ofNat j - Int32.ofNat k = Int32.ofNat (j - k) := by
  have a := c_isub (Int32.ofNat j) (Int32.ofNat k)
  have b := rng32 (Int32.ofNat j - Int32.ofNat k)
  rw [ofNat_toInt hj, ofNat_toInt hk] at a
  apply Int32.toInt_inj.mp
  rw [ofNat_toInt (by omega)]
  omega
theorem shr0 (x : Int32) : x >>> ((0 : Int32) &&& 31) = x := Int32.toInt_inj.mp (by have := c_ishr x 0 0 (by decide); omega)
theorem shl0 (x : Int32) : x <<< ((0 : Int32) &&& 31) = x := Int32.toInt_inj.mp (by have := c_ishl x 0 0 (by decide); have := rng32 x; have := rng32 (x <<< ((0 : Int32) &&& 31)); omega)
/-- what arraycopy laid -/
theorem cp_us (bs : List Int32) (k n : Nat) (h : k + n ≤ bs.length) : ((List.range n).map fun i => (bs.map Value.int).getD (k + i) (.int (0 : Int32))) = ((bs.drop k).take n).map Value.int := by
  apply List.ext_getElem
  · simp; omega
  · intro i h1 h2
    simp only [List.length_map, List.length_range] at h1
    have e : k + i < bs.length := by omega
    simp [List.getD_eq_getElem?_getD, List.getElem?_eq_getElem e]
theorem cp_eq {bs : List Int32} {vd : List Value} {sp dp nn : Int32} {k d n : Nat} (e1 : sp.toNatClampNeg = k) (e2 : dp.toNatClampNeg = d) (e3 : nn.toNatClampNeg = n) (h : k + n ≤ bs.length) :
    vd.take dp.toNatClampNeg ++ ((List.range nn.toNatClampNeg).map fun i => (bs.map Value.int).getD (sp.toNatClampNeg + i) (.int (0 : Int32))) ++ vd.drop (dp.toNatClampNeg + nn.toNatClampNeg) = vd.take d ++ ((bs.drop k).take n).map Value.int ++ vd.drop (d + n) := by
  rw [e1, e2, e3, cp_us bs k n h]
def insB (bs cs ds : List Int32) : List Int32 := bs.take cs.length ++ (ds.map fun c => c.toInt8.toInt32) ++ bs.drop (cs.length + ds.length)
theorem insB_len {bs cs ds : List Int32} (h : cs.length + ds.length ≤ bs.length) : (insB bs cs ds).length = bs.length := by simp [insB]; omega
theorem insB_take {bs cs ds : List Int32} (h : cs.length + ds.length ≤ bs.length) (hp : bs.take cs.length = cs.map fun c => c.toInt8.toInt32) : (insB bs cs ds).take (cs ++ ds).length = (cs ++ ds).map fun c => c.toInt8.toInt32 := by
  have e : (cs ++ ds).length = (bs.take cs.length ++ (ds.map fun c => c.toInt8.toInt32)).length := by simp; omega
  rw [insB, e, List.take_left, hp, List.map_append]
theorem cp_ins {bs cs ds : List Int32} {sp dp nn : Int32} (e1 : sp.toNatClampNeg = 0) (e2 : dp.toNatClampNeg = cs.length) (e3 : nn.toNatClampNeg = ds.length) :
    (bs.map Value.int).take dp.toNatClampNeg ++ ((List.range nn.toNatClampNeg).map fun i => ((ds.map fun c => c.toInt8.toInt32).map Value.int).getD (sp.toNatClampNeg + i) (.int (0 : Int32))) ++ (bs.map Value.int).drop (dp.toNatClampNeg + nn.toNatClampNeg) = (insB bs cs ds).map Value.int := by
  have q : (ds.map fun c => c.toInt8.toInt32).take ds.length = ds.map fun c => c.toInt8.toInt32 := List.take_of_length_le (by simp)
  rw [cp_eq e1 e2 e3 (by simp), List.drop_zero, q, insB, List.map_append, List.map_append, List.map_take, List.map_drop]
theorem cp_grow {bs : List Int32} {vd : List Value} {sp dp nn : Int32} {k : Nat} (e1 : sp.toNatClampNeg = 0) (e2 : dp.toNatClampNeg = 0) (e3 : nn.toNatClampNeg = bs.length) (hv : vd = List.replicate (bs.length + k) (.int (0 : Int32))) :
    vd.take dp.toNatClampNeg ++ ((List.range nn.toNatClampNeg).map fun i => (bs.map Value.int).getD (sp.toNatClampNeg + i) (.int (0 : Int32))) ++ vd.drop (dp.toNatClampNeg + nn.toNatClampNeg) = (bs ++ List.replicate k (0 : Int32)).map Value.int := by
  rw [cp_eq e1 e2 e3 (by simp), List.drop_zero, List.take_of_length_le (Nat.le_refl _), hv]
  simp
theorem cp_rng {bs : List Int32} {vd : List Value} {sp dp nn : Int32} {k n : Nat} (e1 : sp.toNatClampNeg = k) (e2 : dp.toNatClampNeg = 0) (e3 : nn.toNatClampNeg = n) (h : k + n ≤ bs.length) (hv : vd.length = n) :
    vd.take dp.toNatClampNeg ++ ((List.range nn.toNatClampNeg).map fun i => (bs.map Value.int).getD (sp.toNatClampNeg + i) (.int (0 : Int32))) ++ vd.drop (dp.toNatClampNeg + nn.toNatClampNeg) = ((bs.drop k).take n).map Value.int := by
  have d : vd.drop (0 + n) = [] := List.drop_of_length_le (by omega)
  rw [cp_eq e1 e2 e3 h, d]
  simp
theorem eq_of_nlt {x y : Int32} (h : ¬ x < y) (h2 : ¬ y < x) : x = y := by
  rw [Int32.lt_iff_toInt_lt] at h h2
  exact Int32.toInt_inj.mp (by omega)
theorem gr_of {m : Nat} (h : 16 < m ∧ m ≤ 34) : (0 : Int32) < Int32.ofNat m - (16 : Int32) := by
  rw [show (16 : Int32) = Int32.ofNat 16 from rfl, ofn_sub (by omega) (by omega) (by omega), show (0 : Int32) = Int32.ofNat 0 from rfl, ofn_lt (by omega) (by omega)]; omega
theorem ng_of {m : Nat} (h : m ≤ 16) : ¬ (0 : Int32) < Int32.ofNat m - (16 : Int32) := by
  have a := c_isub (Int32.ofNat m) 16
  have b := rng32 (Int32.ofNat m - (16 : Int32))
  have e : (16 : Int32).toInt = 16 := by decide
  have e0 : (0 : Int32).toInt = 0 := by decide
  rw [ofNat_toInt (by omega), e] at a
  rw [Int32.lt_iff_toInt_lt]
  omega

--@C abi
def Q_abi (Z : State) (zc : Int32) (vfm : Value) (a1 : Addr) (h0 : Heap) (n0 : Nat) (v : Option Value) (h : Heap) (L : List Loc) : Prop := ∃ (t : Addr) (kt : ClassId), v = none ∧ Fr n0 L ∧ Keep h0 h [a1] ∧ Fld Z h a1 "java/lang/AbstractStringBuilder" "value" "[B" (.ref t) ∧ h0.size ≤ t ∧ Exa Z h t "[B" ∧ Fld Z h a1 "java/lang/AbstractStringBuilder" "coder" "B" (.int (0 : Int32)) ∧ Fld Z h a1 "java/lang/AbstractStringBuilder" "count" "I" (.int (0 : Int32)) ∧ Arv Z h t kt .byte (16 : Int32) ((List.replicate 16 (0 : Int32)).map Value.int) (.int (0 : Int32))
set_option maxRecDepth 65536 in
set_option maxHeartbeats 40000000 in
theorem rm_abi (l : Launch) (Z : State) (a0 : Array Value) (hw : ∀ d ∈ tables_1, d.before a0 Z = true) (zc : Int32) (vfm : Value) (a1 : Addr) (h0 : Heap) (n0 : Nat) (Z0 : n0 ≤ h0.size) (E_a1 : Exa Z h0 a1 "java/lang/StringBuilder") (F_v : Fld Z h0 a1 "java/lang/AbstractStringBuilder" "value" "[B" .null) (F_c : Fld Z h0 a1 "java/lang/AbstractStringBuilder" "coder" "B" (.int (0 : Int32))) (F_n : Fld Z h0 a1 "java/lang/AbstractStringBuilder" "count" "I" (.int (0 : Int32))) (g_a1 : n0 ≤ a1) (hSt : St Z zc vfm) (hO : Old Z n0 h0) :
    CN l Z ({ cls := "java/lang/AbstractStringBuilder", name := "<init>", desc := "(I)V" } : Jvm.MethodName) [(Jvm.Cond.code ({ cls := "java/lang/AbstractStringBuilder", name := "<init>", desc := "(I)V" } : Jvm.MethodName) jdk_68_method_2_code (2 : Nat) (Option.none : Option Jvm.ClassFile.FieldType))] ({ frames := 1, cells := 1, slots := 16, locals := 12 } : Room) #[(.ref a1), (.int (16 : Int32))] h0 (Q_abi Z zc vfm a1 h0 n0) := by
  refine CN.of (L0 := #[vR a1, vI 16]) (plainFor_of_name pn_0) (fun m => by first | (simp [entryFrame, mkF, argsToLocals, Value.category]; done) | rfl) ?_
  intro p e s m below meth c s₁ hx hby hml hret hlk hZ hown hnm X0 e0
  have N0 := Fr.nil n0
  have KP0 := Keep.refl h0 [a1]
  have hSt_ := hSt
  obtain ⟨S_cs, n_cs, S_fm, r_fm⟩ := hSt_
  show Go p e below _ (s₁.setTop (mkF m 0 #[vR a1, vI 16] []))
  refine Go.step (fun _ k => XS.aloadN X0.here hx rfl (hb hby d_jdk_68_method_2_code_0) rfl rfl k) ?_
  show Go p e below _ (s₁.setTop (mkF m 1 #[vR a1, vI 16] [(.ref a1)]))
  obtain ⟨T_1, X_1, e_1, st_1⟩ := initO X0 hx hZ hown (wd_56 hw) (wd_16 hw) (wd_17 hw) e0 (g := (mkF m 1 #[vR a1, vI 16] [(.ref a1)])) rfl (by rw [hml]; rfl) rfl (hb hby d_jdk_68_method_2_code_1) (by decide) (W := 0) (by show 2 * 0 + _ ≤ _; exact Nat.le_of_eq rfl) (by decide)
  refine Go.step st_1 ?_
  show Go p e below _ (T_1.setTop (mkF m 4 #[vR a1, vI 16] []))
  obtain ⟨T_2, X_2, e_2, st_2⟩ := getS2 X_1 hx hZ hown (host := "") (Or.inl (wd_57 hw)) Via.refl e_1 (S_cs.ext hO.2) (g := (mkF m 4 #[vR a1, vI 16] [])) rfl (hb hby d_jdk_68_method_2_code_4)
  refine Go.step st_2 ?_
  show Go p e below _ (T_2.setTop (mkF m 7 #[vR a1, vI 16] [(.int zc)]))
  refine Go.step (fun _ k => XS.ifNo X_2.here hx rfl (hb hby d_jdk_68_method_2_code_7) rfl ((if0 _ _).trans (feq (n_cs : ¬ (zc = (0 : Int32)))).1) k) ?_
  show Go p e below _ (T_2.setTop (mkF m 10 #[vR a1, vI 16] []))
  refine Go.step (fun _ k => XS.aloadN X_2.here hx rfl (hb hby d_jdk_68_method_2_code_10) rfl rfl k) ?_
  refine Go.step (fun _ k => XS.iloadN X_2.here hx rfl (hb hby d_jdk_68_method_2_code_11) rfl  k) ?_
  show Go p e below _ (T_2.setTop (mkF m 12 #[vR a1, vI 16] [(.int (16 : Int32)), (.ref a1)]))
  obtain ⟨T_3, h_3, k_3, X_3, e_3, E_3, A_3, B_3, st_3⟩ := newPE X_2 hx hZ (aty := .byte) (wd_19 hw) e_2 (g := (mkF m 12 #[vR a1, vI 16] [(.int (16 : Int32)), (.ref a1)])) rfl (hb hby d_jdk_68_method_2_code_12) rfl (by decide) (cap := 16) (by decide) (by decide) (by decide) (by decide) (ad := "[B") (by decide)
  obtain ⟨b3, q_3⟩ : ∃ z, z = h0.size := ⟨_, rfl⟩
  rw [← q_3] at A_3 B_3 st_3
  refine Go.step st_3 ?_
  have le_3 : h0.size ≤ h_3.size := E_3.1
  have KP_3 := KP0.ext E_3
  have O_3 := hO.ext E_3
  have ge_3 : h0.size ≤ b3 := Nat.le_of_eq q_3.symm
  have sz_b3 : h0.size ≤ b3 := Nat.le_trans (Nat.le_refl _) ge_3
  have g_b3 : n0 ≤ b3 := Nat.le_trans Z0 sz_b3
  have V_3 : Arv Z h_3 b3 k_3 .byte (16 : Int32) [(.int (0 : Int32)), (.int (0 : Int32)), (.int (0 : Int32)), (.int (0 : Int32)), (.int (0 : Int32)), (.int (0 : Int32)), (.int (0 : Int32)), (.int (0 : Int32)), (.int (0 : Int32)), (.int (0 : Int32)), (.int (0 : Int32)), (.int (0 : Int32)), (.int (0 : Int32)), (.int (0 : Int32)), (.int (0 : Int32)), (.int (0 : Int32))] (.int (0 : Int32)) := (Arv.new A_3 (by decide)).pad (pad_rep [] (.int (0 : Int32)) 16)
  show Go p e below _ (T_3.setTop (mkF m 14 #[vR a1, vI 16] [(.ref b3), (.ref a1)]))
  have f4 : Exa Z h_3 a1 "java/lang/StringBuilder" := (E_a1.ext E_3)
  have f5 : Fld Z h_3 a1 "java/lang/AbstractStringBuilder" "value" "[B" .null := (F_v.ext E_3)
  obtain ⟨T_6, h_6, X_6, e_6, W_6, st_6⟩ := putF X_3 hx hZ hown (host := "") (Or.inl (wd_58 hw)) Via.refl e_3 f5 f4 (Or.inl (wd_59 hw)) (wd_45 hw) (ty := (.array .byte)) pf_0 rfl rfl (g := (mkF m 14 #[vR a1, vI 16] [(.ref b3), (.ref a1)])) rfl rfl (hb hby d_jdk_68_method_2_code_14)
  refine Go.step st_6 ?_
  have N_6 := Fr.snoc X_6 N0 g_a1
  have le_6 : h_3.size ≤ h_6.size := Nat.le_of_eq W_6.size.symm
  have KP_6 := KP_3.wr W_6 (Or.inl (List.mem_of_getElem? (i := 0) rfl))
  have O_6 := O_3.wr W_6 g_a1
  have F_6 : Fld Z h_6 a1 "java/lang/AbstractStringBuilder" "value" "[B" (.ref b3) := f5.same W_6
  show Go p e below _ (T_6.setTop (mkF m 17 #[vR a1, vI 16] []))
  refine Go.step (fun _ k => XS.aloadN X_6.here hx rfl (hb hby d_jdk_68_method_2_code_17) rfl rfl k) ?_
  refine Go.step (fun _ k => XS.iconst X_6.here hx rfl (hb hby d_jdk_68_method_2_code_18) k) ?_
  show Go p e below _ (T_6.setTop (mkF m 19 #[vR a1, vI 16] [(.int (0 : Int32)), (.ref a1)]))
  have f7 : Exa Z h_6 a1 "java/lang/StringBuilder" := (f4.wr W_6)
  have f8 : Fld Z h_6 a1 "java/lang/AbstractStringBuilder" "coder" "B" (.int (0 : Int32)) := ((F_c.ext E_3).other W_6 (Or.inr (sn_0 hw)))
  obtain ⟨T_9, h_9, X_9, e_9, W_9, st_9⟩ := putFN X_6 hx hZ hown (wd_60 hw) Via.refl e_6 f8 f7 (Or.inl (wd_61 hw)) (wd_45 hw) (ty := .byte) (v' := (.int (0 : Int32))) pf_1 rfl (by decide) (g := (mkF m 19 #[vR a1, vI 16] [(.int (0 : Int32)), (.ref a1)])) rfl rfl (hb hby d_jdk_68_method_2_code_19)
  refine Go.step st_9 ?_
  have N_9 := Fr.snoc X_9 N_6 g_a1
  have le_9 : h_6.size ≤ h_9.size := Nat.le_of_eq W_9.size.symm
  have KP_9 := KP_6.wr W_9 (Or.inl (List.mem_of_getElem? (i := 0) rfl))
  have O_9 := O_6.wr W_9 g_a1
  have F_9 : Fld Z h_9 a1 "java/lang/AbstractStringBuilder" "coder" "B" (.int (0 : Int32)) := f8.same W_9
  show Go p e below _ (T_9.setTop (mkF m 22 #[vR a1, vI 16] []))
  refine Go.step (fun _ k => XS.goto X_9.here hx rfl (pc0 := 22) (pc' := 38) rfl (hb hby d_jdk_68_method_2_code_22) (by decide) (by decide) k) ?_
  show Go p e below _ (T_9.setTop (mkF m 38 #[vR a1, vI 16] []))
  have f10 : Arv Z h_9 b3 k_3 .byte (16 : Int32) [(.int (0 : Int32)), (.int (0 : Int32)), (.int (0 : Int32)), (.int (0 : Int32)), (.int (0 : Int32)), (.int (0 : Int32)), (.int (0 : Int32)), (.int (0 : Int32)), (.int (0 : Int32)), (.int (0 : Int32)), (.int (0 : Int32)), (.int (0 : Int32)), (.int (0 : Int32)), (.int (0 : Int32)), (.int (0 : Int32)), (.int (0 : Int32))] (.int (0 : Int32)) := ((V_3.other W_6 (Ne.symm (Nat.ne_of_lt (Nat.lt_of_lt_of_le E_a1.lt (Nat.le_trans (Nat.le_refl _) ge_3))))).other W_9 (Ne.symm (Nat.ne_of_lt (Nat.lt_of_lt_of_le E_a1.lt (Nat.le_trans (Nat.le_refl _) ge_3)))))
  have Ac11 : Arv Z h_9 b3 k_3 .byte (16 : Int32) ((List.replicate 16 (0 : Int32)).map Value.int) (.int (0 : Int32)) := by
    have q := f10
    rw [show [Value.int (0 : Int32), Value.int (0 : Int32), Value.int (0 : Int32), Value.int (0 : Int32), Value.int (0 : Int32), Value.int (0 : Int32), Value.int (0 : Int32), Value.int (0 : Int32), Value.int (0 : Int32), Value.int (0 : Int32), Value.int (0 : Int32), Value.int (0 : Int32), Value.int (0 : Int32), Value.int (0 : Int32), Value.int (0 : Int32), Value.int (0 : Int32)] = ((List.replicate 16 (0 : Int32)).map Value.int) from rfl] at q
    exact q
  have f12 : Fld Z h_9 a1 "java/lang/AbstractStringBuilder" "value" "[B" (.ref b3) := (F_6.other W_9 (Or.inr (sn_1 hw)))
  have f13 : Exa Z h_9 b3 "[B" := ((B_3.wr W_6).wr W_9)
  have f14 : Fld Z h_9 a1 "java/lang/AbstractStringBuilder" "count" "I" (.int (0 : Int32)) := (((F_n.ext E_3).other W_6 (Or.inr (sn_2 hw))).other W_9 (Or.inr (sn_3 hw)))
  exact Go.ret0 X_9 hx hlk hret (hb hby d_jdk_68_method_2_code_38) (by decide) (by decide) (by rw [e_9]; exact ⟨b3, k_3, rfl, N_9, KP_9, f12, sz_b3, f13, F_9, f14, Ac11⟩)
--@E
--@C sbi
def Q_sbi (Z : State) (zc : Int32) (vfm : Value) (a1 : Addr) (h0 : Heap) (n0 : Nat) (v : Option Value) (h : Heap) (L : List Loc) : Prop := ∃ (t : Addr) (kt : ClassId), v = none ∧ Fr n0 L ∧ Keep h0 h [a1] ∧ Fld Z h a1 "java/lang/AbstractStringBuilder" "value" "[B" (.ref t) ∧ h0.size ≤ t ∧ Exa Z h t "[B" ∧ Fld Z h a1 "java/lang/AbstractStringBuilder" "coder" "B" (.int (0 : Int32)) ∧ Fld Z h a1 "java/lang/AbstractStringBuilder" "count" "I" (.int (0 : Int32)) ∧ Arv Z h t kt .byte (16 : Int32) ((List.replicate 16 (0 : Int32)).map Value.int) (.int (0 : Int32))
set_option maxRecDepth 65536 in
set_option maxHeartbeats 40000000 in
theorem rm_sbi (l : Launch) (Z : State) (a0 : Array Value) (hw : ∀ d ∈ tables_1, d.before a0 Z = true) (zc : Int32) (vfm : Value) (a1 : Addr) (h0 : Heap) (n0 : Nat) (Z0 : n0 ≤ h0.size) (E_a1 : Exa Z h0 a1 "java/lang/StringBuilder") (F_v : Fld Z h0 a1 "java/lang/AbstractStringBuilder" "value" "[B" .null) (F_c : Fld Z h0 a1 "java/lang/AbstractStringBuilder" "coder" "B" (.int (0 : Int32))) (F_n : Fld Z h0 a1 "java/lang/AbstractStringBuilder" "count" "I" (.int (0 : Int32))) (g_a1 : n0 ≤ a1) (hSt : St Z zc vfm) (hO : Old Z n0 h0) :
    CN l Z ({ cls := "java/lang/StringBuilder", name := "<init>", desc := "()V" } : Jvm.MethodName) [(Jvm.Cond.code ({ cls := "java/lang/StringBuilder", name := "<init>", desc := "()V" } : Jvm.MethodName) jdk_67_method_1_code (1 : Nat) (Option.none : Option Jvm.ClassFile.FieldType))] ({ frames := 2, cells := 1, slots := 16, locals := 25 } : Room) #[(.ref a1)] h0 (Q_sbi Z zc vfm a1 h0 n0) := by
  refine CN.of (L0 := #[vR a1]) (plainFor_of_name pn_1) (fun m => by first | (simp [entryFrame, mkF, argsToLocals, Value.category]; done) | rfl) ?_
  intro p e s m below meth c s₁ hx hby hml hret hlk hZ hown hnm X0 e0
  have N0 := Fr.nil n0
  have KP0 := Keep.refl h0 [a1]
  have hSt_ := hSt
  obtain ⟨S_cs, n_cs, S_fm, r_fm⟩ := hSt_
  show Go p e below _ (s₁.setTop (mkF m 0 #[vR a1] []))
  refine Go.step (fun _ k => XS.aloadN X0.here hx rfl (hb hby d_jdk_67_method_1_code_0) rfl rfl k) ?_
  refine Go.step (fun _ k => XS.bipush X0.here hx rfl (hb hby d_jdk_67_method_1_code_1) k) ?_
  show Go p e below _ (s₁.setTop (mkF m 3 #[vR a1] [(.int (16 : Int32)), (.ref a1)]))
  obtain ⟨v_15, T_15, L_15, X_15, hQ_15, st_15⟩ := goC X0 hx hZ (y := Y_0) hown rfl (wd_50 hw) (wd_51 hw) (wd_55 hw) (by decide) (backOf (W := 0) (rm_abi l Z a0 hw zc vfm (a1) h0 n0 (Nat.le_trans Z0 KP0.1) E_a1 F_v F_c F_n g_a1 hSt hO) hZ (wd_55 hw) (wd_54 hw) (by decide) (by decide)) e0 (g := (mkF m 3 #[vR a1] [(.int (16 : Int32)), (.ref a1)])) rfl (by rw [hml]; rfl) (a := a1) (argsL := [(.int (16 : Int32))]) (rest := []) rfl (lenOf pd_0 rfl) rfl (by show 2 * 0 + _ ≤ _; exact Nat.le_of_eq rfl) (hb hby d_jdk_67_method_1_code_3) (by decide) (by decide)
  obtain ⟨t_15, kt_15, rfl, Nq_15, K_15, u0_15, u1_15, u2_15, u3_15, u4_15, u5_15⟩ := hQ_15
  have N_15 := Fr.app N0 Nq_15
  have le_15 : h0.size ≤ T_15.heap.size := K_15.1
  have KP_15 := KP0.trans K_15 (allS (Or.inl (List.mem_of_getElem? (i := 0) rfl)) all0)
  have O_15 := hO.keep K_15 (allS g_a1 all0)
  have sz_t_15 : h0.size ≤ t_15 := Nat.le_trans (Nat.le_refl _) u1_15
  have g_t_15 : n0 ≤ t_15 := Nat.le_trans Z0 sz_t_15
  refine Go.step st_15 ?_
  show Go p e below _ (T_15.setTop (mkF m 6 #[vR a1] []))
  exact Go.ret0 X_15 hx hlk hret (hb hby d_jdk_67_method_1_code_6) (by decide) (by decide) (by exact ⟨t_15, kt_15, rfl, N_15, KP_15, u0_15, sz_t_15, u2_15, u3_15, u4_15, u5_15⟩)
--@E
--@C coder
def Q_coder (Z : State) (zc : Int32) (vfm : Value) (a1 : Addr) (h0 : Heap) (n0 : Nat) (v : Option Value) (h : Heap) (L : List Loc) : Prop := v = some (.int (0 : Int32)) ∧ Fr n0 L ∧ h = h0
set_option maxRecDepth 65536 in
set_option maxHeartbeats 40000000 in
theorem rm_coder (l : Launch) (Z : State) (a0 : Array Value) (hw : ∀ d ∈ tables_1, d.before a0 Z = true) (zc : Int32) (vfm : Value) (a1 : Addr) (h0 : Heap) (n0 : Nat) (Z0 : n0 ≤ h0.size) (Fc_a1 : Fld Z h0 a1 "java/lang/String" "coder" "B" (.int (0 : Int32))) (hSt : St Z zc vfm) (hO : Old Z n0 h0) :
    CN l Z ({ cls := "java/lang/String", name := "coder", desc := "()B" } : Jvm.MethodName) [(Jvm.Cond.code ({ cls := "java/lang/String", name := "coder", desc := "()B" } : Jvm.MethodName) jdk_42_method_152_code (1 : Nat) (Option.some Jvm.ClassFile.FieldType.byte))] ({ frames := 0, cells := 0, slots := 0, locals := 0 } : Room) #[(.ref a1)] h0 (Q_coder Z zc vfm a1 h0 n0) := by
  refine CN.of (L0 := #[vR a1]) (plainFor_of_name pn_2) (fun m => by first | (simp [entryFrame, mkF, argsToLocals, Value.category]; done) | rfl) ?_
  intro p e s m below meth c s₁ hx hby hml hret hlk hZ hown hnm X0 e0
  have N0 := Fr.nil n0
  have KP0 := Keep.refl h0 []
  have hSt_ := hSt
  obtain ⟨S_cs, n_cs, S_fm, r_fm⟩ := hSt_
  show Go p e below _ (s₁.setTop (mkF m 0 #[vR a1] []))
  obtain ⟨T_16, X_16, e_16, st_16⟩ := getS2 X0 hx hZ hown (host := "") (Or.inl (wd_29 hw)) Via.refl e0 (S_cs.ext hO.2) (g := (mkF m 0 #[vR a1] [])) rfl (hb hby d_jdk_42_method_152_code_0)
  refine Go.step st_16 ?_
  show Go p e below _ (T_16.setTop (mkF m 3 #[vR a1] [(.int zc)]))
  refine Go.step (fun _ k => XS.ifNo X_16.here hx rfl (hb hby d_jdk_42_method_152_code_3) rfl ((if0 _ _).trans (feq (n_cs : ¬ (zc = (0 : Int32)))).1) k) ?_
  show Go p e below _ (T_16.setTop (mkF m 6 #[vR a1] []))
  refine Go.step (fun _ k => XS.aloadN X_16.here hx rfl (hb hby d_jdk_42_method_152_code_6) rfl rfl k) ?_
  show Go p e below _ (T_16.setTop (mkF m 7 #[vR a1] [(.ref a1)]))
  obtain ⟨T_17, X_17, e_17, st_17⟩ := getF X_16 hx hZ hown (host := "") (Or.inl (wd_25 hw)) Via.refl e_16 Fc_a1 (g := (mkF m 7 #[vR a1] [(.ref a1)])) rfl rfl (hb hby d_jdk_42_method_152_code_7)
  refine Go.step st_17 ?_
  show Go p e below _ (T_17.setTop (mkF m 10 #[vR a1] [(.int (0 : Int32))]))
  refine Go.step (fun _ k => XS.goto X_17.here hx rfl (pc0 := 10) (pc' := 14) rfl (hb hby d_jdk_42_method_152_code_10) (by decide) (by decide) k) ?_
  show Go p e below _ (T_17.setTop (mkF m 14 #[vR a1] [(.int (0 : Int32))]))
  exact Go.retV X_17 hx hlk hret rfl (Or.inl ⟨rfl, Or.inr (Or.inr (Or.inl rfl)), _, rfl⟩) (hb hby d_jdk_42_method_152_code_14) (by decide) (by decide) (by rw [e_17]; exact ⟨rfl, N0, rfl⟩)
--@E
--@C inf
def Q_inf (Z : State) (zc : Int32) (vfm : Value) (a1 : Addr) (x1 : Addr) (ds : List Int32) (h0 : Heap) (n0 : Nat) (v : Option Value) (h : Heap) (L : List Loc) : Prop := v = none ∧ Fr n0 L ∧ h = h0
set_option maxRecDepth 65536 in
set_option maxHeartbeats 40000000 in
theorem rm_inf (l : Launch) (Z : State) (a0 : Array Value) (hw : ∀ d ∈ tables_1, d.before a0 Z = true) (zc : Int32) (vfm : Value) (a1 : Addr) (x1 : Addr) (ds : List Int32) (h0 : Heap) (n0 : Nat) (Z0 : n0 ≤ h0.size) (F_c : Fld Z h0 a1 "java/lang/AbstractStringBuilder" "coder" "B" (.int (0 : Int32))) (S_x1 : Str Z h0.size h0 x1 ds) (hSt : St Z zc vfm) (hO : Old Z n0 h0) :
    CN l Z ({ cls := "java/lang/AbstractStringBuilder", name := "inflateIfNeededFor", desc := "(Ljava/lang/String;)V" } : Jvm.MethodName) [(Jvm.Cond.code ({ cls := "java/lang/AbstractStringBuilder", name := "inflateIfNeededFor", desc := "(Ljava/lang/String;)V" } : Jvm.MethodName) jdk_68_method_71_code (2 : Nat) (Option.none : Option Jvm.ClassFile.FieldType))] ({ frames := 1, cells := 0, slots := 0, locals := 13 } : Room) #[(.ref a1), (.ref x1)] h0 (Q_inf Z zc vfm a1 x1 ds h0 n0) := by
  refine CN.of (L0 := #[vR a1, vR x1]) (plainFor_of_name pn_0) (fun m => by first | (simp [entryFrame, mkF, argsToLocals, Value.category]; done) | rfl) ?_
  intro p e s m below meth c s₁ hx hby hml hret hlk hZ hown hnm X0 e0
  have N0 := Fr.nil n0
  have KP0 := Keep.refl h0 []
  have hSt_ := hSt
  obtain ⟨S_cs, n_cs, S_fm, r_fm⟩ := hSt_
  show Go p e below _ (s₁.setTop (mkF m 0 #[vR a1, vR x1] []))
  obtain ⟨T_18, X_18, e_18, st_18⟩ := getS2 X0 hx hZ hown (host := "") (Or.inl (wd_57 hw)) Via.refl e0 (S_cs.ext hO.2) (g := (mkF m 0 #[vR a1, vR x1] [])) rfl (hb hby d_jdk_68_method_71_code_0)
  refine Go.step st_18 ?_
  show Go p e below _ (T_18.setTop (mkF m 3 #[vR a1, vR x1] [(.int zc)]))
  refine Go.step (fun _ k => XS.ifNo X_18.here hx rfl (hb hby d_jdk_68_method_71_code_3) rfl ((if0 _ _).trans (feq (n_cs : ¬ (zc = (0 : Int32)))).1) k) ?_
  show Go p e below _ (T_18.setTop (mkF m 6 #[vR a1, vR x1] []))
  refine Go.step (fun _ k => XS.aloadN X_18.here hx rfl (hb hby d_jdk_68_method_71_code_6) rfl rfl k) ?_
  show Go p e below _ (T_18.setTop (mkF m 7 #[vR a1, vR x1] [(.ref a1)]))
  obtain ⟨T_19, X_19, e_19, st_19⟩ := getF X_18 hx hZ hown (host := "") (Or.inl (wd_60 hw)) Via.refl e_18 F_c (g := (mkF m 7 #[vR a1, vR x1] [(.ref a1)])) rfl rfl (hb hby d_jdk_68_method_71_code_7)
  refine Go.step st_19 ?_
  show Go p e below _ (T_19.setTop (mkF m 10 #[vR a1, vR x1] [(.int (0 : Int32))]))
  refine Go.step (fun _ k => XS.aloadN X_19.here hx rfl (hb hby d_jdk_68_method_71_code_10) rfl rfl k) ?_
  show Go p e below _ (T_19.setTop (mkF m 11 #[vR a1, vR x1] [(.ref x1), (.int (0 : Int32))]))
  have cp20 := S_x1
  obtain ⟨t21, kb21, -, hb21, Ex21, Fv21, Fc21, Av21, hl21, hn21⟩ := cp20
  obtain ⟨v_22, T_22, L_22, X_22, hQ_22, st_22⟩ := goV X_19 hx hZ (y := Y_1) (z := Y_1) hown (wd_99 hw) (wd_78 hw) (notFace_of_selects (args := #[]) (mvT hZ (wd_80 hw))) (wd_80 hw) (wd_79 hw) (by decide) (backOf (W := 1) (rm_coder l Z a0 hw zc vfm (x1) h0 n0 (Nat.le_trans Z0 KP0.1) Fc21 hSt hO) hZ (wd_81 hw) (wd_6 hw) (by decide) (by decide)) e_19 Ex21 (g := (mkF m 11 #[vR a1, vR x1] [(.ref x1), (.int (0 : Int32))])) rfl (by rw [hml]; rfl) (argsL := []) (rest := [(.int (0 : Int32))]) rfl (lenOf pd_1 rfl) rfl (by show 2 * 0 + _ ≤ _; exact Nat.le_of_eq rfl) (hb hby d_jdk_68_method_71_code_11) (by decide) (by decide)
  obtain ⟨rfl, Nq_22, e_22⟩ := hQ_22
  have N_22 := Fr.app N0 Nq_22
  refine Go.step st_22 ?_
  show Go p e below _ (T_22.setTop (mkF m 14 #[vR a1, vR x1] [(.int (0 : Int32)), (.int (0 : Int32))]))
  refine Go.step (fun _ k => XS.icmpYes X_22.here hx rfl (pc0 := 14) (pc' := 21) rfl (hb hby d_jdk_68_method_71_code_14) rfl (teq ((by decide) : (0 : Int32) = (0 : Int32))).1 (by decide) (by decide) k) ?_
  show Go p e below _ (T_22.setTop (mkF m 21 #[vR a1, vR x1] []))
  exact Go.ret0 X_22 hx hlk hret (hb hby d_jdk_68_method_71_code_21) (by decide) (by decide) (by rw [e_22]; exact ⟨rfl, N_22, rfl⟩)
--@E
--@C gby
def Q_gby (Z : State) (zc : Int32) (vfm : Value) (t1 : Addr) (k1 : ClassId) (z1 : Int32) (bs : List Int32) (cs : List Int32) (x1 : Addr) (ds : List Int32) (h0 : Heap) (n0 : Nat) (v : Option Value) (h : Heap) (L : List Loc) : Prop := v = none ∧ Fr n0 L ∧ Keep h0 h [t1] ∧ Arv Z h t1 k1 .byte z1 ((insB bs cs ds).map Value.int) (.int (0 : Int32))
set_option maxRecDepth 65536 in
set_option maxHeartbeats 40000000 in
theorem rm_gby (l : Launch) (Z : State) (a0 : Array Value) (hw : ∀ d ∈ tables_1, d.before a0 Z = true) (zc : Int32) (vfm : Value) (t1 : Addr) (k1 : ClassId) (z1 : Int32) (bs : List Int32) (cs : List Int32) (x1 : Addr) (ds : List Int32) (h0 : Heap) (n0 : Nat) (Z0 : n0 ≤ h0.size) (A_t1 : Arv Z h0 t1 k1 .byte z1 (bs.map Value.int) (.int (0 : Int32))) (g_t1 : n0 ≤ t1) (S_x1 : Str Z h0.size h0 x1 ds) (hz : (z1 = Int32.ofNat bs.length)) (hbs : (bs.length ≤ 100)) (hN : (cs.length + ds.length ≤ bs.length)) (hSt : St Z zc vfm) (hO : Old Z n0 h0) :
    CN l Z ({ cls := "java/lang/String", name := "getBytes", desc := "([BIB)V" } : Jvm.MethodName) [(Jvm.Cond.code ({ cls := "java/lang/String", name := "getBytes", desc := "([BIB)V" } : Jvm.MethodName) jdk_42_method_147_code (4 : Nat) (Option.none : Option Jvm.ClassFile.FieldType))] ({ frames := 1, cells := 0, slots := 0, locals := 18 } : Room) #[(.ref x1), (.ref t1), (.int (Int32.ofNat cs.length)), (.int (0 : Int32))] h0 (Q_gby Z zc vfm t1 k1 z1 bs cs x1 ds h0 n0) := by
  refine CN.of (L0 := #[vR x1, vR t1, vI (Int32.ofNat cs.length), vI 0]) (plainFor_of_name pn_2) (fun m => by first | (simp [entryFrame, mkF, argsToLocals, Value.category]; done) | rfl) ?_
  intro p e s m below meth c s₁ hx hby hml hret hlk hZ hown hnm X0 e0
  have N0 := Fr.nil n0
  have KP0 := Keep.refl h0 [t1]
  have hSt_ := hSt
  obtain ⟨S_cs, n_cs, S_fm, r_fm⟩ := hSt_
  show Go p e below _ (s₁.setTop (mkF m 0 #[vR x1, vR t1, vI (Int32.ofNat cs.length), vI 0] []))
  refine Go.step (fun _ k => XS.aloadN X0.here hx rfl (hb hby d_jdk_42_method_147_code_0) rfl rfl k) ?_
  show Go p e below _ (s₁.setTop (mkF m 1 #[vR x1, vR t1, vI (Int32.ofNat cs.length), vI 0] [(.ref x1)]))
  have cp23 := S_x1
  obtain ⟨t24, kb24, -, hb24, Ex24, Fv24, Fc24, Av24, hl24, hn24⟩ := cp23
  obtain ⟨v_25, T_25, L_25, X_25, hQ_25, st_25⟩ := goV X0 hx hZ (y := Y_1) (z := Y_1) hown (wd_77 hw) (wd_78 hw) (notFace_of_selects (args := #[]) (mvT hZ (wd_80 hw))) (wd_80 hw) (wd_79 hw) (by decide) (backOf (W := 0) (rm_coder l Z a0 hw zc vfm (x1) h0 n0 (Nat.le_trans Z0 KP0.1) Fc24 hSt hO) hZ (wd_81 hw) (wd_6 hw) (by decide) (by decide)) e0 Ex24 (g := (mkF m 1 #[vR x1, vR t1, vI (Int32.ofNat cs.length), vI 0] [(.ref x1)])) rfl (by rw [hml]; rfl) (argsL := []) (rest := []) rfl (lenOf pd_1 rfl) rfl (by show 2 * 0 + _ ≤ _; exact Nat.le_of_eq rfl) (hb hby d_jdk_42_method_147_code_1) (by decide) (by decide)
  obtain ⟨rfl, Nq_25, e_25⟩ := hQ_25
  have N_25 := Fr.app N0 Nq_25
  refine Go.step st_25 ?_
  show Go p e below _ (T_25.setTop (mkF m 4 #[vR x1, vR t1, vI (Int32.ofNat cs.length), vI 0] [(.int (0 : Int32))]))
  refine Go.step (fun _ k => XS.iloadN X_25.here hx rfl (hb hby d_jdk_42_method_147_code_4) rfl  k) ?_
  show Go p e below _ (T_25.setTop (mkF m 5 #[vR x1, vR t1, vI (Int32.ofNat cs.length), vI 0] [(.int (0 : Int32)), (.int (0 : Int32))]))
  refine Go.step (fun _ k => XS.icmpNo X_25.here hx rfl (hb hby d_jdk_42_method_147_code_5) rfl (teq ((by decide) : (0 : Int32) = (0 : Int32))).2 k) ?_
  show Go p e below _ (T_25.setTop (mkF m 8 #[vR x1, vR t1, vI (Int32.ofNat cs.length), vI 0] []))
  refine Go.step (fun _ k => XS.aloadN X_25.here hx rfl (hb hby d_jdk_42_method_147_code_8) rfl rfl k) ?_
  show Go p e below _ (T_25.setTop (mkF m 9 #[vR x1, vR t1, vI (Int32.ofNat cs.length), vI 0] [(.ref x1)]))
  obtain ⟨T_26, X_26, e_26, st_26⟩ := getF X_25 hx hZ hown (host := "") (Or.inl (wd_24 hw)) Via.refl e_25 Fv24 (g := (mkF m 9 #[vR x1, vR t1, vI (Int32.ofNat cs.length), vI 0] [(.ref x1)])) rfl rfl (hb hby d_jdk_42_method_147_code_9)
  refine Go.step st_26 ?_
  show Go p e below _ (T_26.setTop (mkF m 12 #[vR x1, vR t1, vI (Int32.ofNat cs.length), vI 0] [(.ref t24)]))
  refine Go.step (fun _ k => XS.iconst X_26.here hx rfl (hb hby d_jdk_42_method_147_code_12) k) ?_
  refine Go.step (fun _ k => XS.aloadN X_26.here hx rfl (hb hby d_jdk_42_method_147_code_13) rfl rfl k) ?_
  refine Go.step (fun _ k => XS.iloadN X_26.here hx rfl (hb hby d_jdk_42_method_147_code_14) rfl  k) ?_
  refine Go.step (fun _ k => XS.iloadN X_26.here hx rfl (hb hby d_jdk_42_method_147_code_15) rfl  k) ?_
  show Go p e below _ (T_26.setTop (mkF m 16 #[vR x1, vR t1, vI (Int32.ofNat cs.length), vI 0] [(.int (0 : Int32)), (.int (Int32.ofNat cs.length)), (.ref t1), (.int (0 : Int32)), (.ref t24)]))
  refine Go.step (fun _ k => XS.ishl X_26.here hx rfl (hb hby d_jdk_42_method_147_code_16) rfl k) ?_
  show Go p e below _ (T_26.setTop (mkF m 17 #[vR x1, vR t1, vI (Int32.ofNat cs.length), vI 0] [(.int ((Int32.ofNat cs.length) <<< ((0 : Int32) &&& 31))), (.ref t1), (.int (0 : Int32)), (.ref t24)]))
  refine own_top (congrArg Value.int (show ((Int32.ofNat cs.length) <<< ((0 : Int32) &&& 31)) = (Int32.ofNat cs.length) from shl0 _)) ?_
  show Go p e below _ (T_26.setTop (mkF m 17 #[vR x1, vR t1, vI (Int32.ofNat cs.length), vI 0] [(.int (Int32.ofNat cs.length)), (.ref t1), (.int (0 : Int32)), (.ref t24)]))
  refine Go.step (fun _ k => XS.aloadN X_26.here hx rfl (hb hby d_jdk_42_method_147_code_17) rfl rfl k) ?_
  show Go p e below _ (T_26.setTop (mkF m 18 #[vR x1, vR t1, vI (Int32.ofNat cs.length), vI 0] [(.ref x1), (.int (Int32.ofNat cs.length)), (.ref t1), (.int (0 : Int32)), (.ref t24)]))
  obtain ⟨T_27, X_27, e_27, st_27⟩ := getF X_26 hx hZ hown (host := "") (Or.inl (wd_24 hw)) Via.refl e_26 Fv24 (g := (mkF m 18 #[vR x1, vR t1, vI (Int32.ofNat cs.length), vI 0] [(.ref x1), (.int (Int32.ofNat cs.length)), (.ref t1), (.int (0 : Int32)), (.ref t24)])) rfl rfl (hb hby d_jdk_42_method_147_code_18)
  refine Go.step st_27 ?_
  show Go p e below _ (T_27.setTop (mkF m 21 #[vR x1, vR t1, vI (Int32.ofNat cs.length), vI 0] [(.ref t24), (.int (Int32.ofNat cs.length)), (.ref t1), (.int (0 : Int32)), (.ref t24)]))
  have cp29 := Av24
  obtain ⟨cl_28, Ar_28, -, Sz_28, Ng_28, -, -⟩ := cp29
  refine Go.step (fun _ k => X_27.arraylength hx (by rw [e_27]; exact Ar_28.1) (State.isArrayOf_alike hZ.alike Ar_28.2.1) (g := (mkF m 21 #[vR x1, vR t1, vI (Int32.ofNat cs.length), vI 0] [(.ref t24), (.int (Int32.ofNat cs.length)), (.ref t1), (.int (0 : Int32)), (.ref t24)])) rfl rfl (hb hby d_jdk_42_method_147_code_21) _ k) ?_
  rw [len_of Sz_28 Ng_28]
  show Go p e below _ (T_27.setTop (mkF m 22 #[vR x1, vR t1, vI (Int32.ofNat cs.length), vI 0] [(.int (Int32.ofNat ds.length)), (.int (Int32.ofNat cs.length)), (.ref t1), (.int (0 : Int32)), (.ref t24)]))
  obtain ⟨T_30, h_30, L_30, X_30, e_30, N_30, K_30, V_30, st_30⟩ := cpA X_27 hx hZ hown (wd_105 hw) (wd_108 hw) (wd_106 hw) (wd_107 hw) e_27 Av24 A_t1 (sp := (0 : Int32)) (dp := (Int32.ofNat cs.length)) (nn := (Int32.ofNat ds.length)) (Or.inl ⟨rfl, rfl⟩) (by decide) (ofn_pos (by omega)) (ofn_pos (by omega)) (by rw [clampN (k := ds.length) (by omega)]; exact Nat.le_of_eq (Nat.zero_add _)) (by rw [hz, clampN (k := cs.length) (by omega), clampN (k := ds.length) (by omega), clampN (k := bs.length) (by omega)]; exact hN) rfl (by rw [clampN (k := cs.length) (by omega), clampN (k := ds.length) (by omega), List.length_map]; exact hN) N_25 g_t1 (g := (mkF m 22 #[vR x1, vR t1, vI (Int32.ofNat cs.length), vI 0] [(.int (Int32.ofNat ds.length)), (.int (Int32.ofNat cs.length)), (.ref t1), (.int (0 : Int32)), (.ref t24)])) rfl (by rw [hml]; rfl) (rest := []) rfl (hb hby d_jdk_42_method_147_code_22) (by decide) (W := 0) (by show 2 * 0 + _ ≤ _; exact Nat.le_of_eq rfl) (by decide)
  refine Go.step st_30 ?_
  have le_30 : h0.size ≤ h_30.size := K_30.1
  have KP_30 := KP0.trans K_30 (allS (Or.inl (List.mem_of_getElem? (i := 0) rfl)) all0)
  have O_30 := hO.keep K_30 (allS g_t1 all0)
  have A_30 : Arv Z h_30 t1 k1 .byte z1 ((insB bs cs ds).map Value.int) (.int (0 : Int32)) := by
    have q := V_30
    rw [cp_ins (by decide) (clampN (by omega)) (clampN (by omega))] at q
    exact q
  show Go p e below _ (T_30.setTop (mkF m 25 #[vR x1, vR t1, vI (Int32.ofNat cs.length), vI 0] []))
  refine Go.step (fun _ k => XS.goto X_30.here hx rfl (pc0 := 25) (pc' := 43) rfl (hb hby d_jdk_42_method_147_code_25) (by decide) (by decide) k) ?_
  show Go p e below _ (T_30.setTop (mkF m 43 #[vR x1, vR t1, vI (Int32.ofNat cs.length), vI 0] []))
  exact Go.ret0 X_30 hx hlk hret (hb hby d_jdk_42_method_147_code_43) (by decide) (by decide) (by rw [e_30]; exact ⟨rfl, N_30, KP_30, A_30⟩)
--@E
--@C psa
def Q_psa (Z : State) (zc : Int32) (vfm : Value) (a1 : Addr) (t1 : Addr) (k1 : ClassId) (z1 : Int32) (bs : List Int32) (cs : List Int32) (x1 : Addr) (ds : List Int32) (h0 : Heap) (n0 : Nat) (v : Option Value) (h : Heap) (L : List Loc) : Prop := v = none ∧ Fr n0 L ∧ Keep h0 h [t1] ∧ Arv Z h t1 k1 .byte z1 ((insB bs cs ds).map Value.int) (.int (0 : Int32))
set_option maxRecDepth 65536 in
set_option maxHeartbeats 40000000 in
theorem rm_psa (l : Launch) (Z : State) (a0 : Array Value) (hw : ∀ d ∈ tables_1, d.before a0 Z = true) (zc : Int32) (vfm : Value) (a1 : Addr) (t1 : Addr) (k1 : ClassId) (z1 : Int32) (bs : List Int32) (cs : List Int32) (x1 : Addr) (ds : List Int32) (h0 : Heap) (n0 : Nat) (Z0 : n0 ≤ h0.size) (E_a1 : Exa Z h0 a1 "java/lang/StringBuilder") (F_a1v : Fld Z h0 a1 "java/lang/AbstractStringBuilder" "value" "[B" (.ref t1)) (F_a1c : Fld Z h0 a1 "java/lang/AbstractStringBuilder" "coder" "B" (.int (0 : Int32))) (A_t1 : Arv Z h0 t1 k1 .byte z1 (bs.map Value.int) (.int (0 : Int32))) (g_t1 : n0 ≤ t1) (S_x1 : Str Z h0.size h0 x1 ds) (hz : (z1 = Int32.ofNat bs.length)) (hbs : (bs.length ≤ 100)) (hN : (cs.length + ds.length ≤ bs.length)) (hSt : St Z zc vfm) (hO : Old Z n0 h0) :
    CN l Z ({ cls := "java/lang/AbstractStringBuilder", name := "putStringAt", desc := "(ILjava/lang/String;)V" } : Jvm.MethodName) [(Jvm.Cond.code ({ cls := "java/lang/AbstractStringBuilder", name := "putStringAt", desc := "(ILjava/lang/String;)V" } : Jvm.MethodName) jdk_68_method_73_code (3 : Nat) (Option.none : Option Jvm.ClassFile.FieldType))] ({ frames := 2, cells := 0, slots := 0, locals := 33 } : Room) #[(.ref a1), (.int (Int32.ofNat cs.length)), (.ref x1)] h0 (Q_psa Z zc vfm a1 t1 k1 z1 bs cs x1 ds h0 n0) := by
  refine CN.of (L0 := #[vR a1, vI (Int32.ofNat cs.length), vR x1]) (plainFor_of_name pn_0) (fun m => by first | (simp [entryFrame, mkF, argsToLocals, Value.category]; done) | rfl) ?_
  intro p e s m below meth c s₁ hx hby hml hret hlk hZ hown hnm X0 e0
  have N0 := Fr.nil n0
  have KP0 := Keep.refl h0 [t1]
  have hSt_ := hSt
  obtain ⟨S_cs, n_cs, S_fm, r_fm⟩ := hSt_
  show Go p e below _ (s₁.setTop (mkF m 0 #[vR a1, vI (Int32.ofNat cs.length), vR x1] []))
  refine Go.step (fun _ k => XS.aloadN X0.here hx rfl (hb hby d_jdk_68_method_73_code_0) rfl rfl k) ?_
  refine Go.step (fun _ k => XS.aloadN X0.here hx rfl (hb hby d_jdk_68_method_73_code_1) rfl rfl k) ?_
  show Go p e below _ (s₁.setTop (mkF m 2 #[vR a1, vI (Int32.ofNat cs.length), vR x1] [(.ref x1), (.ref a1)]))
  obtain ⟨v_31, T_31, L_31, X_31, hQ_31, st_31⟩ := goP X0 hx hZ (y := Y_2) hown (wd_94 hw) (wd_95 hw) (sel_priv (wd_97 hw) (Cond.privateMethod_at (wd_96 hw)) (wd_95 hw) (by decide)) (wd_96 hw) (wd_98 hw) (by decide) (backOf (W := 0) (rm_inf l Z a0 hw zc vfm (a1) (x1) (ds) h0 n0 (Nat.le_trans Z0 KP0.1) F_a1c S_x1 hSt hO) hZ (wd_98 hw) (wd_54 hw) (by decide) (by decide)) e0 E_a1 (g := (mkF m 2 #[vR a1, vI (Int32.ofNat cs.length), vR x1] [(.ref x1), (.ref a1)])) rfl (by rw [hml]; rfl) (argsL := [(.ref x1)]) (rest := []) rfl (lenOf pd_2 rfl) rfl (by show 2 * 0 + _ ≤ _; exact Nat.le_of_eq rfl) (hb hby d_jdk_68_method_73_code_2) (by decide) (by decide)
  obtain ⟨rfl, Nq_31, e_31⟩ := hQ_31
  have N_31 := Fr.app N0 Nq_31
  refine Go.step st_31 ?_
  show Go p e below _ (T_31.setTop (mkF m 5 #[vR a1, vI (Int32.ofNat cs.length), vR x1] []))
  refine Go.step (fun _ k => XS.aloadN X_31.here hx rfl (hb hby d_jdk_68_method_73_code_5) rfl rfl k) ?_
  refine Go.step (fun _ k => XS.aloadN X_31.here hx rfl (hb hby d_jdk_68_method_73_code_6) rfl rfl k) ?_
  show Go p e below _ (T_31.setTop (mkF m 7 #[vR a1, vI (Int32.ofNat cs.length), vR x1] [(.ref a1), (.ref x1)]))
  obtain ⟨T_32, X_32, e_32, st_32⟩ := getF X_31 hx hZ hown (host := "") (Or.inl (wd_58 hw)) Via.refl e_31 F_a1v (g := (mkF m 7 #[vR a1, vI (Int32.ofNat cs.length), vR x1] [(.ref a1), (.ref x1)])) rfl rfl (hb hby d_jdk_68_method_73_code_7)
  refine Go.step st_32 ?_
  show Go p e below _ (T_32.setTop (mkF m 10 #[vR a1, vI (Int32.ofNat cs.length), vR x1] [(.ref t1), (.ref x1)]))
  refine Go.step (fun _ k => XS.iloadN X_32.here hx rfl (hb hby d_jdk_68_method_73_code_10) rfl  k) ?_
  refine Go.step (fun _ k => XS.aloadN X_32.here hx rfl (hb hby d_jdk_68_method_73_code_11) rfl rfl k) ?_
  show Go p e below _ (T_32.setTop (mkF m 12 #[vR a1, vI (Int32.ofNat cs.length), vR x1] [(.ref a1), (.int (Int32.ofNat cs.length)), (.ref t1), (.ref x1)]))
  obtain ⟨T_33, X_33, e_33, st_33⟩ := getF X_32 hx hZ hown (host := "") (Or.inl (wd_60 hw)) Via.refl e_32 F_a1c (g := (mkF m 12 #[vR a1, vI (Int32.ofNat cs.length), vR x1] [(.ref a1), (.int (Int32.ofNat cs.length)), (.ref t1), (.ref x1)])) rfl rfl (hb hby d_jdk_68_method_73_code_12)
  refine Go.step st_33 ?_
  show Go p e below _ (T_33.setTop (mkF m 15 #[vR a1, vI (Int32.ofNat cs.length), vR x1] [(.int (0 : Int32)), (.int (Int32.ofNat cs.length)), (.ref t1), (.ref x1)]))
  obtain ⟨v_34, T_34, L_34, X_34, hQ_34, st_34⟩ := goV X_33 hx hZ (y := Y_3) (z := Y_3) hown (wd_100 hw) (wd_101 hw) (notFace_of_selects (args := #[]) (mvT hZ (wd_103 hw))) (wd_103 hw) (wd_102 hw) (by decide) (backOf (W := 0) (rm_gby l Z a0 hw zc vfm (t1) (k1) (z1) (bs) (cs) (x1) (ds) h0 n0 (Nat.le_trans Z0 KP0.1) A_t1 g_t1 S_x1 hz hbs hN hSt hO) hZ (wd_104 hw) (wd_6 hw) (by decide) (by decide)) e_33 S_x1.exa (g := (mkF m 15 #[vR a1, vI (Int32.ofNat cs.length), vR x1] [(.int (0 : Int32)), (.int (Int32.ofNat cs.length)), (.ref t1), (.ref x1)])) rfl (by rw [hml]; rfl) (argsL := [(.ref t1), (.int (Int32.ofNat cs.length)), (.int (0 : Int32))]) (rest := []) rfl (lenOf pd_3 rfl) rfl (by show 2 * 0 + _ ≤ _; exact Nat.le_of_eq rfl) (hb hby d_jdk_68_method_73_code_15) (by decide) (by decide)
  obtain ⟨rfl, Nq_34, K_34, u0_34⟩ := hQ_34
  have N_34 := Fr.app N_31 Nq_34
  have le_34 : h0.size ≤ T_34.heap.size := K_34.1
  have KP_34 := KP0.trans K_34 (allS (Or.inl (List.mem_of_getElem? (i := 0) rfl)) all0)
  have O_34 := hO.keep K_34 (allS g_t1 all0)
  refine Go.step st_34 ?_
  show Go p e below _ (T_34.setTop (mkF m 18 #[vR a1, vI (Int32.ofNat cs.length), vR x1] []))
  exact Go.ret0 X_34 hx hlk hret (hb hby d_jdk_68_method_73_code_18) (by decide) (by decide) (by exact ⟨rfl, N_34, KP_34, u0_34⟩)
--@E
--@C ecN
def Q_ecN (Z : State) (zc : Int32) (vfm : Value) (a1 : Addr) (t1 : Addr) (k1 : ClassId) (bs : List Int32) (m1 : Nat) (h0 : Heap) (n0 : Nat) (v : Option Value) (h : Heap) (L : List Loc) : Prop := v = none ∧ Fr n0 L ∧ h = h0
set_option maxRecDepth 65536 in
set_option maxHeartbeats 40000000 in
theorem rm_ecN (l : Launch) (Z : State) (a0 : Array Value) (hw : ∀ d ∈ tables_1, d.before a0 Z = true) (zc : Int32) (vfm : Value) (a1 : Addr) (t1 : Addr) (k1 : ClassId) (bs : List Int32) (m1 : Nat) (h0 : Heap) (n0 : Nat) (Z0 : n0 ≤ h0.size) (E_a1 : Exa Z h0 a1 "java/lang/StringBuilder") (F_a1v : Fld Z h0 a1 "java/lang/AbstractStringBuilder" "value" "[B" (.ref t1)) (F_a1c : Fld Z h0 a1 "java/lang/AbstractStringBuilder" "coder" "B" (.int (0 : Int32))) (A_t1 : Arv Z h0 t1 k1 .byte (16 : Int32) (bs.map Value.int) (.int (0 : Int32))) (hm : (m1 ≤ 16)) (hSt : St Z zc vfm) (hO : Old Z n0 h0) :
    CN l Z ({ cls := "java/lang/AbstractStringBuilder", name := "ensureCapacityInternal", desc := "(I)V" } : Jvm.MethodName) [(Jvm.Cond.code ({ cls := "java/lang/AbstractStringBuilder", name := "ensureCapacityInternal", desc := "(I)V" } : Jvm.MethodName) jdk_68_method_9_code (3 : Nat) (Option.none : Option Jvm.ClassFile.FieldType))] ({ frames := 0, cells := 0, slots := 0, locals := 0 } : Room) #[(.ref a1), (.int (Int32.ofNat m1))] h0 (Q_ecN Z zc vfm a1 t1 k1 bs m1 h0 n0) := by
  refine CN.of (L0 := #[vR a1, vI (Int32.ofNat m1), vU]) (plainFor_of_name pn_0) (fun m => by first | (simp [entryFrame, mkF, argsToLocals, Value.category]; done) | rfl) ?_
  intro p e s m below meth c s₁ hx hby hml hret hlk hZ hown hnm X0 e0
  have N0 := Fr.nil n0
  have KP0 := Keep.refl h0 []
  have hSt_ := hSt
  obtain ⟨S_cs, n_cs, S_fm, r_fm⟩ := hSt_
  show Go p e below _ (s₁.setTop (mkF m 0 #[vR a1, vI (Int32.ofNat m1), vU] []))
  refine Go.step (fun _ k => XS.aloadN X0.here hx rfl (hb hby d_jdk_68_method_9_code_0) rfl rfl k) ?_
  show Go p e below _ (s₁.setTop (mkF m 1 #[vR a1, vI (Int32.ofNat m1), vU] [(.ref a1)]))
  obtain ⟨T_35, X_35, e_35, st_35⟩ := getF X0 hx hZ hown (host := "") (Or.inl (wd_58 hw)) Via.refl e0 F_a1v (g := (mkF m 1 #[vR a1, vI (Int32.ofNat m1), vU] [(.ref a1)])) rfl rfl (hb hby d_jdk_68_method_9_code_1)
  refine Go.step st_35 ?_
  show Go p e below _ (T_35.setTop (mkF m 4 #[vR a1, vI (Int32.ofNat m1), vU] [(.ref t1)]))
  have cp37 := A_t1
  obtain ⟨cl_36, Ar_36, -, Sz_36, Ng_36, -, -⟩ := cp37
  refine Go.step (fun _ k => X_35.arraylength hx (by rw [e_35]; exact Ar_36.1) (State.isArrayOf_alike hZ.alike Ar_36.2.1) (g := (mkF m 4 #[vR a1, vI (Int32.ofNat m1), vU] [(.ref t1)])) rfl rfl (hb hby d_jdk_68_method_9_code_4) _ k) ?_
  rw [len_of Sz_36 Ng_36]
  show Go p e below _ (T_35.setTop (mkF m 5 #[vR a1, vI (Int32.ofNat m1), vU] [(.int (16 : Int32))]))
  refine Go.step (fun _ k => XS.aloadN X_35.here hx rfl (hb hby d_jdk_68_method_9_code_5) rfl rfl k) ?_
  show Go p e below _ (T_35.setTop (mkF m 6 #[vR a1, vI (Int32.ofNat m1), vU] [(.ref a1), (.int (16 : Int32))]))
  obtain ⟨T_38, X_38, e_38, st_38⟩ := getF X_35 hx hZ hown (host := "") (Or.inl (wd_60 hw)) Via.refl e_35 F_a1c (g := (mkF m 6 #[vR a1, vI (Int32.ofNat m1), vU] [(.ref a1), (.int (16 : Int32))])) rfl rfl (hb hby d_jdk_68_method_9_code_6)
  refine Go.step st_38 ?_
  show Go p e below _ (T_38.setTop (mkF m 9 #[vR a1, vI (Int32.ofNat m1), vU] [(.int (0 : Int32)), (.int (16 : Int32))]))
  refine Go.step (fun _ k => XS.ishr X_38.here hx rfl (hb hby d_jdk_68_method_9_code_9) rfl k) ?_
  show Go p e below _ (T_38.setTop (mkF m 10 #[vR a1, vI (Int32.ofNat m1), vU] [(.int ((16 : Int32) >>> ((0 : Int32) &&& 31)))]))
  refine own_top (congrArg Value.int (show ((16 : Int32) >>> ((0 : Int32) &&& 31)) = (16 : Int32) from by decide)) ?_
  show Go p e below _ (T_38.setTop (mkF m 10 #[vR a1, vI (Int32.ofNat m1), vU] [(.int (16 : Int32))]))
  refine Go.step (fun _ k => XS.istoreN X_38.here hx rfl (hb hby d_jdk_68_method_9_code_10) rfl (l' := #[vR a1, vI (Int32.ofNat m1), vI 16]) rfl k) ?_
  show Go p e below _ (T_38.setTop (mkF m 11 #[vR a1, vI (Int32.ofNat m1), vI 16] []))
  refine Go.step (fun _ k => XS.iloadN X_38.here hx rfl (hb hby d_jdk_68_method_9_code_11) rfl  k) ?_
  refine Go.step (fun _ k => XS.iloadN X_38.here hx rfl (hb hby d_jdk_68_method_9_code_12) rfl  k) ?_
  show Go p e below _ (T_38.setTop (mkF m 13 #[vR a1, vI (Int32.ofNat m1), vI 16] [(.int (16 : Int32)), (.int (Int32.ofNat m1))]))
  refine Go.step (fun _ k => XS.isub X_38.here hx rfl (hb hby d_jdk_68_method_9_code_13) rfl k) ?_
  show Go p e below _ (T_38.setTop (mkF m 14 #[vR a1, vI (Int32.ofNat m1), vI 16] [(.int ((Int32.ofNat m1) - (16 : Int32)))]))
  refine Go.step (fun _ k => XS.ifYes X_38.here hx rfl (pc0 := 14) (pc' := 38) rfl (hb hby d_jdk_68_method_9_code_14) rfl ((if0 _ _).trans (flt ((ng_of hm) : ¬ ((0 : Int32) < ((Int32.ofNat m1) - (16 : Int32))))).2.2.2) (by decide) (by decide) k) ?_
  show Go p e below _ (T_38.setTop (mkF m 38 #[vR a1, vI (Int32.ofNat m1), vI 16] []))
  exact Go.ret0 X_38 hx hlk hret (hb hby d_jdk_68_method_9_code_38) (by decide) (by decide) (by rw [e_38]; exact ⟨rfl, N0, rfl⟩)
--@E
--@C mx
def Q_mx (Z : State) (zc : Int32) (vfm : Value) (x1 : Int32) (y1 : Int32) (h0 : Heap) (n0 : Nat) (v : Option Value) (h : Heap) (L : List Loc) : Prop := v = some (.int y1) ∧ Fr n0 L ∧ h = h0
set_option maxRecDepth 65536 in
set_option maxHeartbeats 40000000 in
theorem rm_mx (l : Launch) (Z : State) (a0 : Array Value) (hw : ∀ d ∈ tables_1, d.before a0 Z = true) (zc : Int32) (vfm : Value) (x1 : Int32) (y1 : Int32) (h0 : Heap) (n0 : Nat) (Z0 : n0 ≤ h0.size) (hxy : (x1 < y1)) (hSt : St Z zc vfm) (hO : Old Z n0 h0) :
    CN l Z ({ cls := "java/lang/Math", name := "max", desc := "(II)I" } : Jvm.MethodName) [(Jvm.Cond.code ({ cls := "java/lang/Math", name := "max", desc := "(II)I" } : Jvm.MethodName) jdk_29_method_65_code (2 : Nat) (Option.some Jvm.ClassFile.FieldType.int))] ({ frames := 0, cells := 0, slots := 0, locals := 0 } : Room) #[(.int x1), (.int y1)] h0 (Q_mx Z zc vfm x1 y1 h0 n0) := by
  refine CN.of (L0 := #[vI x1, vI y1]) (Jvm.Free.JP.mathPlain rfl (by decide +kernel)) (fun m => by first | (simp [entryFrame, mkF, argsToLocals, Value.category]; done) | rfl) ?_
  intro p e s m below meth c s₁ hx hby hml hret hlk hZ hown hnm X0 e0
  have N0 := Fr.nil n0
  have KP0 := Keep.refl h0 []
  have hSt_ := hSt
  obtain ⟨S_cs, n_cs, S_fm, r_fm⟩ := hSt_
  show Go p e below _ (s₁.setTop (mkF m 0 #[vI x1, vI y1] []))
  refine Go.step (fun _ k => XS.iloadN X0.here hx rfl (hb hby d_jdk_29_method_65_code_0) rfl  k) ?_
  refine Go.step (fun _ k => XS.iloadN X0.here hx rfl (hb hby d_jdk_29_method_65_code_1) rfl  k) ?_
  show Go p e below _ (s₁.setTop (mkF m 2 #[vI x1, vI y1] [(.int y1), (.int x1)]))
  refine Go.step (fun _ k => XS.icmpYes X0.here hx rfl (pc0 := 2) (pc' := 9) rfl (hb hby d_jdk_29_method_65_code_2) rfl (tlt (hxy : x1 < y1)).1 (by decide) (by decide) k) ?_
  show Go p e below _ (s₁.setTop (mkF m 9 #[vI x1, vI y1] []))
  refine Go.step (fun _ k => XS.iloadN X0.here hx rfl (hb hby d_jdk_29_method_65_code_9) rfl  k) ?_
  show Go p e below _ (s₁.setTop (mkF m 10 #[vI x1, vI y1] [(.int y1)]))
  exact Go.retV X0 hx hlk hret rfl (Or.inl ⟨rfl, Or.inl rfl, _, rfl⟩) (hb hby d_jdk_29_method_65_code_10) (by decide) (by decide) (by rw [e0]; exact ⟨rfl, N0, rfl⟩)
--@E
--@C nl
def Q_nl (Z : State) (zc : Int32) (vfm : Value) (x1 : Int32) (h0 : Heap) (n0 : Nat) (v : Option Value) (h : Heap) (L : List Loc) : Prop := v = some (.int (34 : Int32)) ∧ Fr n0 L ∧ h = h0
set_option maxRecDepth 65536 in
set_option maxHeartbeats 40000000 in
theorem rm_nl (l : Launch) (Z : State) (a0 : Array Value) (hw : ∀ d ∈ tables_1, d.before a0 Z = true) (zc : Int32) (vfm : Value) (x1 : Int32) (h0 : Heap) (n0 : Nat) (Z0 : n0 ≤ h0.size) (hx18 : (x1 < (18 : Int32))) (hSt : St Z zc vfm) (hO : Old Z n0 h0) :
    CN l Z ({ cls := "jdk/internal/util/ArraysSupport", name := "newLength", desc := "(III)I" } : Jvm.MethodName) [(Jvm.Cond.code ({ cls := "jdk/internal/util/ArraysSupport", name := "newLength", desc := "(III)I" } : Jvm.MethodName) jdk_48_method_27_code (4 : Nat) (Option.some Jvm.ClassFile.FieldType.int))] ({ frames := 1, cells := 0, slots := 0, locals := 14 } : Room) #[(.int (16 : Int32)), (.int x1), (.int (18 : Int32))] h0 (Q_nl Z zc vfm x1 h0 n0) := by
  refine CN.of (L0 := #[vI 16, vI x1, vI 18, vU]) (plainFor_of_name pn_3) (fun m => by first | (simp [entryFrame, mkF, argsToLocals, Value.category]; done) | rfl) ?_
  intro p e s m below meth c s₁ hx hby hml hret hlk hZ hown hnm X0 e0
  have N0 := Fr.nil n0
  have KP0 := Keep.refl h0 []
  have hSt_ := hSt
  obtain ⟨S_cs, n_cs, S_fm, r_fm⟩ := hSt_
  show Go p e below _ (s₁.setTop (mkF m 0 #[vI 16, vI x1, vI 18, vU] []))
  refine Go.step (fun _ k => XS.iloadN X0.here hx rfl (hb hby d_jdk_48_method_27_code_0) rfl  k) ?_
  refine Go.step (fun _ k => XS.iloadN X0.here hx rfl (hb hby d_jdk_48_method_27_code_1) rfl  k) ?_
  refine Go.step (fun _ k => XS.iloadN X0.here hx rfl (hb hby d_jdk_48_method_27_code_2) rfl  k) ?_
  show Go p e below _ (s₁.setTop (mkF m 3 #[vI 16, vI x1, vI 18, vU] [(.int (18 : Int32)), (.int x1), (.int (16 : Int32))]))
  obtain ⟨v_39, T_39, L_39, X_39, hQ_39, st_39⟩ := goS X0 hx hZ (y := Y_4) hown (wd_225 hw) (wd_226 hw) (wd_184 hw) (wd_227 hw) (by decide) (backOf (W := 1) (rm_mx l Z a0 hw zc vfm (x1) ((18 : Int32)) h0 n0 (Nat.le_trans Z0 KP0.1) hx18 hSt hO) hZ (wd_227 hw) (wd_184 hw) (by decide) (by decide)) e0 (g := (mkF m 3 #[vI 16, vI x1, vI 18, vU] [(.int (18 : Int32)), (.int x1), (.int (16 : Int32))])) rfl (by rw [hml]; rfl) (argsL := [(.int x1), (.int (18 : Int32))]) (rest := [(.int (16 : Int32))]) rfl (lenOf pd_4 rfl) rfl (by show 2 * 0 + _ ≤ _; exact Nat.le_of_eq rfl) (hb hby d_jdk_48_method_27_code_3) (by decide) (by decide)
  obtain ⟨rfl, Nq_39, e_39⟩ := hQ_39
  have N_39 := Fr.app N0 Nq_39
  refine Go.step st_39 ?_
  show Go p e below _ (T_39.setTop (mkF m 6 #[vI 16, vI x1, vI 18, vU] [(.int (18 : Int32)), (.int (16 : Int32))]))
  refine Go.step (fun _ k => XS.iadd X_39.here hx rfl (hb hby d_jdk_48_method_27_code_6) rfl k) ?_
  show Go p e below _ (T_39.setTop (mkF m 7 #[vI 16, vI x1, vI 18, vU] [(.int ((16 : Int32) + (18 : Int32)))]))
  refine own_top (congrArg Value.int (show ((16 : Int32) + (18 : Int32)) = (34 : Int32) from by decide)) ?_
  show Go p e below _ (T_39.setTop (mkF m 7 #[vI 16, vI x1, vI 18, vU] [(.int (34 : Int32))]))
  refine Go.step (fun _ k => XS.istoreN X_39.here hx rfl (hb hby d_jdk_48_method_27_code_7) rfl (l' := #[vI 16, vI x1, vI 18, vI 34]) rfl k) ?_
  show Go p e below _ (T_39.setTop (mkF m 8 #[vI 16, vI x1, vI 18, vI 34] []))
  refine Go.step (fun _ k => XS.iconst X_39.here hx rfl (hb hby d_jdk_48_method_27_code_8) k) ?_
  refine Go.step (fun _ k => XS.iloadN X_39.here hx rfl (hb hby d_jdk_48_method_27_code_9) rfl  k) ?_
  show Go p e below _ (T_39.setTop (mkF m 10 #[vI 16, vI x1, vI 18, vI 34] [(.int (34 : Int32)), (.int (0 : Int32))]))
  refine Go.step (fun _ k => XS.icmpNo X_39.here hx rfl (hb hby d_jdk_48_method_27_code_10) rfl (tlt ((by decide) : (0 : Int32) < (34 : Int32))).2.1 k) ?_
  show Go p e below _ (T_39.setTop (mkF m 13 #[vI 16, vI x1, vI 18, vI 34] []))
  refine Go.step (fun _ k => XS.iloadN X_39.here hx rfl (hb hby d_jdk_48_method_27_code_13) rfl  k) ?_
  show Go p e below _ (T_39.setTop (mkF m 14 #[vI 16, vI x1, vI 18, vI 34] [(.int (34 : Int32))]))
  refine Go.step (fun _ k => X_39.ldcInt hx hown (mvT hZ (wd_228 hw)) (g := (mkF m 14 #[vI 16, vI x1, vI 18, vI 34] [(.int (34 : Int32))])) rfl (hb hby d_jdk_48_method_27_code_14) _ k) ?_
  show Go p e below _ (T_39.setTop (mkF m 16 #[vI 16, vI x1, vI 18, vI 34] [(.int (2147483639 : Int32)), (.int (34 : Int32))]))
  refine Go.step (fun _ k => XS.icmpNo X_39.here hx rfl (hb hby d_jdk_48_method_27_code_16) rfl (flt ((by decide) : ¬ ((2147483639 : Int32) < (34 : Int32)))).2.2.1 k) ?_
  show Go p e below _ (T_39.setTop (mkF m 19 #[vI 16, vI x1, vI 18, vI 34] []))
  refine Go.step (fun _ k => XS.iloadN X_39.here hx rfl (hb hby d_jdk_48_method_27_code_19) rfl  k) ?_
  show Go p e below _ (T_39.setTop (mkF m 20 #[vI 16, vI x1, vI 18, vI 34] [(.int (34 : Int32))]))
  exact Go.retV X_39 hx hlk hret rfl (Or.inl ⟨rfl, Or.inl rfl, _, rfl⟩) (hb hby d_jdk_48_method_27_code_20) (by decide) (by decide) (by rw [e_39]; exact ⟨rfl, N_39, rfl⟩)
--@E
--@C nc
def Q_nc (Z : State) (zc : Int32) (vfm : Value) (a1 : Addr) (t1 : Addr) (k1 : ClassId) (bs : List Int32) (m1 : Nat) (h0 : Heap) (n0 : Nat) (v : Option Value) (h : Heap) (L : List Loc) : Prop := v = some (.int (34 : Int32)) ∧ Fr n0 L ∧ h = h0
set_option maxRecDepth 65536 in
set_option maxHeartbeats 40000000 in
theorem rm_nc (l : Launch) (Z : State) (a0 : Array Value) (hw : ∀ d ∈ tables_1, d.before a0 Z = true) (zc : Int32) (vfm : Value) (a1 : Addr) (t1 : Addr) (k1 : ClassId) (bs : List Int32) (m1 : Nat) (h0 : Heap) (n0 : Nat) (Z0 : n0 ≤ h0.size) (E_a1 : Exa Z h0 a1 "java/lang/StringBuilder") (F_a1v : Fld Z h0 a1 "java/lang/AbstractStringBuilder" "value" "[B" (.ref t1)) (F_a1c : Fld Z h0 a1 "java/lang/AbstractStringBuilder" "coder" "B" (.int (0 : Int32))) (A_t1 : Arv Z h0 t1 k1 .byte (16 : Int32) (bs.map Value.int) (.int (0 : Int32))) (hm : (16 < m1 ∧ m1 ≤ 33)) (hSt : St Z zc vfm) (hO : Old Z n0 h0) :
    CN l Z ({ cls := "java/lang/AbstractStringBuilder", name := "newCapacity", desc := "(I)I" } : Jvm.MethodName) [(Jvm.Cond.code ({ cls := "java/lang/AbstractStringBuilder", name := "newCapacity", desc := "(I)I" } : Jvm.MethodName) jdk_68_method_10_code (6 : Nat) (Option.some Jvm.ClassFile.FieldType.int))] ({ frames := 2, cells := 0, slots := 0, locals := 29 } : Room) #[(.ref a1), (.int (Int32.ofNat m1))] h0 (Q_nc Z zc vfm a1 t1 k1 bs m1 h0 n0) := by
  refine CN.of (L0 := #[vR a1, vI (Int32.ofNat m1), vU, vU, vU, vU]) (plainFor_of_name pn_0) (fun m => by first | (simp [entryFrame, mkF, argsToLocals, Value.category]; done) | rfl) ?_
  intro p e s m below meth c s₁ hx hby hml hret hlk hZ hown hnm X0 e0
  have N0 := Fr.nil n0
  have KP0 := Keep.refl h0 []
  have hSt_ := hSt
  obtain ⟨S_cs, n_cs, S_fm, r_fm⟩ := hSt_
  show Go p e below _ (s₁.setTop (mkF m 0 #[vR a1, vI (Int32.ofNat m1), vU, vU, vU, vU] []))
  refine Go.step (fun _ k => XS.aloadN X0.here hx rfl (hb hby d_jdk_68_method_10_code_0) rfl rfl k) ?_
  show Go p e below _ (s₁.setTop (mkF m 1 #[vR a1, vI (Int32.ofNat m1), vU, vU, vU, vU] [(.ref a1)]))
  obtain ⟨T_40, X_40, e_40, st_40⟩ := getF X0 hx hZ hown (host := "") (Or.inl (wd_58 hw)) Via.refl e0 F_a1v (g := (mkF m 1 #[vR a1, vI (Int32.ofNat m1), vU, vU, vU, vU] [(.ref a1)])) rfl rfl (hb hby d_jdk_68_method_10_code_1)
  refine Go.step st_40 ?_
  show Go p e below _ (T_40.setTop (mkF m 4 #[vR a1, vI (Int32.ofNat m1), vU, vU, vU, vU] [(.ref t1)]))
  have cp42 := A_t1
  obtain ⟨cl_41, Ar_41, -, Sz_41, Ng_41, -, -⟩ := cp42
  refine Go.step (fun _ k => X_40.arraylength hx (by rw [e_40]; exact Ar_41.1) (State.isArrayOf_alike hZ.alike Ar_41.2.1) (g := (mkF m 4 #[vR a1, vI (Int32.ofNat m1), vU, vU, vU, vU] [(.ref t1)])) rfl rfl (hb hby d_jdk_68_method_10_code_4) _ k) ?_
  rw [len_of Sz_41 Ng_41]
  show Go p e below _ (T_40.setTop (mkF m 5 #[vR a1, vI (Int32.ofNat m1), vU, vU, vU, vU] [(.int (16 : Int32))]))
  refine Go.step (fun _ k => XS.istoreN X_40.here hx rfl (hb hby d_jdk_68_method_10_code_5) rfl (l' := #[vR a1, vI (Int32.ofNat m1), vI 16, vU, vU, vU]) rfl k) ?_
  show Go p e below _ (T_40.setTop (mkF m 6 #[vR a1, vI (Int32.ofNat m1), vI 16, vU, vU, vU] []))
  refine Go.step (fun _ k => XS.iloadN X_40.here hx rfl (hb hby d_jdk_68_method_10_code_6) rfl  k) ?_
  refine Go.step (fun _ k => XS.aloadN X_40.here hx rfl (hb hby d_jdk_68_method_10_code_7) rfl rfl k) ?_
  show Go p e below _ (T_40.setTop (mkF m 8 #[vR a1, vI (Int32.ofNat m1), vI 16, vU, vU, vU] [(.ref a1), (.int (Int32.ofNat m1))]))
  obtain ⟨T_43, X_43, e_43, st_43⟩ := getF X_40 hx hZ hown (host := "") (Or.inl (wd_60 hw)) Via.refl e_40 F_a1c (g := (mkF m 8 #[vR a1, vI (Int32.ofNat m1), vI 16, vU, vU, vU] [(.ref a1), (.int (Int32.ofNat m1))])) rfl rfl (hb hby d_jdk_68_method_10_code_8)
  refine Go.step st_43 ?_
  show Go p e below _ (T_43.setTop (mkF m 11 #[vR a1, vI (Int32.ofNat m1), vI 16, vU, vU, vU] [(.int (0 : Int32)), (.int (Int32.ofNat m1))]))
  refine Go.step (fun _ k => XS.ishl X_43.here hx rfl (hb hby d_jdk_68_method_10_code_11) rfl k) ?_
  show Go p e below _ (T_43.setTop (mkF m 12 #[vR a1, vI (Int32.ofNat m1), vI 16, vU, vU, vU] [(.int ((Int32.ofNat m1) <<< ((0 : Int32) &&& 31)))]))
  refine own_top (congrArg Value.int (show ((Int32.ofNat m1) <<< ((0 : Int32) &&& 31)) = (Int32.ofNat m1) from shl0 _)) ?_
  show Go p e below _ (T_43.setTop (mkF m 12 #[vR a1, vI (Int32.ofNat m1), vI 16, vU, vU, vU] [(.int (Int32.ofNat m1))]))
  refine Go.step (fun _ k => XS.istoreN X_43.here hx rfl (hb hby d_jdk_68_method_10_code_12) rfl (l' := #[vR a1, vI (Int32.ofNat m1), vI 16, vI (Int32.ofNat m1), vU, vU]) rfl k) ?_
  show Go p e below _ (T_43.setTop (mkF m 13 #[vR a1, vI (Int32.ofNat m1), vI 16, vI (Int32.ofNat m1), vU, vU] []))
  refine Go.step (fun _ k => XS.iloadN X_43.here hx rfl (hb hby d_jdk_68_method_10_code_13) rfl  k) ?_
  refine Go.step (fun _ k => XS.iloadN X_43.here hx rfl (hb hby d_jdk_68_method_10_code_14) rfl  k) ?_
  show Go p e below _ (T_43.setTop (mkF m 15 #[vR a1, vI (Int32.ofNat m1), vI 16, vI (Int32.ofNat m1), vU, vU] [(.int (16 : Int32)), (.int (Int32.ofNat m1))]))
  refine Go.step (fun _ k => XS.isub X_43.here hx rfl (hb hby d_jdk_68_method_10_code_15) rfl k) ?_
  show Go p e below _ (T_43.setTop (mkF m 16 #[vR a1, vI (Int32.ofNat m1), vI 16, vI (Int32.ofNat m1), vU, vU] [(.int ((Int32.ofNat m1) - (16 : Int32)))]))
  refine own_top (congrArg Value.int (show ((Int32.ofNat m1) - (16 : Int32)) = (Int32.ofNat (m1 - 16)) from ofn_sub (j := m1) (k := 16) (by omega) (by omega) (by omega))) ?_
  show Go p e below _ (T_43.setTop (mkF m 16 #[vR a1, vI (Int32.ofNat m1), vI 16, vI (Int32.ofNat m1), vU, vU] [(.int (Int32.ofNat (m1 - 16)))]))
  refine Go.step (fun _ k => XS.istore X_43.here hx rfl (hb hby d_jdk_68_method_10_code_16) rfl (l' := #[vR a1, vI (Int32.ofNat m1), vI 16, vI (Int32.ofNat m1), vI (Int32.ofNat (m1 - 16)), vU]) rfl k) ?_
  show Go p e below _ (T_43.setTop (mkF m 18 #[vR a1, vI (Int32.ofNat m1), vI 16, vI (Int32.ofNat m1), vI (Int32.ofNat (m1 - 16)), vU] []))
  refine Go.step (fun _ k => XS.iloadN X_43.here hx rfl (hb hby d_jdk_68_method_10_code_18) rfl  k) ?_
  refine Go.step (fun _ k => XS.iload X_43.here hx rfl (hb hby d_jdk_68_method_10_code_19) rfl  k) ?_
  refine Go.step (fun _ k => XS.iloadN X_43.here hx rfl (hb hby d_jdk_68_method_10_code_21) rfl  k) ?_
  refine Go.step (fun _ k => XS.iconst X_43.here hx rfl (hb hby d_jdk_68_method_10_code_22) k) ?_
  refine Go.step (fun _ k => XS.aloadN X_43.here hx rfl (hb hby d_jdk_68_method_10_code_23) rfl rfl k) ?_
  show Go p e below _ (T_43.setTop (mkF m 24 #[vR a1, vI (Int32.ofNat m1), vI 16, vI (Int32.ofNat m1), vI (Int32.ofNat (m1 - 16)), vU] [(.ref a1), (.int (2 : Int32)), (.int (16 : Int32)), (.int (Int32.ofNat (m1 - 16))), (.int (16 : Int32))]))
  obtain ⟨T_44, X_44, e_44, st_44⟩ := getF X_43 hx hZ hown (host := "") (Or.inl (wd_60 hw)) Via.refl e_43 F_a1c (g := (mkF m 24 #[vR a1, vI (Int32.ofNat m1), vI 16, vI (Int32.ofNat m1), vI (Int32.ofNat (m1 - 16)), vU] [(.ref a1), (.int (2 : Int32)), (.int (16 : Int32)), (.int (Int32.ofNat (m1 - 16))), (.int (16 : Int32))])) rfl rfl (hb hby d_jdk_68_method_10_code_24)
  refine Go.step st_44 ?_
  show Go p e below _ (T_44.setTop (mkF m 27 #[vR a1, vI (Int32.ofNat m1), vI 16, vI (Int32.ofNat m1), vI (Int32.ofNat (m1 - 16)), vU] [(.int (0 : Int32)), (.int (2 : Int32)), (.int (16 : Int32)), (.int (Int32.ofNat (m1 - 16))), (.int (16 : Int32))]))
  refine Go.step (fun _ k => XS.ishl X_44.here hx rfl (hb hby d_jdk_68_method_10_code_27) rfl k) ?_
  show Go p e below _ (T_44.setTop (mkF m 28 #[vR a1, vI (Int32.ofNat m1), vI 16, vI (Int32.ofNat m1), vI (Int32.ofNat (m1 - 16)), vU] [(.int ((2 : Int32) <<< ((0 : Int32) &&& 31))), (.int (16 : Int32)), (.int (Int32.ofNat (m1 - 16))), (.int (16 : Int32))]))
  refine own_top (congrArg Value.int (show ((2 : Int32) <<< ((0 : Int32) &&& 31)) = (2 : Int32) from by decide)) ?_
  show Go p e below _ (T_44.setTop (mkF m 28 #[vR a1, vI (Int32.ofNat m1), vI 16, vI (Int32.ofNat m1), vI (Int32.ofNat (m1 - 16)), vU] [(.int (2 : Int32)), (.int (16 : Int32)), (.int (Int32.ofNat (m1 - 16))), (.int (16 : Int32))]))
  refine Go.step (fun _ k => XS.iadd X_44.here hx rfl (hb hby d_jdk_68_method_10_code_28) rfl k) ?_
  show Go p e below _ (T_44.setTop (mkF m 29 #[vR a1, vI (Int32.ofNat m1), vI 16, vI (Int32.ofNat m1), vI (Int32.ofNat (m1 - 16)), vU] [(.int ((16 : Int32) + (2 : Int32))), (.int (Int32.ofNat (m1 - 16))), (.int (16 : Int32))]))
  refine own_top (congrArg Value.int (show ((16 : Int32) + (2 : Int32)) = (18 : Int32) from by decide)) ?_
  show Go p e below _ (T_44.setTop (mkF m 29 #[vR a1, vI (Int32.ofNat m1), vI 16, vI (Int32.ofNat m1), vI (Int32.ofNat (m1 - 16)), vU] [(.int (18 : Int32)), (.int (Int32.ofNat (m1 - 16))), (.int (16 : Int32))]))
  obtain ⟨v_45, T_45, L_45, X_45, hQ_45, st_45⟩ := goS X_44 hx hZ (y := Y_5) hown (wd_221 hw) (wd_222 hw) (wd_223 hw) (wd_224 hw) (by decide) (backOf (W := 0) (rm_nl l Z a0 hw zc vfm ((Int32.ofNat (m1 - 16))) h0 n0 (Nat.le_trans Z0 KP0.1) ((ofn_lt (j := m1 - 16) (k := 18) (by omega) (by omega)).mpr (by omega)) hSt hO) hZ (wd_224 hw) (wd_223 hw) (by decide) (by decide)) e_44 (g := (mkF m 29 #[vR a1, vI (Int32.ofNat m1), vI 16, vI (Int32.ofNat m1), vI (Int32.ofNat (m1 - 16)), vU] [(.int (18 : Int32)), (.int (Int32.ofNat (m1 - 16))), (.int (16 : Int32))])) rfl (by rw [hml]; rfl) (argsL := [(.int (16 : Int32)), (.int (Int32.ofNat (m1 - 16))), (.int (18 : Int32))]) (rest := []) rfl (lenOf pd_5 rfl) rfl (by show 2 * 0 + _ ≤ _; exact Nat.le_of_eq rfl) (hb hby d_jdk_68_method_10_code_29) (by decide) (by decide)
  obtain ⟨rfl, Nq_45, e_45⟩ := hQ_45
  have N_45 := Fr.app N0 Nq_45
  refine Go.step st_45 ?_
  show Go p e below _ (T_45.setTop (mkF m 32 #[vR a1, vI (Int32.ofNat m1), vI 16, vI (Int32.ofNat m1), vI (Int32.ofNat (m1 - 16)), vU] [(.int (34 : Int32))]))
  refine Go.step (fun _ k => XS.istore X_45.here hx rfl (hb hby d_jdk_68_method_10_code_32) rfl (l' := #[vR a1, vI (Int32.ofNat m1), vI 16, vI (Int32.ofNat m1), vI (Int32.ofNat (m1 - 16)), vI 34]) rfl k) ?_
  show Go p e below _ (T_45.setTop (mkF m 34 #[vR a1, vI (Int32.ofNat m1), vI 16, vI (Int32.ofNat m1), vI (Int32.ofNat (m1 - 16)), vI 34] []))
  refine Go.step (fun _ k => XS.iload X_45.here hx rfl (hb hby d_jdk_68_method_10_code_34) rfl  k) ?_
  show Go p e below _ (T_45.setTop (mkF m 36 #[vR a1, vI (Int32.ofNat m1), vI 16, vI (Int32.ofNat m1), vI (Int32.ofNat (m1 - 16)), vI 34] [(.int (34 : Int32))]))
  refine Go.step (fun _ k => X_45.ldcInt hx hown (mvT hZ (wd_229 hw)) (g := (mkF m 36 #[vR a1, vI (Int32.ofNat m1), vI 16, vI (Int32.ofNat m1), vI (Int32.ofNat (m1 - 16)), vI 34] [(.int (34 : Int32))])) rfl (hb hby d_jdk_68_method_10_code_36) _ k) ?_
  show Go p e below _ (T_45.setTop (mkF m 38 #[vR a1, vI (Int32.ofNat m1), vI 16, vI (Int32.ofNat m1), vI (Int32.ofNat (m1 - 16)), vI 34] [(.int (2147483647 : Int32)), (.int (34 : Int32))]))
  refine Go.step (fun _ k => XS.icmpYes X_45.here hx rfl (pc0 := 38) (pc' := 51) rfl (hb hby d_jdk_68_method_10_code_38) rfl (feq ((by decide) : ¬ ((34 : Int32) = (2147483647 : Int32)))).2 (by decide) (by decide) k) ?_
  show Go p e below _ (T_45.setTop (mkF m 51 #[vR a1, vI (Int32.ofNat m1), vI 16, vI (Int32.ofNat m1), vI (Int32.ofNat (m1 - 16)), vI 34] []))
  refine Go.step (fun _ k => XS.iload X_45.here hx rfl (hb hby d_jdk_68_method_10_code_51) rfl  k) ?_
  refine Go.step (fun _ k => XS.aloadN X_45.here hx rfl (hb hby d_jdk_68_method_10_code_53) rfl rfl k) ?_
  show Go p e below _ (T_45.setTop (mkF m 54 #[vR a1, vI (Int32.ofNat m1), vI 16, vI (Int32.ofNat m1), vI (Int32.ofNat (m1 - 16)), vI 34] [(.ref a1), (.int (34 : Int32))]))
  obtain ⟨T_46, X_46, e_46, st_46⟩ := getF X_45 hx hZ hown (host := "") (Or.inl (wd_60 hw)) Via.refl e_45 F_a1c (g := (mkF m 54 #[vR a1, vI (Int32.ofNat m1), vI 16, vI (Int32.ofNat m1), vI (Int32.ofNat (m1 - 16)), vI 34] [(.ref a1), (.int (34 : Int32))])) rfl rfl (hb hby d_jdk_68_method_10_code_54)
  refine Go.step st_46 ?_
  show Go p e below _ (T_46.setTop (mkF m 57 #[vR a1, vI (Int32.ofNat m1), vI 16, vI (Int32.ofNat m1), vI (Int32.ofNat (m1 - 16)), vI 34] [(.int (0 : Int32)), (.int (34 : Int32))]))
  refine Go.step (fun _ k => XS.ishr X_46.here hx rfl (hb hby d_jdk_68_method_10_code_57) rfl k) ?_
  show Go p e below _ (T_46.setTop (mkF m 58 #[vR a1, vI (Int32.ofNat m1), vI 16, vI (Int32.ofNat m1), vI (Int32.ofNat (m1 - 16)), vI 34] [(.int ((34 : Int32) >>> ((0 : Int32) &&& 31)))]))
  refine own_top (congrArg Value.int (show ((34 : Int32) >>> ((0 : Int32) &&& 31)) = (34 : Int32) from by decide)) ?_
  show Go p e below _ (T_46.setTop (mkF m 58 #[vR a1, vI (Int32.ofNat m1), vI 16, vI (Int32.ofNat m1), vI (Int32.ofNat (m1 - 16)), vI 34] [(.int (34 : Int32))]))
  exact Go.retV X_46 hx hlk hret rfl (Or.inl ⟨rfl, Or.inl rfl, _, rfl⟩) (hb hby d_jdk_68_method_10_code_58) (by decide) (by decide) (by rw [e_46]; exact ⟨rfl, N_45, rfl⟩)
--@E
--@C mnx
def Q_mnx (Z : State) (zc : Int32) (vfm : Value) (h0 : Heap) (n0 : Nat) (v : Option Value) (h : Heap) (L : List Loc) : Prop := v = some (.int (16 : Int32)) ∧ Fr n0 L ∧ h = h0
set_option maxRecDepth 65536 in
set_option maxHeartbeats 40000000 in
theorem rm_mnx (l : Launch) (Z : State) (a0 : Array Value) (hw : ∀ d ∈ tables_1, d.before a0 Z = true) (zc : Int32) (vfm : Value) (h0 : Heap) (n0 : Nat) (Z0 : n0 ≤ h0.size) (hSt : St Z zc vfm) (hO : Old Z n0 h0) :
    CN l Z ({ cls := "java/lang/Math", name := "min", desc := "(II)I" } : Jvm.MethodName) [(Jvm.Cond.code ({ cls := "java/lang/Math", name := "min", desc := "(II)I" } : Jvm.MethodName) jdk_29_method_69_code (2 : Nat) (Option.some Jvm.ClassFile.FieldType.int))] ({ frames := 0, cells := 0, slots := 0, locals := 0 } : Room) #[(.int (16 : Int32)), (.int (34 : Int32))] h0 (Q_mnx Z zc vfm h0 n0) := by
  refine CN.of (L0 := #[vI 16, vI 34]) (Jvm.Free.JP.mathPlain rfl (by decide +kernel)) (fun m => by first | (simp [entryFrame, mkF, argsToLocals, Value.category]; done) | rfl) ?_
  intro p e s m below meth c s₁ hx hby hml hret hlk hZ hown hnm X0 e0
  have N0 := Fr.nil n0
  have KP0 := Keep.refl h0 []
  have hSt_ := hSt
  obtain ⟨S_cs, n_cs, S_fm, r_fm⟩ := hSt_
  show Go p e below _ (s₁.setTop (mkF m 0 #[vI 16, vI 34] []))
  refine Go.step (fun _ k => XS.iloadN X0.here hx rfl (hb hby d_jdk_29_method_69_code_0) rfl  k) ?_
  refine Go.step (fun _ k => XS.iloadN X0.here hx rfl (hb hby d_jdk_29_method_69_code_1) rfl  k) ?_
  show Go p e below _ (s₁.setTop (mkF m 2 #[vI 16, vI 34] [(.int (34 : Int32)), (.int (16 : Int32))]))
  refine Go.step (fun _ k => XS.icmpNo X0.here hx rfl (hb hby d_jdk_29_method_69_code_2) rfl (flt ((by decide) : ¬ ((34 : Int32) < (16 : Int32)))).2.2.1 k) ?_
  show Go p e below _ (s₁.setTop (mkF m 5 #[vI 16, vI 34] []))
  refine Go.step (fun _ k => XS.iloadN X0.here hx rfl (hb hby d_jdk_29_method_69_code_5) rfl  k) ?_
  show Go p e below _ (s₁.setTop (mkF m 6 #[vI 16, vI 34] [(.int (16 : Int32))]))
  refine Go.step (fun _ k => XS.goto X0.here hx rfl (pc0 := 6) (pc' := 10) rfl (hb hby d_jdk_29_method_69_code_6) (by decide) (by decide) k) ?_
  show Go p e below _ (s₁.setTop (mkF m 10 #[vI 16, vI 34] [(.int (16 : Int32))]))
  exact Go.retV X0 hx hlk hret rfl (Or.inl ⟨rfl, Or.inl rfl, _, rfl⟩) (hb hby d_jdk_29_method_69_code_10) (by decide) (by decide) (by rw [e0]; exact ⟨rfl, N0, rfl⟩)
--@E
--@C cpo
def Q_cpo (Z : State) (zc : Int32) (vfm : Value) (t1 : Addr) (k1 : ClassId) (bs : List Int32) (h0 : Heap) (n0 : Nat) (v : Option Value) (h : Heap) (L : List Loc) : Prop := ∃ (r : Addr) (kr : ClassId), v = some (.ref r) ∧ Fr n0 L ∧ Keep h0 h [] ∧ h0.size ≤ r ∧ Arv Z h r kr .byte (34 : Int32) ((bs ++ List.replicate 18 (0 : Int32)).map Value.int) (.int (0 : Int32))
set_option maxRecDepth 65536 in
set_option maxHeartbeats 40000000 in
theorem rm_cpo (l : Launch) (Z : State) (a0 : Array Value) (hw : ∀ d ∈ tables_1, d.before a0 Z = true) (zc : Int32) (vfm : Value) (t1 : Addr) (k1 : ClassId) (bs : List Int32) (h0 : Heap) (n0 : Nat) (Z0 : n0 ≤ h0.size) (A_t1 : Arv Z h0 t1 k1 .byte (16 : Int32) (bs.map Value.int) (.int (0 : Int32))) (hbs : (bs.length = 16)) (hSt : St Z zc vfm) (hO : Old Z n0 h0) :
    CN l Z ({ cls := "java/util/Arrays", name := "copyOf", desc := "([BI)[B" } : Jvm.MethodName) [(Jvm.Cond.code ({ cls := "java/util/Arrays", name := "copyOf", desc := "([BI)[B" } : Jvm.MethodName) jdk_65_method_121_code (3 : Nat) (Option.some (Jvm.ClassFile.FieldType.array Jvm.ClassFile.FieldType.byte)))] ({ frames := 1, cells := 1, slots := 34, locals := 18 } : Room) #[(.ref t1), (.int (34 : Int32))] h0 (Q_cpo Z zc vfm t1 k1 bs h0 n0) := by
  refine CN.of (L0 := #[vR t1, vI 34, vU]) (plainFor_of_name pn_4) (fun m => by first | (simp [entryFrame, mkF, argsToLocals, Value.category]; done) | rfl) ?_
  intro p e s m below meth c s₁ hx hby hml hret hlk hZ hown hnm X0 e0
  have N0 := Fr.nil n0
  have KP0 := Keep.refl h0 []
  have hSt_ := hSt
  obtain ⟨S_cs, n_cs, S_fm, r_fm⟩ := hSt_
  show Go p e below _ (s₁.setTop (mkF m 0 #[vR t1, vI 34, vU] []))
  refine Go.step (fun _ k => XS.iloadN X0.here hx rfl (hb hby d_jdk_65_method_121_code_0) rfl  k) ?_
  refine Go.step (fun _ k => XS.aloadN X0.here hx rfl (hb hby d_jdk_65_method_121_code_1) rfl rfl k) ?_
  show Go p e below _ (s₁.setTop (mkF m 2 #[vR t1, vI 34, vU] [(.ref t1), (.int (34 : Int32))]))
  have cp48 := A_t1
  obtain ⟨cl_47, Ar_47, -, Sz_47, Ng_47, -, -⟩ := cp48
  refine Go.step (fun _ k => X0.arraylength hx (by rw [e0]; exact Ar_47.1) (State.isArrayOf_alike hZ.alike Ar_47.2.1) (g := (mkF m 2 #[vR t1, vI 34, vU] [(.ref t1), (.int (34 : Int32))])) rfl rfl (hb hby d_jdk_65_method_121_code_2) _ k) ?_
  rw [len_of Sz_47 Ng_47]
  show Go p e below _ (s₁.setTop (mkF m 3 #[vR t1, vI 34, vU] [(.int (16 : Int32)), (.int (34 : Int32))]))
  refine Go.step (fun _ k => XS.icmpYes X0.here hx rfl (pc0 := 3) (pc' := 14) rfl (hb hby d_jdk_65_method_121_code_3) rfl (feq ((by decide) : ¬ ((34 : Int32) = (16 : Int32)))).2 (by decide) (by decide) k) ?_
  show Go p e below _ (s₁.setTop (mkF m 14 #[vR t1, vI 34, vU] []))
  refine Go.step (fun _ k => XS.iloadN X0.here hx rfl (hb hby d_jdk_65_method_121_code_14) rfl  k) ?_
  show Go p e below _ (s₁.setTop (mkF m 15 #[vR t1, vI 34, vU] [(.int (34 : Int32))]))
  obtain ⟨T_49, h_49, k_49, X_49, e_49, E_49, A_49, st_49⟩ := newP X0 hx hZ (aty := .byte) (wd_19 hw) e0 (g := (mkF m 15 #[vR t1, vI 34, vU] [(.int (34 : Int32))])) rfl (hb hby d_jdk_65_method_121_code_15) rfl (by decide) (cap := 34) (by decide) (by decide) (by decide) (by decide)
  obtain ⟨b49, q_49⟩ : ∃ z, z = h0.size := ⟨_, rfl⟩
  rw [← q_49] at A_49 st_49
  refine Go.step st_49 ?_
  have le_49 : h0.size ≤ h_49.size := E_49.1
  have KP_49 := KP0.ext E_49
  have O_49 := hO.ext E_49
  have ge_49 : h0.size ≤ b49 := Nat.le_of_eq q_49.symm
  have sz_b49 : h0.size ≤ b49 := Nat.le_trans (Nat.le_refl _) ge_49
  have g_b49 : n0 ≤ b49 := Nat.le_trans Z0 sz_b49
  have V_49 : Arv Z h_49 b49 k_49 .byte (34 : Int32) [(.int (0 : Int32)), (.int (0 : Int32)), (.int (0 : Int32)), (.int (0 : Int32)), (.int (0 : Int32)), (.int (0 : Int32)), (.int (0 : Int32)), (.int (0 : Int32)), (.int (0 : Int32)), (.int (0 : Int32)), (.int (0 : Int32)), (.int (0 : Int32)), (.int (0 : Int32)), (.int (0 : Int32)), (.int (0 : Int32)), (.int (0 : Int32)), (.int (0 : Int32)), (.int (0 : Int32)), (.int (0 : Int32)), (.int (0 : Int32)), (.int (0 : Int32)), (.int (0 : Int32)), (.int (0 : Int32)), (.int (0 : Int32)), (.int (0 : Int32)), (.int (0 : Int32)), (.int (0 : Int32)), (.int (0 : Int32)), (.int (0 : Int32)), (.int (0 : Int32)), (.int (0 : Int32)), (.int (0 : Int32)), (.int (0 : Int32)), (.int (0 : Int32))] (.int (0 : Int32)) := (Arv.new A_49 (by decide)).pad (pad_rep [] (.int (0 : Int32)) 34)
  show Go p e below _ (T_49.setTop (mkF m 17 #[vR t1, vI 34, vU] [(.ref b49)]))
  refine Go.step (fun _ k => XS.astoreN X_49.here hx rfl (hb hby d_jdk_65_method_121_code_17) rfl rfl (l' := #[vR t1, vI 34, vR b49]) rfl k) ?_
  show Go p e below _ (T_49.setTop (mkF m 18 #[vR t1, vI 34, vR b49] []))
  refine Go.step (fun _ k => XS.aloadN X_49.here hx rfl (hb hby d_jdk_65_method_121_code_18) rfl rfl k) ?_
  refine Go.step (fun _ k => XS.iconst X_49.here hx rfl (hb hby d_jdk_65_method_121_code_19) k) ?_
  refine Go.step (fun _ k => XS.aloadN X_49.here hx rfl (hb hby d_jdk_65_method_121_code_20) rfl rfl k) ?_
  refine Go.step (fun _ k => XS.iconst X_49.here hx rfl (hb hby d_jdk_65_method_121_code_21) k) ?_
  refine Go.step (fun _ k => XS.aloadN X_49.here hx rfl (hb hby d_jdk_65_method_121_code_22) rfl rfl k) ?_
  show Go p e below _ (T_49.setTop (mkF m 23 #[vR t1, vI 34, vR b49] [(.ref t1), (.int (0 : Int32)), (.ref b49), (.int (0 : Int32)), (.ref t1)]))
  have f51 : Arv Z h_49 t1 k1 .byte (16 : Int32) (bs.map Value.int) (.int (0 : Int32)) := (A_t1.ext E_49)
  have cp52 := f51
  obtain ⟨cl_50, Ar_50, -, Sz_50, Ng_50, -, -⟩ := cp52
  refine Go.step (fun _ k => X_49.arraylength hx (by rw [e_49]; exact Ar_50.1) (State.isArrayOf_alike hZ.alike Ar_50.2.1) (g := (mkF m 23 #[vR t1, vI 34, vR b49] [(.ref t1), (.int (0 : Int32)), (.ref b49), (.int (0 : Int32)), (.ref t1)])) rfl rfl (hb hby d_jdk_65_method_121_code_23) _ k) ?_
  rw [len_of Sz_50 Ng_50]
  show Go p e below _ (T_49.setTop (mkF m 24 #[vR t1, vI 34, vR b49] [(.int (16 : Int32)), (.int (0 : Int32)), (.ref b49), (.int (0 : Int32)), (.ref t1)]))
  refine Go.step (fun _ k => XS.iloadN X_49.here hx rfl (hb hby d_jdk_65_method_121_code_24) rfl  k) ?_
  show Go p e below _ (T_49.setTop (mkF m 25 #[vR t1, vI 34, vR b49] [(.int (34 : Int32)), (.int (16 : Int32)), (.int (0 : Int32)), (.ref b49), (.int (0 : Int32)), (.ref t1)]))
  obtain ⟨v_53, T_53, L_53, X_53, hQ_53, st_53⟩ := goS X_49 hx hZ (y := Y_6) hown (wd_182 hw) (wd_183 hw) (wd_184 hw) (wd_185 hw) (by decide) (backOf (W := 4) (rm_mnx l Z a0 hw zc vfm h_49 n0 (Nat.le_trans Z0 KP_49.1) hSt O_49) hZ (wd_185 hw) (wd_184 hw) (by decide) (by decide)) e_49 (g := (mkF m 25 #[vR t1, vI 34, vR b49] [(.int (34 : Int32)), (.int (16 : Int32)), (.int (0 : Int32)), (.ref b49), (.int (0 : Int32)), (.ref t1)])) rfl (by rw [hml]; rfl) (argsL := [(.int (16 : Int32)), (.int (34 : Int32))]) (rest := [(.int (0 : Int32)), (.ref b49), (.int (0 : Int32)), (.ref t1)]) rfl (lenOf pd_4 rfl) rfl (by show 2 * 0 + _ ≤ _; exact Nat.le_of_eq rfl) (hb hby d_jdk_65_method_121_code_25) (by decide) (by decide)
  obtain ⟨rfl, Nq_53, e_53⟩ := hQ_53
  have N_53 := Fr.app N0 Nq_53
  refine Go.step st_53 ?_
  show Go p e below _ (T_53.setTop (mkF m 28 #[vR t1, vI 34, vR b49] [(.int (16 : Int32)), (.int (0 : Int32)), (.ref b49), (.int (0 : Int32)), (.ref t1)]))
  obtain ⟨T_54, h_54, L_54, X_54, e_54, N_54, K_54, V_54, st_54⟩ := cpA X_53 hx hZ hown (wd_186 hw) (wd_108 hw) (wd_106 hw) (wd_107 hw) e_53 f51 V_49 (sp := (0 : Int32)) (dp := (0 : Int32)) (nn := (16 : Int32)) (Or.inl ⟨rfl, rfl⟩) (by decide) (by decide) (by decide) (by decide) (by decide) rfl (Nat.le_of_ble_eq_true rfl) N_53 g_b49 (g := (mkF m 28 #[vR t1, vI 34, vR b49] [(.int (16 : Int32)), (.int (0 : Int32)), (.ref b49), (.int (0 : Int32)), (.ref t1)])) rfl (by rw [hml]; rfl) (rest := []) rfl (hb hby d_jdk_65_method_121_code_28) (by decide) (W := 0) (by show 2 * 0 + _ ≤ _; exact Nat.le_of_eq rfl) (by decide)
  refine Go.step st_54 ?_
  have le_54 : h_49.size ≤ h_54.size := K_54.1
  have KP_54 := KP_49.trans K_54 (allS (Or.inr sz_b49) all0)
  have O_54 := O_49.keep K_54 (allS g_b49 all0)
  have A_54 : Arv Z h_54 b49 k_49 .byte (34 : Int32) ((bs ++ List.replicate 18 (0 : Int32)).map Value.int) (.int (0 : Int32)) := by
    have q := V_54
    rw [cp_grow (k := 18) (by decide) (by decide) (by rw [hbs]; decide) (by rw [hbs]; rfl)] at q
    exact q
  show Go p e below _ (T_54.setTop (mkF m 31 #[vR t1, vI 34, vR b49] []))
  refine Go.step (fun _ k => XS.aloadN X_54.here hx rfl (hb hby d_jdk_65_method_121_code_31) rfl rfl k) ?_
  show Go p e below _ (T_54.setTop (mkF m 32 #[vR t1, vI 34, vR b49] [(.ref b49)]))
  exact Go.retV X_54 hx hlk hret rfl (Or.inr (Or.inr (Or.inr (Or.inr ⟨rfl, rfl, rfl⟩)))) (hb hby d_jdk_65_method_121_code_32) (by decide) (by decide) (by rw [e_54]; exact ⟨b49, k_49, rfl, N_54, KP_54, sz_b49, A_54⟩)
--@E
--@C ecG
def Q_ecG (Z : State) (zc : Int32) (vfm : Value) (a1 : Addr) (t1 : Addr) (k1 : ClassId) (bs : List Int32) (m1 : Nat) (n1 : Int32) (h0 : Heap) (n0 : Nat) (v : Option Value) (h : Heap) (L : List Loc) : Prop := ∃ (r : Addr) (kr : ClassId), v = none ∧ Fr n0 L ∧ Keep h0 h [a1] ∧ Fld Z h a1 "java/lang/AbstractStringBuilder" "value" "[B" (.ref r) ∧ h0.size ≤ r ∧ Fld Z h a1 "java/lang/AbstractStringBuilder" "coder" "B" (.int (0 : Int32)) ∧ Fld Z h a1 "java/lang/AbstractStringBuilder" "count" "I" (.int n1) ∧ Arv Z h r kr .byte (34 : Int32) ((bs ++ List.replicate 18 (0 : Int32)).map Value.int) (.int (0 : Int32))
set_option maxRecDepth 65536 in
set_option maxHeartbeats 40000000 in
theorem rm_ecG (l : Launch) (Z : State) (a0 : Array Value) (hw : ∀ d ∈ tables_1, d.before a0 Z = true) (zc : Int32) (vfm : Value) (a1 : Addr) (t1 : Addr) (k1 : ClassId) (bs : List Int32) (m1 : Nat) (n1 : Int32) (h0 : Heap) (n0 : Nat) (Z0 : n0 ≤ h0.size) (E_a1 : Exa Z h0 a1 "java/lang/StringBuilder") (F_a1v : Fld Z h0 a1 "java/lang/AbstractStringBuilder" "value" "[B" (.ref t1)) (F_a1c : Fld Z h0 a1 "java/lang/AbstractStringBuilder" "coder" "B" (.int (0 : Int32))) (F_a1n : Fld Z h0 a1 "java/lang/AbstractStringBuilder" "count" "I" (.int n1)) (A_t1 : Arv Z h0 t1 k1 .byte (16 : Int32) (bs.map Value.int) (.int (0 : Int32))) (g_a1 : n0 ≤ a1) (hbs : (bs.length = 16)) (hm : (16 < m1 ∧ m1 ≤ 33)) (hSt : St Z zc vfm) (hO : Old Z n0 h0) :
    CN l Z ({ cls := "java/lang/AbstractStringBuilder", name := "ensureCapacityInternal", desc := "(I)V" } : Jvm.MethodName) [(Jvm.Cond.code ({ cls := "java/lang/AbstractStringBuilder", name := "ensureCapacityInternal", desc := "(I)V" } : Jvm.MethodName) jdk_68_method_9_code (3 : Nat) (Option.none : Option Jvm.ClassFile.FieldType))] ({ frames := 3, cells := 1, slots := 34, locals := 48 } : Room) #[(.ref a1), (.int (Int32.ofNat m1))] h0 (Q_ecG Z zc vfm a1 t1 k1 bs m1 n1 h0 n0) := by
  refine CN.of (L0 := #[vR a1, vI (Int32.ofNat m1), vU]) (plainFor_of_name pn_0) (fun m => by first | (simp [entryFrame, mkF, argsToLocals, Value.category]; done) | rfl) ?_
  intro p e s m below meth c s₁ hx hby hml hret hlk hZ hown hnm X0 e0
  have N0 := Fr.nil n0
  have KP0 := Keep.refl h0 [a1]
  have hSt_ := hSt
  obtain ⟨S_cs, n_cs, S_fm, r_fm⟩ := hSt_
  show Go p e below _ (s₁.setTop (mkF m 0 #[vR a1, vI (Int32.ofNat m1), vU] []))
  refine Go.step (fun _ k => XS.aloadN X0.here hx rfl (hb hby d_jdk_68_method_9_code_0) rfl rfl k) ?_
  show Go p e below _ (s₁.setTop (mkF m 1 #[vR a1, vI (Int32.ofNat m1), vU] [(.ref a1)]))
  obtain ⟨T_55, X_55, e_55, st_55⟩ := getF X0 hx hZ hown (host := "") (Or.inl (wd_58 hw)) Via.refl e0 F_a1v (g := (mkF m 1 #[vR a1, vI (Int32.ofNat m1), vU] [(.ref a1)])) rfl rfl (hb hby d_jdk_68_method_9_code_1)
  refine Go.step st_55 ?_
  show Go p e below _ (T_55.setTop (mkF m 4 #[vR a1, vI (Int32.ofNat m1), vU] [(.ref t1)]))
  have cp57 := A_t1
  obtain ⟨cl_56, Ar_56, -, Sz_56, Ng_56, -, -⟩ := cp57
  refine Go.step (fun _ k => X_55.arraylength hx (by rw [e_55]; exact Ar_56.1) (State.isArrayOf_alike hZ.alike Ar_56.2.1) (g := (mkF m 4 #[vR a1, vI (Int32.ofNat m1), vU] [(.ref t1)])) rfl rfl (hb hby d_jdk_68_method_9_code_4) _ k) ?_
  rw [len_of Sz_56 Ng_56]
  show Go p e below _ (T_55.setTop (mkF m 5 #[vR a1, vI (Int32.ofNat m1), vU] [(.int (16 : Int32))]))
  refine Go.step (fun _ k => XS.aloadN X_55.here hx rfl (hb hby d_jdk_68_method_9_code_5) rfl rfl k) ?_
  show Go p e below _ (T_55.setTop (mkF m 6 #[vR a1, vI (Int32.ofNat m1), vU] [(.ref a1), (.int (16 : Int32))]))
  obtain ⟨T_58, X_58, e_58, st_58⟩ := getF X_55 hx hZ hown (host := "") (Or.inl (wd_60 hw)) Via.refl e_55 F_a1c (g := (mkF m 6 #[vR a1, vI (Int32.ofNat m1), vU] [(.ref a1), (.int (16 : Int32))])) rfl rfl (hb hby d_jdk_68_method_9_code_6)
  refine Go.step st_58 ?_
  show Go p e below _ (T_58.setTop (mkF m 9 #[vR a1, vI (Int32.ofNat m1), vU] [(.int (0 : Int32)), (.int (16 : Int32))]))
  refine Go.step (fun _ k => XS.ishr X_58.here hx rfl (hb hby d_jdk_68_method_9_code_9) rfl k) ?_
  show Go p e below _ (T_58.setTop (mkF m 10 #[vR a1, vI (Int32.ofNat m1), vU] [(.int ((16 : Int32) >>> ((0 : Int32) &&& 31)))]))
  refine own_top (congrArg Value.int (show ((16 : Int32) >>> ((0 : Int32) &&& 31)) = (16 : Int32) from by decide)) ?_
  show Go p e below _ (T_58.setTop (mkF m 10 #[vR a1, vI (Int32.ofNat m1), vU] [(.int (16 : Int32))]))
  refine Go.step (fun _ k => XS.istoreN X_58.here hx rfl (hb hby d_jdk_68_method_9_code_10) rfl (l' := #[vR a1, vI (Int32.ofNat m1), vI 16]) rfl k) ?_
  show Go p e below _ (T_58.setTop (mkF m 11 #[vR a1, vI (Int32.ofNat m1), vI 16] []))
  refine Go.step (fun _ k => XS.iloadN X_58.here hx rfl (hb hby d_jdk_68_method_9_code_11) rfl  k) ?_
  refine Go.step (fun _ k => XS.iloadN X_58.here hx rfl (hb hby d_jdk_68_method_9_code_12) rfl  k) ?_
  show Go p e below _ (T_58.setTop (mkF m 13 #[vR a1, vI (Int32.ofNat m1), vI 16] [(.int (16 : Int32)), (.int (Int32.ofNat m1))]))
  refine Go.step (fun _ k => XS.isub X_58.here hx rfl (hb hby d_jdk_68_method_9_code_13) rfl k) ?_
  show Go p e below _ (T_58.setTop (mkF m 14 #[vR a1, vI (Int32.ofNat m1), vI 16] [(.int ((Int32.ofNat m1) - (16 : Int32)))]))
  refine Go.step (fun _ k => XS.ifNo X_58.here hx rfl (hb hby d_jdk_68_method_9_code_14) rfl ((if0 _ _).trans (tlt ((gr_of ⟨hm.1, by omega⟩) : (0 : Int32) < ((Int32.ofNat m1) - (16 : Int32)))).2.2.2) k) ?_
  show Go p e below _ (T_58.setTop (mkF m 17 #[vR a1, vI (Int32.ofNat m1), vI 16] []))
  refine Go.step (fun _ k => XS.aloadN X_58.here hx rfl (hb hby d_jdk_68_method_9_code_17) rfl rfl k) ?_
  refine Go.step (fun _ k => XS.aloadN X_58.here hx rfl (hb hby d_jdk_68_method_9_code_18) rfl rfl k) ?_
  show Go p e below _ (T_58.setTop (mkF m 19 #[vR a1, vI (Int32.ofNat m1), vI 16] [(.ref a1), (.ref a1)]))
  obtain ⟨T_59, X_59, e_59, st_59⟩ := getF X_58 hx hZ hown (host := "") (Or.inl (wd_58 hw)) Via.refl e_58 F_a1v (g := (mkF m 19 #[vR a1, vI (Int32.ofNat m1), vI 16] [(.ref a1), (.ref a1)])) rfl rfl (hb hby d_jdk_68_method_9_code_19)
  refine Go.step st_59 ?_
  show Go p e below _ (T_59.setTop (mkF m 22 #[vR a1, vI (Int32.ofNat m1), vI 16] [(.ref t1), (.ref a1)]))
  refine Go.step (fun _ k => XS.aloadN X_59.here hx rfl (hb hby d_jdk_68_method_9_code_22) rfl rfl k) ?_
  refine Go.step (fun _ k => XS.iloadN X_59.here hx rfl (hb hby d_jdk_68_method_9_code_23) rfl  k) ?_
  show Go p e below _ (T_59.setTop (mkF m 24 #[vR a1, vI (Int32.ofNat m1), vI 16] [(.int (Int32.ofNat m1)), (.ref a1), (.ref t1), (.ref a1)]))
  obtain ⟨v_60, T_60, L_60, X_60, hQ_60, st_60⟩ := goP X_59 hx hZ (y := Y_7) hown (wd_216 hw) (wd_217 hw) (sel_priv (wd_219 hw) (Cond.privateMethod_at (wd_218 hw)) (wd_217 hw) (by decide)) (wd_218 hw) (wd_220 hw) (by decide) (backOf (W := 2) (rm_nc l Z a0 hw zc vfm (a1) (t1) (k1) bs m1 h0 n0 (Nat.le_trans Z0 KP0.1) E_a1 F_a1v F_a1c A_t1 hm hSt hO) hZ (wd_220 hw) (wd_54 hw) (by decide) (by decide)) e_59 E_a1 (g := (mkF m 24 #[vR a1, vI (Int32.ofNat m1), vI 16] [(.int (Int32.ofNat m1)), (.ref a1), (.ref t1), (.ref a1)])) rfl (by rw [hml]; rfl) (argsL := [(.int (Int32.ofNat m1))]) (rest := [(.ref t1), (.ref a1)]) rfl (lenOf pd_6 rfl) rfl (by show 2 * 0 + _ ≤ _; exact Nat.le_of_eq rfl) (hb hby d_jdk_68_method_9_code_24) (by decide) (by decide)
  obtain ⟨rfl, Nq_60, e_60⟩ := hQ_60
  have N_60 := Fr.app N0 Nq_60
  refine Go.step st_60 ?_
  show Go p e below _ (T_60.setTop (mkF m 27 #[vR a1, vI (Int32.ofNat m1), vI 16] [(.int (34 : Int32)), (.ref t1), (.ref a1)]))
  refine Go.step (fun _ k => XS.aloadN X_60.here hx rfl (hb hby d_jdk_68_method_9_code_27) rfl rfl k) ?_
  show Go p e below _ (T_60.setTop (mkF m 28 #[vR a1, vI (Int32.ofNat m1), vI 16] [(.ref a1), (.int (34 : Int32)), (.ref t1), (.ref a1)]))
  obtain ⟨T_61, X_61, e_61, st_61⟩ := getF X_60 hx hZ hown (host := "") (Or.inl (wd_60 hw)) Via.refl e_60 F_a1c (g := (mkF m 28 #[vR a1, vI (Int32.ofNat m1), vI 16] [(.ref a1), (.int (34 : Int32)), (.ref t1), (.ref a1)])) rfl rfl (hb hby d_jdk_68_method_9_code_28)
  refine Go.step st_61 ?_
  show Go p e below _ (T_61.setTop (mkF m 31 #[vR a1, vI (Int32.ofNat m1), vI 16] [(.int (0 : Int32)), (.int (34 : Int32)), (.ref t1), (.ref a1)]))
  refine Go.step (fun _ k => XS.ishl X_61.here hx rfl (hb hby d_jdk_68_method_9_code_31) rfl k) ?_
  show Go p e below _ (T_61.setTop (mkF m 32 #[vR a1, vI (Int32.ofNat m1), vI 16] [(.int ((34 : Int32) <<< ((0 : Int32) &&& 31))), (.ref t1), (.ref a1)]))
  refine own_top (congrArg Value.int (show ((34 : Int32) <<< ((0 : Int32) &&& 31)) = (34 : Int32) from by decide)) ?_
  show Go p e below _ (T_61.setTop (mkF m 32 #[vR a1, vI (Int32.ofNat m1), vI 16] [(.int (34 : Int32)), (.ref t1), (.ref a1)]))
  obtain ⟨v_62, T_62, L_62, X_62, hQ_62, st_62⟩ := goS X_61 hx hZ (y := Y_8) hown (wd_230 hw) (wd_231 hw) (wd_174 hw) (wd_232 hw) (by decide) (backOf (W := 1) (rm_cpo l Z a0 hw zc vfm (t1) (k1) (bs) h0 n0 (Nat.le_trans Z0 KP0.1) A_t1 hbs hSt hO) hZ (wd_232 hw) (wd_174 hw) (by decide) (by decide)) e_61 (g := (mkF m 32 #[vR a1, vI (Int32.ofNat m1), vI 16] [(.int (34 : Int32)), (.ref t1), (.ref a1)])) rfl (by rw [hml]; rfl) (argsL := [(.ref t1), (.int (34 : Int32))]) (rest := [(.ref a1)]) rfl (lenOf pd_7 rfl) rfl (by show 2 * 0 + _ ≤ _; exact Nat.le_of_eq rfl) (hb hby d_jdk_68_method_9_code_32) (by decide) (by decide)
  obtain ⟨r_62, kr_62, rfl, Nq_62, K_62, u0_62, u1_62⟩ := hQ_62
  have N_62 := Fr.app N_60 Nq_62
  have le_62 : h0.size ≤ T_62.heap.size := K_62.1
  have KP_62 := KP0.trans K_62 all0
  have O_62 := hO.keep K_62 all0
  have sz_r_62 : h0.size ≤ r_62 := Nat.le_trans (Nat.le_refl _) u0_62
  have g_r_62 : n0 ≤ r_62 := Nat.le_trans Z0 sz_r_62
  refine Go.step st_62 ?_
  show Go p e below _ (T_62.setTop (mkF m 35 #[vR a1, vI (Int32.ofNat m1), vI 16] [(.ref r_62), (.ref a1)]))
  have f63 : Exa Z T_62.heap a1 "java/lang/StringBuilder" := (E_a1.keep K_62)
  have f64 : Fld Z T_62.heap a1 "java/lang/AbstractStringBuilder" "value" "[B" (.ref t1) := (F_a1v.keep K_62 nin0)
  obtain ⟨T_65, h_65, X_65, e_65, W_65, st_65⟩ := putF X_62 hx hZ hown (host := "") (Or.inl (wd_58 hw)) Via.refl rfl f64 f63 (Or.inl (wd_59 hw)) (wd_45 hw) (ty := (.array .byte)) pf_0 rfl rfl (g := (mkF m 35 #[vR a1, vI (Int32.ofNat m1), vI 16] [(.ref r_62), (.ref a1)])) rfl rfl (hb hby d_jdk_68_method_9_code_35)
  refine Go.step st_65 ?_
  have N_65 := Fr.snoc X_65 N_62 g_a1
  have le_65 : T_62.heap.size ≤ h_65.size := Nat.le_of_eq W_65.size.symm
  have KP_65 := KP_62.wr W_65 (Or.inl (List.mem_of_getElem? (i := 0) rfl))
  have O_65 := O_62.wr W_65 g_a1
  have F_65 : Fld Z h_65 a1 "java/lang/AbstractStringBuilder" "value" "[B" (.ref r_62) := f64.same W_65
  show Go p e below _ (T_65.setTop (mkF m 38 #[vR a1, vI (Int32.ofNat m1), vI 16] []))
  have f66 : Fld Z h_65 a1 "java/lang/AbstractStringBuilder" "coder" "B" (.int (0 : Int32)) := ((F_a1c.keep K_62 nin0).other W_65 (Or.inr (sn_0 hw)))
  have f67 : Fld Z h_65 a1 "java/lang/AbstractStringBuilder" "count" "I" (.int n1) := ((F_a1n.keep K_62 nin0).other W_65 (Or.inr (sn_2 hw)))
  have f68 : Arv Z h_65 r_62 kr_62 .byte (34 : Int32) ((bs ++ List.replicate 18 (0 : Int32)).map Value.int) (.int (0 : Int32)) := (u1_62.other W_65 (Ne.symm (Nat.ne_of_lt (Nat.lt_of_lt_of_le E_a1.lt (Nat.le_trans (Nat.le_refl _) u0_62)))))
  exact Go.ret0 X_65 hx hlk hret (hb hby d_jdk_68_method_9_code_38) (by decide) (by decide) (by rw [e_65]; exact ⟨r_62, kr_62, rfl, N_65, KP_65, F_65, sz_r_62, f66, f67, f68⟩)
--@E
--@C abaN
def Q_abaN (Z : State) (zc : Int32) (vfm : Value) (a1 : Addr) (t1 : Addr) (k1 : ClassId) (bs : List Int32) (cs : List Int32) (x1 : Addr) (ds : List Int32) (h0 : Heap) (n0 : Nat) (v : Option Value) (h : Heap) (L : List Loc) : Prop := v = some (.ref a1) ∧ Fr n0 L ∧ Keep h0 h [a1, t1] ∧ Fld Z h a1 "java/lang/AbstractStringBuilder" "value" "[B" (.ref t1) ∧ Fld Z h a1 "java/lang/AbstractStringBuilder" "coder" "B" (.int (0 : Int32)) ∧ Fld Z h a1 "java/lang/AbstractStringBuilder" "count" "I" (.int (Int32.ofNat (cs ++ ds).length)) ∧ Arv Z h t1 k1 .byte (16 : Int32) ((insB bs cs ds).map Value.int) (.int (0 : Int32))
set_option maxRecDepth 65536 in
set_option maxHeartbeats 40000000 in
theorem rm_abaN (l : Launch) (Z : State) (a0 : Array Value) (hw : ∀ d ∈ tables_1, d.before a0 Z = true) (zc : Int32) (vfm : Value) (a1 : Addr) (t1 : Addr) (k1 : ClassId) (bs : List Int32) (cs : List Int32) (x1 : Addr) (ds : List Int32) (h0 : Heap) (n0 : Nat) (Z0 : n0 ≤ h0.size) (E_a1 : Exa Z h0 a1 "java/lang/StringBuilder") (F_a1v : Fld Z h0 a1 "java/lang/AbstractStringBuilder" "value" "[B" (.ref t1)) (F_a1c : Fld Z h0 a1 "java/lang/AbstractStringBuilder" "coder" "B" (.int (0 : Int32))) (F_a1n : Fld Z h0 a1 "java/lang/AbstractStringBuilder" "count" "I" (.int (Int32.ofNat cs.length))) (A_t1 : Arv Z h0 t1 k1 .byte (16 : Int32) (bs.map Value.int) (.int (0 : Int32))) (g_a1 : n0 ≤ a1) (g_t1 : n0 ≤ t1) (S_x1 : Str Z h0.size h0 x1 ds) (hbs : (bs.length = 16)) (hN : (cs.length + ds.length ≤ 16)) (hSt : St Z zc vfm) (hO : Old Z n0 h0) :
    CN l Z ({ cls := "java/lang/AbstractStringBuilder", name := "append", desc := "(Ljava/lang/String;)Ljava/lang/AbstractStringBuilder;" } : Jvm.MethodName) [(Jvm.Cond.code ({ cls := "java/lang/AbstractStringBuilder", name := "append", desc := "(Ljava/lang/String;)Ljava/lang/AbstractStringBuilder;" } : Jvm.MethodName) jdk_68_method_22_code (3 : Nat) (Option.some (Jvm.ClassFile.FieldType.object "java/lang/AbstractStringBuilder")))] ({ frames := 3, cells := 0, slots := 0, locals := 47 } : Room) #[(.ref a1), (.ref x1)] h0 (Q_abaN Z zc vfm a1 t1 k1 bs cs x1 ds h0 n0) := by
  refine CN.of (L0 := #[vR a1, vR x1, vU]) (plainFor_of_name pn_0) (fun m => by first | (simp [entryFrame, mkF, argsToLocals, Value.category]; done) | rfl) ?_
  intro p e s m below meth c s₁ hx hby hml hret hlk hZ hown hnm X0 e0
  have N0 := Fr.nil n0
  have KP0 := Keep.refl h0 [a1, t1]
  have hSt_ := hSt
  obtain ⟨S_cs, n_cs, S_fm, r_fm⟩ := hSt_
  show Go p e below _ (s₁.setTop (mkF m 0 #[vR a1, vR x1, vU] []))
  have cp69 := S_x1
  obtain ⟨t70, kb70, -, hb70, Ex70, Fv70, Fc70, Av70, hl70, hn70⟩ := cp69
  refine Go.step (fun _ k => XS.aloadN X0.here hx rfl (hb hby d_jdk_68_method_22_code_0) rfl rfl k) ?_
  show Go p e below _ (s₁.setTop (mkF m 1 #[vR a1, vR x1, vU] [(.ref x1)]))
  refine Go.step (fun _ k => XS.ifnonnullYes X0.here hx rfl (pc0 := 1) (pc' := 9) rfl (hb hby d_jdk_68_method_22_code_1) rfl (by decide) (by decide) k) ?_
  show Go p e below _ (s₁.setTop (mkF m 9 #[vR a1, vR x1, vU] []))
  refine Go.step (fun _ k => XS.aloadN X0.here hx rfl (hb hby d_jdk_68_method_22_code_9) rfl rfl k) ?_
  show Go p e below _ (s₁.setTop (mkF m 10 #[vR a1, vR x1, vU] [(.ref x1)]))
  have cp71 := S_x1
  obtain ⟨t72, kb72, -, -, Ex72, Fv72, Fc72, Av72, hl72, hn72⟩ := cp71
  obtain ⟨v_73, T_73, L_73, X_73, hQ_73, st_73⟩ := goV X0 hx hZ (y := Y_9) (z := Y_9) (kc := 0) (ks := 0) (QQ := fun v h' L => v = some (.int (Int32.ofNat ds.length)) ∧ L = [] ∧ h' = h0) hown (wd_72 hw) (wd_73 hw) (notFace_of_selects (args := #[]) (mvT hZ (wd_75 hw))) (wd_75 hw) (wd_74 hw) (by decide) (StrChars.Road.lenW (W := 0) hZ (sw_wordsLen hw) (kI := 4) (wd_5 hw) Ex72 Fv72 Fc72 Av72 (StrChars.Road.codOf rfl (fun c hc => (hl72 c hc).2)) (up255 hl72) (S_cs.ext hO.2) n_cs hn72 (by decide) (by decide)) e0 Ex72 (g := (mkF m 10 #[vR a1, vR x1, vU] [(.ref x1)])) rfl (by rw [hml]; rfl) (argsL := []) (rest := []) rfl (lenOf pd_8 rfl) rfl (by show 2 * 0 + _ ≤ _; exact Nat.le_of_eq rfl) (hb hby d_jdk_68_method_22_code_10) (by decide) (by decide)
  obtain ⟨rfl, rfl, e_73⟩ := hQ_73
  have N_73 := Fr.app N0 (Fr.nil n0)
  refine Go.step st_73 ?_
  show Go p e below _ (T_73.setTop (mkF m 13 #[vR a1, vR x1, vU] [(.int (Int32.ofNat ds.length))]))
  refine Go.step (fun _ k => XS.istoreN X_73.here hx rfl (hb hby d_jdk_68_method_22_code_13) rfl (l' := #[vR a1, vR x1, vI (Int32.ofNat ds.length)]) rfl k) ?_
  show Go p e below _ (T_73.setTop (mkF m 14 #[vR a1, vR x1, vI (Int32.ofNat ds.length)] []))
  refine Go.step (fun _ k => XS.aloadN X_73.here hx rfl (hb hby d_jdk_68_method_22_code_14) rfl rfl k) ?_
  refine Go.step (fun _ k => XS.aloadN X_73.here hx rfl (hb hby d_jdk_68_method_22_code_15) rfl rfl k) ?_
  show Go p e below _ (T_73.setTop (mkF m 16 #[vR a1, vR x1, vI (Int32.ofNat ds.length)] [(.ref a1), (.ref a1)]))
  obtain ⟨T_74, X_74, e_74, st_74⟩ := getF X_73 hx hZ hown (host := "") (Or.inl (wd_82 hw)) Via.refl e_73 F_a1n (g := (mkF m 16 #[vR a1, vR x1, vI (Int32.ofNat ds.length)] [(.ref a1), (.ref a1)])) rfl rfl (hb hby d_jdk_68_method_22_code_16)
  refine Go.step st_74 ?_
  show Go p e below _ (T_74.setTop (mkF m 19 #[vR a1, vR x1, vI (Int32.ofNat ds.length)] [(.int (Int32.ofNat cs.length)), (.ref a1)]))
  refine Go.step (fun _ k => XS.iloadN X_74.here hx rfl (hb hby d_jdk_68_method_22_code_19) rfl  k) ?_
  show Go p e below _ (T_74.setTop (mkF m 20 #[vR a1, vR x1, vI (Int32.ofNat ds.length)] [(.int (Int32.ofNat ds.length)), (.int (Int32.ofNat cs.length)), (.ref a1)]))
  refine Go.step (fun _ k => XS.iadd X_74.here hx rfl (hb hby d_jdk_68_method_22_code_20) rfl k) ?_
  show Go p e below _ (T_74.setTop (mkF m 21 #[vR a1, vR x1, vI (Int32.ofNat ds.length)] [(.int ((Int32.ofNat cs.length) + (Int32.ofNat ds.length))), (.ref a1)]))
  refine own_top (congrArg Value.int (show ((Int32.ofNat cs.length) + (Int32.ofNat ds.length)) = (Int32.ofNat (cs ++ ds).length) from len_app cs ds)) ?_
  show Go p e below _ (T_74.setTop (mkF m 21 #[vR a1, vR x1, vI (Int32.ofNat ds.length)] [(.int (Int32.ofNat (cs ++ ds).length)), (.ref a1)]))
  obtain ⟨v_75, T_75, L_75, X_75, hQ_75, st_75⟩ := goP X_74 hx hZ (y := Y_10) hown (wd_84 hw) (wd_85 hw) (sel_priv (wd_87 hw) (Cond.privateMethod_at (wd_86 hw)) (wd_85 hw) (by decide)) (wd_86 hw) (wd_88 hw) (by decide) (backOf (W := 0) (rm_ecN l Z a0 hw zc vfm (a1) (t1) (k1) (bs) ((cs ++ ds).length) h0 n0 (Nat.le_trans Z0 KP0.1) E_a1 F_a1v F_a1c A_t1 (by rw [List.length_append]; exact hN) hSt hO) hZ (wd_88 hw) (wd_54 hw) (by decide) (by decide)) e_74 E_a1 (g := (mkF m 21 #[vR a1, vR x1, vI (Int32.ofNat ds.length)] [(.int (Int32.ofNat (cs ++ ds).length)), (.ref a1)])) rfl (by rw [hml]; rfl) (argsL := [(.int (Int32.ofNat (cs ++ ds).length))]) (rest := []) rfl (lenOf pd_0 rfl) rfl (by show 2 * 0 + _ ≤ _; exact Nat.le_of_eq rfl) (hb hby d_jdk_68_method_22_code_21) (by decide) (by decide)
  obtain ⟨rfl, Nq_75, e_75⟩ := hQ_75
  have N_75 := Fr.app N_73 Nq_75
  refine Go.step st_75 ?_
  show Go p e below _ (T_75.setTop (mkF m 24 #[vR a1, vR x1, vI (Int32.ofNat ds.length)] []))
  refine Go.step (fun _ k => XS.aloadN X_75.here hx rfl (hb hby d_jdk_68_method_22_code_24) rfl rfl k) ?_
  refine Go.step (fun _ k => XS.aloadN X_75.here hx rfl (hb hby d_jdk_68_method_22_code_25) rfl rfl k) ?_
  show Go p e below _ (T_75.setTop (mkF m 26 #[vR a1, vR x1, vI (Int32.ofNat ds.length)] [(.ref a1), (.ref a1)]))
  obtain ⟨T_76, X_76, e_76, st_76⟩ := getF X_75 hx hZ hown (host := "") (Or.inl (wd_82 hw)) Via.refl e_75 F_a1n (g := (mkF m 26 #[vR a1, vR x1, vI (Int32.ofNat ds.length)] [(.ref a1), (.ref a1)])) rfl rfl (hb hby d_jdk_68_method_22_code_26)
  refine Go.step st_76 ?_
  show Go p e below _ (T_76.setTop (mkF m 29 #[vR a1, vR x1, vI (Int32.ofNat ds.length)] [(.int (Int32.ofNat cs.length)), (.ref a1)]))
  refine Go.step (fun _ k => XS.aloadN X_76.here hx rfl (hb hby d_jdk_68_method_22_code_29) rfl rfl k) ?_
  show Go p e below _ (T_76.setTop (mkF m 30 #[vR a1, vR x1, vI (Int32.ofNat ds.length)] [(.ref x1), (.int (Int32.ofNat cs.length)), (.ref a1)]))
  obtain ⟨v_77, T_77, L_77, X_77, hQ_77, st_77⟩ := goP X_76 hx hZ (y := Y_11) hown (wd_89 hw) (wd_90 hw) (sel_priv (wd_92 hw) (Cond.privateMethod_at (wd_91 hw)) (wd_90 hw) (by decide)) (wd_91 hw) (wd_93 hw) (by decide) (backOf (W := 0) (rm_psa l Z a0 hw zc vfm (a1) (t1) (k1) ((16 : Int32)) (bs) (cs) (x1) (ds) h0 n0 (Nat.le_trans Z0 KP0.1) E_a1 F_a1v F_a1c A_t1 g_t1 S_x1 (by rw [hbs]; rfl) (by rw [hbs]; decide) (by rw [hbs]; exact hN) hSt hO) hZ (wd_93 hw) (wd_54 hw) (by decide) (by decide)) e_76 E_a1 (g := (mkF m 30 #[vR a1, vR x1, vI (Int32.ofNat ds.length)] [(.ref x1), (.int (Int32.ofNat cs.length)), (.ref a1)])) rfl (by rw [hml]; rfl) (argsL := [(.int (Int32.ofNat cs.length)), (.ref x1)]) (rest := []) rfl (lenOf pd_9 rfl) rfl (by show 2 * 0 + _ ≤ _; exact Nat.le_of_eq rfl) (hb hby d_jdk_68_method_22_code_30) (by decide) (by decide)
  obtain ⟨rfl, Nq_77, K_77, u0_77⟩ := hQ_77
  have N_77 := Fr.app N_75 Nq_77
  have le_77 : h0.size ≤ T_77.heap.size := K_77.1
  have KP_77 := KP0.trans K_77 (allS (Or.inl (List.mem_of_getElem? (i := 1) rfl)) all0)
  have O_77 := hO.keep K_77 (allS g_t1 all0)
  refine Go.step st_77 ?_
  show Go p e below _ (T_77.setTop (mkF m 33 #[vR a1, vR x1, vI (Int32.ofNat ds.length)] []))
  refine Go.step (fun _ k => XS.aloadN X_77.here hx rfl (hb hby d_jdk_68_method_22_code_33) rfl rfl k) ?_
  refine Go.step (fun _ k => XS.dup X_77.here hx rfl (hb hby d_jdk_68_method_22_code_34) rfl rfl k) ?_
  show Go p e below _ (T_77.setTop (mkF m 35 #[vR a1, vR x1, vI (Int32.ofNat ds.length)] [(.ref a1), (.ref a1)]))
  have f78 : Fld Z T_77.heap a1 "java/lang/AbstractStringBuilder" "count" "I" (.int (Int32.ofNat cs.length)) := (F_a1n.keep K_77 (ninS (Exa.neArv E_a1 A_t1 (wd_45 hw)) nin0))
  obtain ⟨T_79, X_79, e_79, st_79⟩ := getF X_77 hx hZ hown (host := "") (Or.inl (wd_82 hw)) Via.refl rfl f78 (g := (mkF m 35 #[vR a1, vR x1, vI (Int32.ofNat ds.length)] [(.ref a1), (.ref a1)])) rfl rfl (hb hby d_jdk_68_method_22_code_35)
  refine Go.step st_79 ?_
  show Go p e below _ (T_79.setTop (mkF m 38 #[vR a1, vR x1, vI (Int32.ofNat ds.length)] [(.int (Int32.ofNat cs.length)), (.ref a1)]))
  refine Go.step (fun _ k => XS.iloadN X_79.here hx rfl (hb hby d_jdk_68_method_22_code_38) rfl  k) ?_
  show Go p e below _ (T_79.setTop (mkF m 39 #[vR a1, vR x1, vI (Int32.ofNat ds.length)] [(.int (Int32.ofNat ds.length)), (.int (Int32.ofNat cs.length)), (.ref a1)]))
  refine Go.step (fun _ k => XS.iadd X_79.here hx rfl (hb hby d_jdk_68_method_22_code_39) rfl k) ?_
  show Go p e below _ (T_79.setTop (mkF m 40 #[vR a1, vR x1, vI (Int32.ofNat ds.length)] [(.int ((Int32.ofNat cs.length) + (Int32.ofNat ds.length))), (.ref a1)]))
  refine own_top (congrArg Value.int (show ((Int32.ofNat cs.length) + (Int32.ofNat ds.length)) = (Int32.ofNat (cs ++ ds).length) from len_app cs ds)) ?_
  show Go p e below _ (T_79.setTop (mkF m 40 #[vR a1, vR x1, vI (Int32.ofNat ds.length)] [(.int (Int32.ofNat (cs ++ ds).length)), (.ref a1)]))
  have f80 : Exa Z T_77.heap a1 "java/lang/StringBuilder" := (E_a1.keep K_77)
  obtain ⟨T_81, h_81, X_81, e_81, W_81, st_81⟩ := putF X_79 hx hZ hown (host := "") (Or.inl (wd_82 hw)) Via.refl e_79 f78 f80 (Or.inl (wd_83 hw)) (wd_45 hw) (ty := .int) pf_2 rfl rfl (g := (mkF m 40 #[vR a1, vR x1, vI (Int32.ofNat ds.length)] [(.int (Int32.ofNat (cs ++ ds).length)), (.ref a1)])) rfl rfl (hb hby d_jdk_68_method_22_code_40)
  refine Go.step st_81 ?_
  have N_81 := Fr.snoc X_81 N_77 g_a1
  have le_81 : T_77.heap.size ≤ h_81.size := Nat.le_of_eq W_81.size.symm
  have KP_81 := KP_77.wr W_81 (Or.inl (List.mem_of_getElem? (i := 0) rfl))
  have O_81 := O_77.wr W_81 g_a1
  have F_81 : Fld Z h_81 a1 "java/lang/AbstractStringBuilder" "count" "I" (.int (Int32.ofNat (cs ++ ds).length)) := f78.same W_81
  show Go p e below _ (T_81.setTop (mkF m 43 #[vR a1, vR x1, vI (Int32.ofNat ds.length)] []))
  refine Go.step (fun _ k => XS.aloadN X_81.here hx rfl (hb hby d_jdk_68_method_22_code_43) rfl rfl k) ?_
  show Go p e below _ (T_81.setTop (mkF m 44 #[vR a1, vR x1, vI (Int32.ofNat ds.length)] [(.ref a1)]))
  have f82 : Fld Z h_81 a1 "java/lang/AbstractStringBuilder" "value" "[B" (.ref t1) := ((F_a1v.keep K_77 (ninS (Exa.neArv E_a1 A_t1 (wd_45 hw)) nin0)).other W_81 (Or.inr (sn_4 hw)))
  have f83 : Fld Z h_81 a1 "java/lang/AbstractStringBuilder" "coder" "B" (.int (0 : Int32)) := ((F_a1c.keep K_77 (ninS (Exa.neArv E_a1 A_t1 (wd_45 hw)) nin0)).other W_81 (Or.inr (sn_5 hw)))
  have f84 : Arv Z h_81 t1 k1 .byte (16 : Int32) ((insB bs cs ds).map Value.int) (.int (0 : Int32)) := (u0_77.other W_81 (Ne.symm (Exa.neArv E_a1 A_t1 (wd_45 hw))))
  exact Go.retV X_81 hx hlk hret rfl (Or.inr (Or.inr (Or.inr (Or.inr ⟨rfl, rfl, rfl⟩)))) (hb hby d_jdk_68_method_22_code_44) (by decide) (by decide) (by rw [e_81]; exact ⟨rfl, N_81, KP_81, f82, f83, F_81, f84⟩)
--@E
--@C sbaN
def Q_sbaN (Z : State) (zc : Int32) (vfm : Value) (a1 : Addr) (t1 : Addr) (k1 : ClassId) (bs : List Int32) (cs : List Int32) (x1 : Addr) (ds : List Int32) (h0 : Heap) (n0 : Nat) (v : Option Value) (h : Heap) (L : List Loc) : Prop := v = some (.ref a1) ∧ Fr n0 L ∧ Keep h0 h [a1, t1] ∧ Fld Z h a1 "java/lang/AbstractStringBuilder" "value" "[B" (.ref t1) ∧ Fld Z h a1 "java/lang/AbstractStringBuilder" "coder" "B" (.int (0 : Int32)) ∧ Fld Z h a1 "java/lang/AbstractStringBuilder" "count" "I" (.int (Int32.ofNat (cs ++ ds).length)) ∧ Arv Z h t1 k1 .byte (16 : Int32) ((insB bs cs ds).map Value.int) (.int (0 : Int32))
set_option maxRecDepth 65536 in
set_option maxHeartbeats 40000000 in
theorem rm_sbaN (l : Launch) (Z : State) (a0 : Array Value) (hw : ∀ d ∈ tables_1, d.before a0 Z = true) (zc : Int32) (vfm : Value) (a1 : Addr) (t1 : Addr) (k1 : ClassId) (bs : List Int32) (cs : List Int32) (x1 : Addr) (ds : List Int32) (h0 : Heap) (n0 : Nat) (Z0 : n0 ≤ h0.size) (E_a1 : Exa Z h0 a1 "java/lang/StringBuilder") (F_a1v : Fld Z h0 a1 "java/lang/AbstractStringBuilder" "value" "[B" (.ref t1)) (F_a1c : Fld Z h0 a1 "java/lang/AbstractStringBuilder" "coder" "B" (.int (0 : Int32))) (F_a1n : Fld Z h0 a1 "java/lang/AbstractStringBuilder" "count" "I" (.int (Int32.ofNat cs.length))) (A_t1 : Arv Z h0 t1 k1 .byte (16 : Int32) (bs.map Value.int) (.int (0 : Int32))) (g_a1 : n0 ≤ a1) (g_t1 : n0 ≤ t1) (S_x1 : Str Z h0.size h0 x1 ds) (hbs : (bs.length = 16)) (hN : (cs.length + ds.length ≤ 16)) (hSt : St Z zc vfm) (hO : Old Z n0 h0) :
    CN l Z ({ cls := "java/lang/StringBuilder", name := "append", desc := "(Ljava/lang/String;)Ljava/lang/StringBuilder;" } : Jvm.MethodName) [(Jvm.Cond.code ({ cls := "java/lang/StringBuilder", name := "append", desc := "(Ljava/lang/String;)Ljava/lang/StringBuilder;" } : Jvm.MethodName) jdk_67_method_7_code (2 : Nat) (Option.some (Jvm.ClassFile.FieldType.object "java/lang/StringBuilder")))] ({ frames := 4, cells := 0, slots := 0, locals := 61 } : Room) #[(.ref a1), (.ref x1)] h0 (Q_sbaN Z zc vfm a1 t1 k1 bs cs x1 ds h0 n0) := by
  refine CN.of (L0 := #[vR a1, vR x1]) (plainFor_of_name pn_1) (fun m => by first | (simp [entryFrame, mkF, argsToLocals, Value.category]; done) | rfl) ?_
  intro p e s m below meth c s₁ hx hby hml hret hlk hZ hown hnm X0 e0
  have N0 := Fr.nil n0
  have KP0 := Keep.refl h0 [a1, t1]
  have hSt_ := hSt
  obtain ⟨S_cs, n_cs, S_fm, r_fm⟩ := hSt_
  show Go p e below _ (s₁.setTop (mkF m 0 #[vR a1, vR x1] []))
  refine Go.step (fun _ k => XS.aloadN X0.here hx rfl (hb hby d_jdk_67_method_7_code_0) rfl rfl k) ?_
  refine Go.step (fun _ k => XS.aloadN X0.here hx rfl (hb hby d_jdk_67_method_7_code_1) rfl rfl k) ?_
  show Go p e below _ (s₁.setTop (mkF m 2 #[vR a1, vR x1] [(.ref x1), (.ref a1)]))
  obtain ⟨v_85, T_85, L_85, X_85, hQ_85, st_85⟩ := goSup X0 hx hZ (y := Y_12) hown (wd_67 hw) (same_own (wd_68 hw) (wd_87 hw) rfl (by decide)) (wd_68 hw) (wd_69 hw) (by decide) (backOf (W := 0) (rm_abaN l Z a0 hw zc vfm (a1) (t1) (k1) (bs) (cs) (x1) (ds) h0 n0 (Nat.le_trans Z0 KP0.1) E_a1 F_a1v F_a1c F_a1n A_t1 g_a1 g_t1 S_x1 hbs hN hSt hO) hZ (wd_71 hw) (wd_54 hw) (by decide) (by decide)) e0 (Ins.self E_a1) (wd_71 hw) (g := (mkF m 2 #[vR a1, vR x1] [(.ref x1), (.ref a1)])) rfl (by rw [hml]; rfl) (argsL := [(.ref x1)]) (rest := []) rfl (lenOf pd_10 rfl) rfl (by show 2 * 0 + _ ≤ _; exact Nat.le_of_eq rfl) (hb hby d_jdk_67_method_7_code_2) (by decide) (by decide)
  obtain ⟨rfl, Nq_85, K_85, u0_85, u1_85, u2_85, u3_85⟩ := hQ_85
  have N_85 := Fr.app N0 Nq_85
  have le_85 : h0.size ≤ T_85.heap.size := K_85.1
  have KP_85 := KP0.trans K_85 (allS (Or.inl (List.mem_of_getElem? (i := 0) rfl)) (allS (Or.inl (List.mem_of_getElem? (i := 1) rfl)) all0))
  have O_85 := hO.keep K_85 (allS g_a1 (allS g_t1 all0))
  refine Go.step st_85 ?_
  show Go p e below _ (T_85.setTop (mkF m 5 #[vR a1, vR x1] [(.ref a1)]))
  refine Go.step (fun _ k => XS.pop X_85.here hx rfl (hb hby d_jdk_67_method_7_code_5) rfl rfl k) ?_
  show Go p e below _ (T_85.setTop (mkF m 6 #[vR a1, vR x1] []))
  refine Go.step (fun _ k => XS.aloadN X_85.here hx rfl (hb hby d_jdk_67_method_7_code_6) rfl rfl k) ?_
  show Go p e below _ (T_85.setTop (mkF m 7 #[vR a1, vR x1] [(.ref a1)]))
  exact Go.retV X_85 hx hlk hret rfl (Or.inr (Or.inr (Or.inr (Or.inr ⟨rfl, rfl, rfl⟩)))) (hb hby d_jdk_67_method_7_code_7) (by decide) (by decide) (by exact ⟨rfl, N_85, KP_85, u0_85, u1_85, u2_85, u3_85⟩)
--@E
--@C abaG
def Q_abaG (Z : State) (zc : Int32) (vfm : Value) (a1 : Addr) (t1 : Addr) (k1 : ClassId) (bs : List Int32) (cs : List Int32) (x1 : Addr) (ds : List Int32) (h0 : Heap) (n0 : Nat) (v : Option Value) (h : Heap) (L : List Loc) : Prop := ∃ (r : Addr) (kr : ClassId), v = some (.ref a1) ∧ Fr n0 L ∧ Keep h0 h [a1] ∧ Fld Z h a1 "java/lang/AbstractStringBuilder" "value" "[B" (.ref r) ∧ h0.size ≤ r ∧ Fld Z h a1 "java/lang/AbstractStringBuilder" "coder" "B" (.int (0 : Int32)) ∧ Fld Z h a1 "java/lang/AbstractStringBuilder" "count" "I" (.int (Int32.ofNat (cs ++ ds).length)) ∧ Arv Z h r kr .byte (34 : Int32) ((insB (bs ++ List.replicate 18 (0 : Int32)) cs ds).map Value.int) (.int (0 : Int32))
set_option maxRecDepth 65536 in
set_option maxHeartbeats 40000000 in
theorem rm_abaG (l : Launch) (Z : State) (a0 : Array Value) (hw : ∀ d ∈ tables_1, d.before a0 Z = true) (zc : Int32) (vfm : Value) (a1 : Addr) (t1 : Addr) (k1 : ClassId) (bs : List Int32) (cs : List Int32) (x1 : Addr) (ds : List Int32) (h0 : Heap) (n0 : Nat) (Z0 : n0 ≤ h0.size) (E_a1 : Exa Z h0 a1 "java/lang/StringBuilder") (F_a1v : Fld Z h0 a1 "java/lang/AbstractStringBuilder" "value" "[B" (.ref t1)) (F_a1c : Fld Z h0 a1 "java/lang/AbstractStringBuilder" "coder" "B" (.int (0 : Int32))) (F_a1n : Fld Z h0 a1 "java/lang/AbstractStringBuilder" "count" "I" (.int (Int32.ofNat cs.length))) (A_t1 : Arv Z h0 t1 k1 .byte (16 : Int32) (bs.map Value.int) (.int (0 : Int32))) (g_a1 : n0 ≤ a1) (g_t1 : n0 ≤ t1) (S_x1 : Str Z h0.size h0 x1 ds) (hbs : (bs.length = 16)) (hN : (16 < cs.length + ds.length ∧ cs.length + ds.length ≤ 33)) (hc : (cs.length ≤ 16)) (hSt : St Z zc vfm) (hO : Old Z n0 h0) :
    CN l Z ({ cls := "java/lang/AbstractStringBuilder", name := "append", desc := "(Ljava/lang/String;)Ljava/lang/AbstractStringBuilder;" } : Jvm.MethodName) [(Jvm.Cond.code ({ cls := "java/lang/AbstractStringBuilder", name := "append", desc := "(Ljava/lang/String;)Ljava/lang/AbstractStringBuilder;" } : Jvm.MethodName) jdk_68_method_22_code (3 : Nat) (Option.some (Jvm.ClassFile.FieldType.object "java/lang/AbstractStringBuilder")))] ({ frames := 4, cells := 1, slots := 34, locals := 62 } : Room) #[(.ref a1), (.ref x1)] h0 (Q_abaG Z zc vfm a1 t1 k1 bs cs x1 ds h0 n0) := by
  refine CN.of (L0 := #[vR a1, vR x1, vU]) (plainFor_of_name pn_0) (fun m => by first | (simp [entryFrame, mkF, argsToLocals, Value.category]; done) | rfl) ?_
  intro p e s m below meth c s₁ hx hby hml hret hlk hZ hown hnm X0 e0
  have N0 := Fr.nil n0
  have KP0 := Keep.refl h0 [a1]
  have hSt_ := hSt
  obtain ⟨S_cs, n_cs, S_fm, r_fm⟩ := hSt_
  show Go p e below _ (s₁.setTop (mkF m 0 #[vR a1, vR x1, vU] []))
  have cp86 := S_x1
  obtain ⟨t87, kb87, -, hb87, Ex87, Fv87, Fc87, Av87, hl87, hn87⟩ := cp86
  refine Go.step (fun _ k => XS.aloadN X0.here hx rfl (hb hby d_jdk_68_method_22_code_0) rfl rfl k) ?_
  show Go p e below _ (s₁.setTop (mkF m 1 #[vR a1, vR x1, vU] [(.ref x1)]))
  refine Go.step (fun _ k => XS.ifnonnullYes X0.here hx rfl (pc0 := 1) (pc' := 9) rfl (hb hby d_jdk_68_method_22_code_1) rfl (by decide) (by decide) k) ?_
  show Go p e below _ (s₁.setTop (mkF m 9 #[vR a1, vR x1, vU] []))
  refine Go.step (fun _ k => XS.aloadN X0.here hx rfl (hb hby d_jdk_68_method_22_code_9) rfl rfl k) ?_
  show Go p e below _ (s₁.setTop (mkF m 10 #[vR a1, vR x1, vU] [(.ref x1)]))
  have cp88 := S_x1
  obtain ⟨t89, kb89, -, -, Ex89, Fv89, Fc89, Av89, hl89, hn89⟩ := cp88
  obtain ⟨v_90, T_90, L_90, X_90, hQ_90, st_90⟩ := goV X0 hx hZ (y := Y_9) (z := Y_9) (kc := 0) (ks := 0) (QQ := fun v h' L => v = some (.int (Int32.ofNat ds.length)) ∧ L = [] ∧ h' = h0) hown (wd_72 hw) (wd_73 hw) (notFace_of_selects (args := #[]) (mvT hZ (wd_75 hw))) (wd_75 hw) (wd_74 hw) (by decide) (StrChars.Road.lenW (W := 0) hZ (sw_wordsLen hw) (kI := 4) (wd_5 hw) Ex89 Fv89 Fc89 Av89 (StrChars.Road.codOf rfl (fun c hc => (hl89 c hc).2)) (up255 hl89) (S_cs.ext hO.2) n_cs hn89 (by decide) (by decide)) e0 Ex89 (g := (mkF m 10 #[vR a1, vR x1, vU] [(.ref x1)])) rfl (by rw [hml]; rfl) (argsL := []) (rest := []) rfl (lenOf pd_8 rfl) rfl (by show 2 * 0 + _ ≤ _; exact Nat.le_of_eq rfl) (hb hby d_jdk_68_method_22_code_10) (by decide) (by decide)
  obtain ⟨rfl, rfl, e_90⟩ := hQ_90
  have N_90 := Fr.app N0 (Fr.nil n0)
  refine Go.step st_90 ?_
  show Go p e below _ (T_90.setTop (mkF m 13 #[vR a1, vR x1, vU] [(.int (Int32.ofNat ds.length))]))
  refine Go.step (fun _ k => XS.istoreN X_90.here hx rfl (hb hby d_jdk_68_method_22_code_13) rfl (l' := #[vR a1, vR x1, vI (Int32.ofNat ds.length)]) rfl k) ?_
  show Go p e below _ (T_90.setTop (mkF m 14 #[vR a1, vR x1, vI (Int32.ofNat ds.length)] []))
  refine Go.step (fun _ k => XS.aloadN X_90.here hx rfl (hb hby d_jdk_68_method_22_code_14) rfl rfl k) ?_
  refine Go.step (fun _ k => XS.aloadN X_90.here hx rfl (hb hby d_jdk_68_method_22_code_15) rfl rfl k) ?_
  show Go p e below _ (T_90.setTop (mkF m 16 #[vR a1, vR x1, vI (Int32.ofNat ds.length)] [(.ref a1), (.ref a1)]))
  obtain ⟨T_91, X_91, e_91, st_91⟩ := getF X_90 hx hZ hown (host := "") (Or.inl (wd_82 hw)) Via.refl e_90 F_a1n (g := (mkF m 16 #[vR a1, vR x1, vI (Int32.ofNat ds.length)] [(.ref a1), (.ref a1)])) rfl rfl (hb hby d_jdk_68_method_22_code_16)
  refine Go.step st_91 ?_
  show Go p e below _ (T_91.setTop (mkF m 19 #[vR a1, vR x1, vI (Int32.ofNat ds.length)] [(.int (Int32.ofNat cs.length)), (.ref a1)]))
  refine Go.step (fun _ k => XS.iloadN X_91.here hx rfl (hb hby d_jdk_68_method_22_code_19) rfl  k) ?_
  show Go p e below _ (T_91.setTop (mkF m 20 #[vR a1, vR x1, vI (Int32.ofNat ds.length)] [(.int (Int32.ofNat ds.length)), (.int (Int32.ofNat cs.length)), (.ref a1)]))
  refine Go.step (fun _ k => XS.iadd X_91.here hx rfl (hb hby d_jdk_68_method_22_code_20) rfl k) ?_
  show Go p e below _ (T_91.setTop (mkF m 21 #[vR a1, vR x1, vI (Int32.ofNat ds.length)] [(.int ((Int32.ofNat cs.length) + (Int32.ofNat ds.length))), (.ref a1)]))
  refine own_top (congrArg Value.int (show ((Int32.ofNat cs.length) + (Int32.ofNat ds.length)) = (Int32.ofNat (cs ++ ds).length) from len_app cs ds)) ?_
  show Go p e below _ (T_91.setTop (mkF m 21 #[vR a1, vR x1, vI (Int32.ofNat ds.length)] [(.int (Int32.ofNat (cs ++ ds).length)), (.ref a1)]))
  obtain ⟨v_92, T_92, L_92, X_92, hQ_92, st_92⟩ := goP X_91 hx hZ (y := Y_10) hown (wd_84 hw) (wd_85 hw) (sel_priv (wd_87 hw) (Cond.privateMethod_at (wd_86 hw)) (wd_85 hw) (by decide)) (wd_86 hw) (wd_88 hw) (by decide) (backOf (W := 0) (rm_ecG l Z a0 hw zc vfm (a1) (t1) (k1) (bs) ((cs ++ ds).length) ((Int32.ofNat cs.length)) h0 n0 (Nat.le_trans Z0 KP0.1) E_a1 F_a1v F_a1c F_a1n A_t1 g_a1 hbs (by rw [List.length_append]; exact hN) hSt hO) hZ (wd_88 hw) (wd_54 hw) (by decide) (by decide)) e_91 E_a1 (g := (mkF m 21 #[vR a1, vR x1, vI (Int32.ofNat ds.length)] [(.int (Int32.ofNat (cs ++ ds).length)), (.ref a1)])) rfl (by rw [hml]; rfl) (argsL := [(.int (Int32.ofNat (cs ++ ds).length))]) (rest := []) rfl (lenOf pd_0 rfl) rfl (by show 2 * 0 + _ ≤ _; exact Nat.le_of_eq rfl) (hb hby d_jdk_68_method_22_code_21) (by decide) (by decide)
  obtain ⟨r_92, kr_92, rfl, Nq_92, K_92, u0_92, u1_92, u2_92, u3_92, u4_92⟩ := hQ_92
  have N_92 := Fr.app N_90 Nq_92
  have le_92 : h0.size ≤ T_92.heap.size := K_92.1
  have KP_92 := KP0.trans K_92 (allS (Or.inl (List.mem_of_getElem? (i := 0) rfl)) all0)
  have O_92 := hO.keep K_92 (allS g_a1 all0)
  have sz_r_92 : h0.size ≤ r_92 := Nat.le_trans (Nat.le_refl _) u1_92
  have g_r_92 : n0 ≤ r_92 := Nat.le_trans Z0 sz_r_92
  refine Go.step st_92 ?_
  show Go p e below _ (T_92.setTop (mkF m 24 #[vR a1, vR x1, vI (Int32.ofNat ds.length)] []))
  refine Go.step (fun _ k => XS.aloadN X_92.here hx rfl (hb hby d_jdk_68_method_22_code_24) rfl rfl k) ?_
  refine Go.step (fun _ k => XS.aloadN X_92.here hx rfl (hb hby d_jdk_68_method_22_code_25) rfl rfl k) ?_
  show Go p e below _ (T_92.setTop (mkF m 26 #[vR a1, vR x1, vI (Int32.ofNat ds.length)] [(.ref a1), (.ref a1)]))
  obtain ⟨T_93, X_93, e_93, st_93⟩ := getF X_92 hx hZ hown (host := "") (Or.inl (wd_82 hw)) Via.refl rfl u3_92 (g := (mkF m 26 #[vR a1, vR x1, vI (Int32.ofNat ds.length)] [(.ref a1), (.ref a1)])) rfl rfl (hb hby d_jdk_68_method_22_code_26)
  refine Go.step st_93 ?_
  show Go p e below _ (T_93.setTop (mkF m 29 #[vR a1, vR x1, vI (Int32.ofNat ds.length)] [(.int (Int32.ofNat cs.length)), (.ref a1)]))
  refine Go.step (fun _ k => XS.aloadN X_93.here hx rfl (hb hby d_jdk_68_method_22_code_29) rfl rfl k) ?_
  show Go p e below _ (T_93.setTop (mkF m 30 #[vR a1, vR x1, vI (Int32.ofNat ds.length)] [(.ref x1), (.int (Int32.ofNat cs.length)), (.ref a1)]))
  have f94 : Exa Z T_92.heap a1 "java/lang/StringBuilder" := (E_a1.keep K_92)
  have f95 : Str Z h0.size T_92.heap x1 ds := (S_x1.keepE K_92 (allS (Or.inr ⟨_, _, _, E_a1, by decide, (wd_45 hw)⟩) all0))
  obtain ⟨v_96, T_96, L_96, X_96, hQ_96, st_96⟩ := goP X_93 hx hZ (y := Y_11) hown (wd_89 hw) (wd_90 hw) (sel_priv (wd_92 hw) (Cond.privateMethod_at (wd_91 hw)) (wd_90 hw) (by decide)) (wd_91 hw) (wd_93 hw) (by decide) (backOf (W := 0) (rm_psa l Z a0 hw zc vfm (a1) (r_92) (kr_92) ((34 : Int32)) ((bs ++ List.replicate 18 (0 : Int32))) (cs) (x1) (ds) T_92.heap n0 (Nat.le_trans Z0 KP_92.1) f94 u0_92 u2_92 u4_92 g_r_92 (f95.mono le_92) (by rw [List.length_append, hbs]; rfl) (by rw [List.length_append, hbs, List.length_replicate]; decide) (by rw [List.length_append, hbs, List.length_replicate]; omega) hSt O_92) hZ (wd_93 hw) (wd_54 hw) (by decide) (by decide)) e_93 f94 (g := (mkF m 30 #[vR a1, vR x1, vI (Int32.ofNat ds.length)] [(.ref x1), (.int (Int32.ofNat cs.length)), (.ref a1)])) rfl (by rw [hml]; rfl) (argsL := [(.int (Int32.ofNat cs.length)), (.ref x1)]) (rest := []) rfl (lenOf pd_9 rfl) rfl (by show 2 * 0 + _ ≤ _; exact Nat.le_of_eq rfl) (hb hby d_jdk_68_method_22_code_30) (by decide) (by decide)
  obtain ⟨rfl, Nq_96, K_96, u0_96⟩ := hQ_96
  have N_96 := Fr.app N_92 Nq_96
  have le_96 : T_92.heap.size ≤ T_96.heap.size := K_96.1
  have KP_96 := KP_92.trans K_96 (allS (Or.inr sz_r_92) all0)
  have O_96 := O_92.keep K_96 (allS g_r_92 all0)
  refine Go.step st_96 ?_
  show Go p e below _ (T_96.setTop (mkF m 33 #[vR a1, vR x1, vI (Int32.ofNat ds.length)] []))
  refine Go.step (fun _ k => XS.aloadN X_96.here hx rfl (hb hby d_jdk_68_method_22_code_33) rfl rfl k) ?_
  refine Go.step (fun _ k => XS.dup X_96.here hx rfl (hb hby d_jdk_68_method_22_code_34) rfl rfl k) ?_
  show Go p e below _ (T_96.setTop (mkF m 35 #[vR a1, vR x1, vI (Int32.ofNat ds.length)] [(.ref a1), (.ref a1)]))
  have f97 : Fld Z T_96.heap a1 "java/lang/AbstractStringBuilder" "count" "I" (.int (Int32.ofNat cs.length)) := (u3_92.keep K_96 (ninS (Nat.ne_of_lt (Nat.lt_of_lt_of_le E_a1.lt (Nat.le_trans (Nat.le_refl _) u1_92))) nin0))
  obtain ⟨T_98, X_98, e_98, st_98⟩ := getF X_96 hx hZ hown (host := "") (Or.inl (wd_82 hw)) Via.refl rfl f97 (g := (mkF m 35 #[vR a1, vR x1, vI (Int32.ofNat ds.length)] [(.ref a1), (.ref a1)])) rfl rfl (hb hby d_jdk_68_method_22_code_35)
  refine Go.step st_98 ?_
  show Go p e below _ (T_98.setTop (mkF m 38 #[vR a1, vR x1, vI (Int32.ofNat ds.length)] [(.int (Int32.ofNat cs.length)), (.ref a1)]))
  refine Go.step (fun _ k => XS.iloadN X_98.here hx rfl (hb hby d_jdk_68_method_22_code_38) rfl  k) ?_
  show Go p e below _ (T_98.setTop (mkF m 39 #[vR a1, vR x1, vI (Int32.ofNat ds.length)] [(.int (Int32.ofNat ds.length)), (.int (Int32.ofNat cs.length)), (.ref a1)]))
  refine Go.step (fun _ k => XS.iadd X_98.here hx rfl (hb hby d_jdk_68_method_22_code_39) rfl k) ?_
  show Go p e below _ (T_98.setTop (mkF m 40 #[vR a1, vR x1, vI (Int32.ofNat ds.length)] [(.int ((Int32.ofNat cs.length) + (Int32.ofNat ds.length))), (.ref a1)]))
  refine own_top (congrArg Value.int (show ((Int32.ofNat cs.length) + (Int32.ofNat ds.length)) = (Int32.ofNat (cs ++ ds).length) from len_app cs ds)) ?_
  show Go p e below _ (T_98.setTop (mkF m 40 #[vR a1, vR x1, vI (Int32.ofNat ds.length)] [(.int (Int32.ofNat (cs ++ ds).length)), (.ref a1)]))
  have f99 : Exa Z T_96.heap a1 "java/lang/StringBuilder" := (f94.keep K_96)
  obtain ⟨T_100, h_100, X_100, e_100, W_100, st_100⟩ := putF X_98 hx hZ hown (host := "") (Or.inl (wd_82 hw)) Via.refl e_98 f97 f99 (Or.inl (wd_83 hw)) (wd_45 hw) (ty := .int) pf_2 rfl rfl (g := (mkF m 40 #[vR a1, vR x1, vI (Int32.ofNat ds.length)] [(.int (Int32.ofNat (cs ++ ds).length)), (.ref a1)])) rfl rfl (hb hby d_jdk_68_method_22_code_40)
  refine Go.step st_100 ?_
  have N_100 := Fr.snoc X_100 N_96 g_a1
  have le_100 : T_96.heap.size ≤ h_100.size := Nat.le_of_eq W_100.size.symm
  have KP_100 := KP_96.wr W_100 (Or.inl (List.mem_of_getElem? (i := 0) rfl))
  have O_100 := O_96.wr W_100 g_a1
  have F_100 : Fld Z h_100 a1 "java/lang/AbstractStringBuilder" "count" "I" (.int (Int32.ofNat (cs ++ ds).length)) := f97.same W_100
  show Go p e below _ (T_100.setTop (mkF m 43 #[vR a1, vR x1, vI (Int32.ofNat ds.length)] []))
  refine Go.step (fun _ k => XS.aloadN X_100.here hx rfl (hb hby d_jdk_68_method_22_code_43) rfl rfl k) ?_
  show Go p e below _ (T_100.setTop (mkF m 44 #[vR a1, vR x1, vI (Int32.ofNat ds.length)] [(.ref a1)]))
  have f101 : Fld Z h_100 a1 "java/lang/AbstractStringBuilder" "value" "[B" (.ref r_92) := ((u0_92.keep K_96 (ninS (Nat.ne_of_lt (Nat.lt_of_lt_of_le E_a1.lt (Nat.le_trans (Nat.le_refl _) u1_92))) nin0)).other W_100 (Or.inr (sn_4 hw)))
  have f102 : Fld Z h_100 a1 "java/lang/AbstractStringBuilder" "coder" "B" (.int (0 : Int32)) := ((u2_92.keep K_96 (ninS (Nat.ne_of_lt (Nat.lt_of_lt_of_le E_a1.lt (Nat.le_trans (Nat.le_refl _) u1_92))) nin0)).other W_100 (Or.inr (sn_5 hw)))
  have f103 : Arv Z h_100 r_92 kr_92 .byte (34 : Int32) ((insB (bs ++ List.replicate 18 (0 : Int32)) cs ds).map Value.int) (.int (0 : Int32)) := (u0_96.other W_100 (Ne.symm (Nat.ne_of_lt (Nat.lt_of_lt_of_le E_a1.lt (Nat.le_trans (Nat.le_refl _) u1_92)))))
  exact Go.retV X_100 hx hlk hret rfl (Or.inr (Or.inr (Or.inr (Or.inr ⟨rfl, rfl, rfl⟩)))) (hb hby d_jdk_68_method_22_code_44) (by decide) (by decide) (by rw [e_100]; exact ⟨r_92, kr_92, rfl, N_100, KP_100, f101, sz_r_92, f102, F_100, f103⟩)
--@E
--@C sbaG
def Q_sbaG (Z : State) (zc : Int32) (vfm : Value) (a1 : Addr) (t1 : Addr) (k1 : ClassId) (bs : List Int32) (cs : List Int32) (x1 : Addr) (ds : List Int32) (h0 : Heap) (n0 : Nat) (v : Option Value) (h : Heap) (L : List Loc) : Prop := ∃ (r : Addr) (kr : ClassId), v = some (.ref a1) ∧ Fr n0 L ∧ Keep h0 h [a1] ∧ Fld Z h a1 "java/lang/AbstractStringBuilder" "value" "[B" (.ref r) ∧ h0.size ≤ r ∧ Fld Z h a1 "java/lang/AbstractStringBuilder" "coder" "B" (.int (0 : Int32)) ∧ Fld Z h a1 "java/lang/AbstractStringBuilder" "count" "I" (.int (Int32.ofNat (cs ++ ds).length)) ∧ Arv Z h r kr .byte (34 : Int32) ((insB (bs ++ List.replicate 18 (0 : Int32)) cs ds).map Value.int) (.int (0 : Int32))
set_option maxRecDepth 65536 in
set_option maxHeartbeats 40000000 in
theorem rm_sbaG (l : Launch) (Z : State) (a0 : Array Value) (hw : ∀ d ∈ tables_1, d.before a0 Z = true) (zc : Int32) (vfm : Value) (a1 : Addr) (t1 : Addr) (k1 : ClassId) (bs : List Int32) (cs : List Int32) (x1 : Addr) (ds : List Int32) (h0 : Heap) (n0 : Nat) (Z0 : n0 ≤ h0.size) (E_a1 : Exa Z h0 a1 "java/lang/StringBuilder") (F_a1v : Fld Z h0 a1 "java/lang/AbstractStringBuilder" "value" "[B" (.ref t1)) (F_a1c : Fld Z h0 a1 "java/lang/AbstractStringBuilder" "coder" "B" (.int (0 : Int32))) (F_a1n : Fld Z h0 a1 "java/lang/AbstractStringBuilder" "count" "I" (.int (Int32.ofNat cs.length))) (A_t1 : Arv Z h0 t1 k1 .byte (16 : Int32) (bs.map Value.int) (.int (0 : Int32))) (g_a1 : n0 ≤ a1) (g_t1 : n0 ≤ t1) (S_x1 : Str Z h0.size h0 x1 ds) (hbs : (bs.length = 16)) (hN : (16 < cs.length + ds.length ∧ cs.length + ds.length ≤ 33)) (hc : (cs.length ≤ 16)) (hSt : St Z zc vfm) (hO : Old Z n0 h0) :
    CN l Z ({ cls := "java/lang/StringBuilder", name := "append", desc := "(Ljava/lang/String;)Ljava/lang/StringBuilder;" } : Jvm.MethodName) [(Jvm.Cond.code ({ cls := "java/lang/StringBuilder", name := "append", desc := "(Ljava/lang/String;)Ljava/lang/StringBuilder;" } : Jvm.MethodName) jdk_67_method_7_code (2 : Nat) (Option.some (Jvm.ClassFile.FieldType.object "java/lang/StringBuilder")))] ({ frames := 5, cells := 1, slots := 34, locals := 76 } : Room) #[(.ref a1), (.ref x1)] h0 (Q_sbaG Z zc vfm a1 t1 k1 bs cs x1 ds h0 n0) := by
  refine CN.of (L0 := #[vR a1, vR x1]) (plainFor_of_name pn_1) (fun m => by first | (simp [entryFrame, mkF, argsToLocals, Value.category]; done) | rfl) ?_
  intro p e s m below meth c s₁ hx hby hml hret hlk hZ hown hnm X0 e0
  have N0 := Fr.nil n0
  have KP0 := Keep.refl h0 [a1]
  have hSt_ := hSt
  obtain ⟨S_cs, n_cs, S_fm, r_fm⟩ := hSt_
  show Go p e below _ (s₁.setTop (mkF m 0 #[vR a1, vR x1] []))
  refine Go.step (fun _ k => XS.aloadN X0.here hx rfl (hb hby d_jdk_67_method_7_code_0) rfl rfl k) ?_
  refine Go.step (fun _ k => XS.aloadN X0.here hx rfl (hb hby d_jdk_67_method_7_code_1) rfl rfl k) ?_
  show Go p e below _ (s₁.setTop (mkF m 2 #[vR a1, vR x1] [(.ref x1), (.ref a1)]))
  obtain ⟨v_104, T_104, L_104, X_104, hQ_104, st_104⟩ := goSup X0 hx hZ (y := Y_12) hown (wd_67 hw) (same_own (wd_68 hw) (wd_87 hw) rfl (by decide)) (wd_68 hw) (wd_69 hw) (by decide) (backOf (W := 0) (rm_abaG l Z a0 hw zc vfm (a1) (t1) (k1) (bs) (cs) (x1) (ds) h0 n0 (Nat.le_trans Z0 KP0.1) E_a1 F_a1v F_a1c F_a1n A_t1 g_a1 g_t1 S_x1 hbs hN hc hSt hO) hZ (wd_71 hw) (wd_54 hw) (by decide) (by decide)) e0 (Ins.self E_a1) (wd_71 hw) (g := (mkF m 2 #[vR a1, vR x1] [(.ref x1), (.ref a1)])) rfl (by rw [hml]; rfl) (argsL := [(.ref x1)]) (rest := []) rfl (lenOf pd_10 rfl) rfl (by show 2 * 0 + _ ≤ _; exact Nat.le_of_eq rfl) (hb hby d_jdk_67_method_7_code_2) (by decide) (by decide)
  obtain ⟨r_104, kr_104, rfl, Nq_104, K_104, u0_104, u1_104, u2_104, u3_104, u4_104⟩ := hQ_104
  have N_104 := Fr.app N0 Nq_104
  have le_104 : h0.size ≤ T_104.heap.size := K_104.1
  have KP_104 := KP0.trans K_104 (allS (Or.inl (List.mem_of_getElem? (i := 0) rfl)) all0)
  have O_104 := hO.keep K_104 (allS g_a1 all0)
  have sz_r_104 : h0.size ≤ r_104 := Nat.le_trans (Nat.le_refl _) u1_104
  have g_r_104 : n0 ≤ r_104 := Nat.le_trans Z0 sz_r_104
  refine Go.step st_104 ?_
  show Go p e below _ (T_104.setTop (mkF m 5 #[vR a1, vR x1] [(.ref a1)]))
  refine Go.step (fun _ k => XS.pop X_104.here hx rfl (hb hby d_jdk_67_method_7_code_5) rfl rfl k) ?_
  show Go p e below _ (T_104.setTop (mkF m 6 #[vR a1, vR x1] []))
  refine Go.step (fun _ k => XS.aloadN X_104.here hx rfl (hb hby d_jdk_67_method_7_code_6) rfl rfl k) ?_
  show Go p e below _ (T_104.setTop (mkF m 7 #[vR a1, vR x1] [(.ref a1)]))
  exact Go.retV X_104 hx hlk hret rfl (Or.inr (Or.inr (Or.inr (Or.inr ⟨rfl, rfl, rfl⟩)))) (hb hby d_jdk_67_method_7_code_7) (by decide) (by decide) (by exact ⟨r_104, kr_104, rfl, N_104, KP_104, u0_104, sz_r_104, u2_104, u3_104, u4_104⟩)
--@E
--@C cl
def Q_cl (Z : State) (zc : Int32) (vfm : Value) (f1 : Int32) (y1 : Int32) (h0 : Heap) (n0 : Nat) (v : Option Value) (h : Heap) (L : List Loc) : Prop := v = none ∧ Fr n0 L ∧ h = h0
set_option maxRecDepth 65536 in
set_option maxHeartbeats 40000000 in
theorem rm_cl (l : Launch) (Z : State) (a0 : Array Value) (hw : ∀ d ∈ tables_1, d.before a0 Z = true) (zc : Int32) (vfm : Value) (f1 : Int32) (y1 : Int32) (h0 : Heap) (n0 : Nat) (Z0 : n0 ≤ h0.size) (hfy : (¬ y1 < f1)) (hSt : St Z zc vfm) (hO : Old Z n0 h0) :
    CN l Z ({ cls := "java/util/Arrays", name := "checkLength", desc := "(II)V" } : Jvm.MethodName) [(Jvm.Cond.code ({ cls := "java/util/Arrays", name := "checkLength", desc := "(II)V" } : Jvm.MethodName) jdk_65_method_131_code (2 : Nat) (Option.none : Option Jvm.ClassFile.FieldType))] ({ frames := 0, cells := 0, slots := 0, locals := 0 } : Room) #[(.int f1), (.int y1)] h0 (Q_cl Z zc vfm f1 y1 h0 n0) := by
  refine CN.of (L0 := #[vI f1, vI y1]) (plainFor_of_name pn_4) (fun m => by first | (simp [entryFrame, mkF, argsToLocals, Value.category]; done) | rfl) ?_
  intro p e s m below meth c s₁ hx hby hml hret hlk hZ hown hnm X0 e0
  have N0 := Fr.nil n0
  have KP0 := Keep.refl h0 []
  have hSt_ := hSt
  obtain ⟨S_cs, n_cs, S_fm, r_fm⟩ := hSt_
  show Go p e below _ (s₁.setTop (mkF m 0 #[vI f1, vI y1] []))
  refine Go.step (fun _ k => XS.iloadN X0.here hx rfl (hb hby d_jdk_65_method_131_code_0) rfl  k) ?_
  refine Go.step (fun _ k => XS.iloadN X0.here hx rfl (hb hby d_jdk_65_method_131_code_1) rfl  k) ?_
  show Go p e below _ (s₁.setTop (mkF m 2 #[vI f1, vI y1] [(.int f1), (.int y1)]))
  refine Go.step (fun _ k => XS.icmpYes X0.here hx rfl (pc0 := 2) (pc' := 37) rfl (hb hby d_jdk_65_method_131_code_2) rfl (flt (hfy : ¬ (y1 < f1))).2.1 (by decide) (by decide) k) ?_
  show Go p e below _ (s₁.setTop (mkF m 37 #[vI f1, vI y1] []))
  exact Go.ret0 X0 hx hlk hret (hb hby d_jdk_65_method_131_code_37) (by decide) (by decide) (by rw [e0]; exact ⟨rfl, N0, rfl⟩)
--@E
--@C mn
def Q_mn (Z : State) (zc : Int32) (vfm : Value) (x1 : Int32) (y1 : Int32) (h0 : Heap) (n0 : Nat) (v : Option Value) (h : Heap) (L : List Loc) : Prop := v = some (.int y1) ∧ Fr n0 L ∧ h = h0
set_option maxRecDepth 65536 in
set_option maxHeartbeats 40000000 in
theorem rm_mn (l : Launch) (Z : State) (a0 : Array Value) (hw : ∀ d ∈ tables_1, d.before a0 Z = true) (zc : Int32) (vfm : Value) (x1 : Int32) (y1 : Int32) (h0 : Heap) (n0 : Nat) (Z0 : n0 ≤ h0.size) (hxy : (¬ x1 < y1)) (hSt : St Z zc vfm) (hO : Old Z n0 h0) :
    CN l Z ({ cls := "java/lang/Math", name := "min", desc := "(II)I" } : Jvm.MethodName) [(Jvm.Cond.code ({ cls := "java/lang/Math", name := "min", desc := "(II)I" } : Jvm.MethodName) jdk_29_method_69_code (2 : Nat) (Option.some Jvm.ClassFile.FieldType.int))] ({ frames := 0, cells := 0, slots := 0, locals := 0 } : Room) #[(.int x1), (.int y1)] h0 (Q_mn Z zc vfm x1 y1 h0 n0) := by
  refine CN.of (L0 := #[vI x1, vI y1]) (Jvm.Free.JP.mathPlain rfl (by decide +kernel)) (fun m => by first | (simp [entryFrame, mkF, argsToLocals, Value.category]; done) | rfl) ?_
  intro p e s m below meth c s₁ hx hby hml hret hlk hZ hown hnm X0 e0
  have N0 := Fr.nil n0
  have KP0 := Keep.refl h0 []
  have hSt_ := hSt
  obtain ⟨S_cs, n_cs, S_fm, r_fm⟩ := hSt_
  show Go p e below _ (s₁.setTop (mkF m 0 #[vI x1, vI y1] []))
  refine Go.step (fun _ k => XS.iloadN X0.here hx rfl (hb hby d_jdk_29_method_69_code_0) rfl  k) ?_
  refine Go.step (fun _ k => XS.iloadN X0.here hx rfl (hb hby d_jdk_29_method_69_code_1) rfl  k) ?_
  show Go p e below _ (s₁.setTop (mkF m 2 #[vI x1, vI y1] [(.int y1), (.int x1)]))
  by_cases u0 : y1 < x1
  · skip
    refine Go.step (fun _ k => XS.icmpYes X0.here hx rfl (pc0 := 2) (pc' := 9) rfl (hb hby d_jdk_29_method_69_code_2) rfl (tlt u0).2.2.1 (by decide) (by decide) k) ?_
    show Go p e below _ (s₁.setTop (mkF m 9 #[vI x1, vI y1] []))
    refine Go.step (fun _ k => XS.iloadN X0.here hx rfl (hb hby d_jdk_29_method_69_code_9) rfl  k) ?_
    show Go p e below _ (s₁.setTop (mkF m 10 #[vI x1, vI y1] [(.int y1)]))
    exact Go.retV X0 hx hlk hret rfl (Or.inl ⟨rfl, Or.inl rfl, _, rfl⟩) (hb hby d_jdk_29_method_69_code_10) (by decide) (by decide) (by rw [e0]; exact ⟨rfl, N0, rfl⟩)
  · skip
    refine Go.step (fun _ k => XS.icmpNo X0.here hx rfl (hb hby d_jdk_29_method_69_code_2) rfl (flt u0).2.2.1 k) ?_
    show Go p e below _ (s₁.setTop (mkF m 5 #[vI x1, vI y1] []))
    refine Go.step (fun _ k => XS.iloadN X0.here hx rfl (hb hby d_jdk_29_method_69_code_5) rfl  k) ?_
    show Go p e below _ (s₁.setTop (mkF m 6 #[vI x1, vI y1] [(.int x1)]))
    refine Go.step (fun _ k => XS.goto X0.here hx rfl (pc0 := 6) (pc' := 10) rfl (hb hby d_jdk_29_method_69_code_6) (by decide) (by decide) k) ?_
    show Go p e below _ (s₁.setTop (mkF m 10 #[vI x1, vI y1] [(.int x1)]))
    exact Go.retV X0 hx hlk hret rfl (Or.inl ⟨rfl, Or.inl rfl, _, rfl⟩) (hb hby d_jdk_29_method_69_code_10) (by decide) (by decide) (by rw [e0]; exact ⟨(congrArg (fun z => some (Value.int z)) (eq_of_nlt hxy u0)), N0, rfl⟩)
--@E
--@C crb
def Q_crb (Z : State) (zc : Int32) (vfm : Value) (t1 : Addr) (k1 : ClassId) (z1 : Int32) (bs : List Int32) (kk : Nat) (nn : Nat) (h0 : Heap) (n0 : Nat) (v : Option Value) (h : Heap) (L : List Loc) : Prop := ∃ (r : Addr) (kr : ClassId), v = some (.ref r) ∧ Fr n0 L ∧ Keep h0 h [] ∧ h0.size ≤ r ∧ Arv Z h r kr .byte (Int32.ofNat nn) (((bs.drop kk).take nn).map Value.int) (.int (0 : Int32))
set_option maxRecDepth 65536 in
set_option maxHeartbeats 40000000 in
theorem rm_crb (l : Launch) (Z : State) (a0 : Array Value) (hw : ∀ d ∈ tables_1, d.before a0 Z = true) (zc : Int32) (vfm : Value) (t1 : Addr) (k1 : ClassId) (z1 : Int32) (bs : List Int32) (kk : Nat) (nn : Nat) (h0 : Heap) (n0 : Nat) (Z0 : n0 ≤ h0.size) (A_t1 : Arv Z h0 t1 k1 .byte z1 (bs.map Value.int) (.int (0 : Int32))) (hz : (z1 = Int32.ofNat bs.length)) (hbs : (bs.length ≤ 100)) (hk : (kk + nn ≤ bs.length ∧ nn ≤ 40)) (hSt : St Z zc vfm) (hO : Old Z n0 h0) :
    CN l Z ({ cls := "java/util/Arrays", name := "copyOfRangeByte", desc := "([BII)[B" } : Jvm.MethodName) [(Jvm.Cond.code ({ cls := "java/util/Arrays", name := "copyOfRangeByte", desc := "([BII)[B" } : Jvm.MethodName) jdk_65_method_133_code (5 : Nat) (Option.some (Jvm.ClassFile.FieldType.array Jvm.ClassFile.FieldType.byte)))] ({ frames := 1, cells := 1, slots := 40, locals := 18 } : Room) #[(.ref t1), (.int (Int32.ofNat kk)), (.int (Int32.ofNat (kk + nn)))] h0 (Q_crb Z zc vfm t1 k1 z1 bs kk nn h0 n0) := by
  refine CN.of (L0 := #[vR t1, vI (Int32.ofNat kk), vI (Int32.ofNat (kk + nn)), vU, vU]) (plainFor_of_name pn_4) (fun m => by first | (simp [entryFrame, mkF, argsToLocals, Value.category]; done) | rfl) ?_
  intro p e s m below meth c s₁ hx hby hml hret hlk hZ hown hnm X0 e0
  have N0 := Fr.nil n0
  have KP0 := Keep.refl h0 []
  have hSt_ := hSt
  obtain ⟨S_cs, n_cs, S_fm, r_fm⟩ := hSt_
  show Go p e below _ (s₁.setTop (mkF m 0 #[vR t1, vI (Int32.ofNat kk), vI (Int32.ofNat (kk + nn)), vU, vU] []))
  refine Go.step (fun _ k => XS.iloadN X0.here hx rfl (hb hby d_jdk_65_method_133_code_0) rfl  k) ?_
  refine Go.step (fun _ k => XS.iloadN X0.here hx rfl (hb hby d_jdk_65_method_133_code_1) rfl  k) ?_
  show Go p e below _ (s₁.setTop (mkF m 2 #[vR t1, vI (Int32.ofNat kk), vI (Int32.ofNat (kk + nn)), vU, vU] [(.int (Int32.ofNat (kk + nn))), (.int (Int32.ofNat kk))]))
  obtain ⟨v_105, T_105, L_105, X_105, hQ_105, st_105⟩ := goS X0 hx hZ (y := Y_13) hown (wd_179 hw) (wd_180 hw) (wd_174 hw) (wd_181 hw) (by decide) (backOf (W := 0) (rm_cl l Z a0 hw zc vfm ((Int32.ofNat kk)) ((Int32.ofNat (kk + nn))) h0 n0 (Nat.le_trans Z0 KP0.1) (fun q => absurd ((ofn_lt (by omega) (by omega)).mp q) (by omega)) hSt hO) hZ (wd_181 hw) (wd_174 hw) (by decide) (by decide)) e0 (g := (mkF m 2 #[vR t1, vI (Int32.ofNat kk), vI (Int32.ofNat (kk + nn)), vU, vU] [(.int (Int32.ofNat (kk + nn))), (.int (Int32.ofNat kk))])) rfl (by rw [hml]; rfl) (argsL := [(.int (Int32.ofNat kk)), (.int (Int32.ofNat (kk + nn)))]) (rest := []) rfl (lenOf pd_11 rfl) rfl (by show 2 * 0 + _ ≤ _; exact Nat.le_of_eq rfl) (hb hby d_jdk_65_method_133_code_2) (by decide) (by decide)
  obtain ⟨rfl, Nq_105, e_105⟩ := hQ_105
  have N_105 := Fr.app N0 Nq_105
  refine Go.step st_105 ?_
  show Go p e below _ (T_105.setTop (mkF m 5 #[vR t1, vI (Int32.ofNat kk), vI (Int32.ofNat (kk + nn)), vU, vU] []))
  refine Go.step (fun _ k => XS.iloadN X_105.here hx rfl (hb hby d_jdk_65_method_133_code_5) rfl  k) ?_
  refine Go.step (fun _ k => XS.iloadN X_105.here hx rfl (hb hby d_jdk_65_method_133_code_6) rfl  k) ?_
  show Go p e below _ (T_105.setTop (mkF m 7 #[vR t1, vI (Int32.ofNat kk), vI (Int32.ofNat (kk + nn)), vU, vU] [(.int (Int32.ofNat kk)), (.int (Int32.ofNat (kk + nn)))]))
  refine Go.step (fun _ k => XS.isub X_105.here hx rfl (hb hby d_jdk_65_method_133_code_7) rfl k) ?_
  show Go p e below _ (T_105.setTop (mkF m 8 #[vR t1, vI (Int32.ofNat kk), vI (Int32.ofNat (kk + nn)), vU, vU] [(.int ((Int32.ofNat (kk + nn)) - (Int32.ofNat kk)))]))
  refine own_top (congrArg Value.int (show ((Int32.ofNat (kk + nn)) - (Int32.ofNat kk)) = (Int32.ofNat nn) from (ofn_sub (by omega) (by omega) (by omega)).trans (congrArg Int32.ofNat (by omega)))) ?_
  show Go p e below _ (T_105.setTop (mkF m 8 #[vR t1, vI (Int32.ofNat kk), vI (Int32.ofNat (kk + nn)), vU, vU] [(.int (Int32.ofNat nn))]))
  refine Go.step (fun _ k => XS.istoreN X_105.here hx rfl (hb hby d_jdk_65_method_133_code_8) rfl (l' := #[vR t1, vI (Int32.ofNat kk), vI (Int32.ofNat (kk + nn)), vI (Int32.ofNat nn), vU]) rfl k) ?_
  show Go p e below _ (T_105.setTop (mkF m 9 #[vR t1, vI (Int32.ofNat kk), vI (Int32.ofNat (kk + nn)), vI (Int32.ofNat nn), vU] []))
  refine Go.step (fun _ k => XS.iloadN X_105.here hx rfl (hb hby d_jdk_65_method_133_code_9) rfl  k) ?_
  show Go p e below _ (T_105.setTop (mkF m 10 #[vR t1, vI (Int32.ofNat kk), vI (Int32.ofNat (kk + nn)), vI (Int32.ofNat nn), vU] [(.int (Int32.ofNat nn))]))
  obtain ⟨T_106, h_106, k_106, X_106, e_106, E_106, A_106, st_106⟩ := newP X_105 hx hZ (aty := .byte) (wd_19 hw) e_105 (g := (mkF m 10 #[vR t1, vI (Int32.ofNat kk), vI (Int32.ofNat (kk + nn)), vI (Int32.ofNat nn), vU] [(.int (Int32.ofNat nn))])) rfl (hb hby d_jdk_65_method_133_code_10) rfl (ofn_pos (by omega)) (cap := 40) (by rw [clampN (by omega)]; omega) (by decide) (by decide) (by decide)
  obtain ⟨b106, q_106⟩ : ∃ z, z = h0.size := ⟨_, rfl⟩
  rw [← q_106] at A_106 st_106
  refine Go.step st_106 ?_
  have le_106 : h0.size ≤ h_106.size := E_106.1
  have KP_106 := KP0.ext E_106
  have O_106 := hO.ext E_106
  have ge_106 : h0.size ≤ b106 := Nat.le_of_eq q_106.symm
  have sz_b106 : h0.size ≤ b106 := Nat.le_trans (Nat.le_refl _) ge_106
  have g_b106 : n0 ≤ b106 := Nat.le_trans Z0 sz_b106
  have V_106 : Arv Z h_106 b106 k_106 .byte (Int32.ofNat nn) [] (.int (0 : Int32)) := Arv.new A_106 (ofn_pos (by omega))
  have V_106 := V_106.pad (vs' := (List.replicate nn (.int (0 : Int32)))) (pad_rep [] _ nn)
  show Go p e below _ (T_106.setTop (mkF m 12 #[vR t1, vI (Int32.ofNat kk), vI (Int32.ofNat (kk + nn)), vI (Int32.ofNat nn), vU] [(.ref b106)]))
  refine Go.step (fun _ k => XS.astore X_106.here hx rfl (hb hby d_jdk_65_method_133_code_12) rfl rfl (l' := #[vR t1, vI (Int32.ofNat kk), vI (Int32.ofNat (kk + nn)), vI (Int32.ofNat nn), vR b106]) rfl k) ?_
  show Go p e below _ (T_106.setTop (mkF m 14 #[vR t1, vI (Int32.ofNat kk), vI (Int32.ofNat (kk + nn)), vI (Int32.ofNat nn), vR b106] []))
  refine Go.step (fun _ k => XS.aloadN X_106.here hx rfl (hb hby d_jdk_65_method_133_code_14) rfl rfl k) ?_
  refine Go.step (fun _ k => XS.iloadN X_106.here hx rfl (hb hby d_jdk_65_method_133_code_15) rfl  k) ?_
  refine Go.step (fun _ k => XS.aload X_106.here hx rfl (hb hby d_jdk_65_method_133_code_16) rfl rfl k) ?_
  refine Go.step (fun _ k => XS.iconst X_106.here hx rfl (hb hby d_jdk_65_method_133_code_18) k) ?_
  refine Go.step (fun _ k => XS.aloadN X_106.here hx rfl (hb hby d_jdk_65_method_133_code_19) rfl rfl k) ?_
  show Go p e below _ (T_106.setTop (mkF m 20 #[vR t1, vI (Int32.ofNat kk), vI (Int32.ofNat (kk + nn)), vI (Int32.ofNat nn), vR b106] [(.ref t1), (.int (0 : Int32)), (.ref b106), (.int (Int32.ofNat kk)), (.ref t1)]))
  have f108 : Arv Z h_106 t1 k1 .byte z1 (bs.map Value.int) (.int (0 : Int32)) := (A_t1.ext E_106)
  have cp109 := f108
  obtain ⟨cl_107, Ar_107, -, Sz_107, Ng_107, -, -⟩ := cp109
  refine Go.step (fun _ k => X_106.arraylength hx (by rw [e_106]; exact Ar_107.1) (State.isArrayOf_alike hZ.alike Ar_107.2.1) (g := (mkF m 20 #[vR t1, vI (Int32.ofNat kk), vI (Int32.ofNat (kk + nn)), vI (Int32.ofNat nn), vR b106] [(.ref t1), (.int (0 : Int32)), (.ref b106), (.int (Int32.ofNat kk)), (.ref t1)])) rfl rfl (hb hby d_jdk_65_method_133_code_20) _ k) ?_
  rw [len_of Sz_107 Ng_107]
  show Go p e below _ (T_106.setTop (mkF m 21 #[vR t1, vI (Int32.ofNat kk), vI (Int32.ofNat (kk + nn)), vI (Int32.ofNat nn), vR b106] [(.int z1), (.int (0 : Int32)), (.ref b106), (.int (Int32.ofNat kk)), (.ref t1)]))
  refine Go.step (fun _ k => XS.iloadN X_106.here hx rfl (hb hby d_jdk_65_method_133_code_21) rfl  k) ?_
  show Go p e below _ (T_106.setTop (mkF m 22 #[vR t1, vI (Int32.ofNat kk), vI (Int32.ofNat (kk + nn)), vI (Int32.ofNat nn), vR b106] [(.int (Int32.ofNat kk)), (.int z1), (.int (0 : Int32)), (.ref b106), (.int (Int32.ofNat kk)), (.ref t1)]))
  refine Go.step (fun _ k => XS.isub X_106.here hx rfl (hb hby d_jdk_65_method_133_code_22) rfl k) ?_
  show Go p e below _ (T_106.setTop (mkF m 23 #[vR t1, vI (Int32.ofNat kk), vI (Int32.ofNat (kk + nn)), vI (Int32.ofNat nn), vR b106] [(.int (z1 - (Int32.ofNat kk))), (.int (0 : Int32)), (.ref b106), (.int (Int32.ofNat kk)), (.ref t1)]))
  refine own_top (congrArg Value.int (show (z1 - (Int32.ofNat kk)) = (Int32.ofNat (bs.length - kk)) from by rw [hz]; exact ofn_sub (by omega) (by omega) (by omega))) ?_
  show Go p e below _ (T_106.setTop (mkF m 23 #[vR t1, vI (Int32.ofNat kk), vI (Int32.ofNat (kk + nn)), vI (Int32.ofNat nn), vR b106] [(.int (Int32.ofNat (bs.length - kk))), (.int (0 : Int32)), (.ref b106), (.int (Int32.ofNat kk)), (.ref t1)]))
  refine Go.step (fun _ k => XS.iloadN X_106.here hx rfl (hb hby d_jdk_65_method_133_code_23) rfl  k) ?_
  show Go p e below _ (T_106.setTop (mkF m 24 #[vR t1, vI (Int32.ofNat kk), vI (Int32.ofNat (kk + nn)), vI (Int32.ofNat nn), vR b106] [(.int (Int32.ofNat nn)), (.int (Int32.ofNat (bs.length - kk))), (.int (0 : Int32)), (.ref b106), (.int (Int32.ofNat kk)), (.ref t1)]))
  obtain ⟨v_110, T_110, L_110, X_110, hQ_110, st_110⟩ := goS X_106 hx hZ (y := Y_6) hown (wd_182 hw) (wd_183 hw) (wd_184 hw) (wd_185 hw) (by decide) (backOf (W := 4) (rm_mn l Z a0 hw zc vfm ((Int32.ofNat (bs.length - kk))) ((Int32.ofNat nn)) h_106 n0 (Nat.le_trans Z0 KP_106.1) (fun q => absurd ((ofn_lt (by omega) (by omega)).mp q) (by omega)) hSt O_106) hZ (wd_185 hw) (wd_184 hw) (by decide) (by decide)) e_106 (g := (mkF m 24 #[vR t1, vI (Int32.ofNat kk), vI (Int32.ofNat (kk + nn)), vI (Int32.ofNat nn), vR b106] [(.int (Int32.ofNat nn)), (.int (Int32.ofNat (bs.length - kk))), (.int (0 : Int32)), (.ref b106), (.int (Int32.ofNat kk)), (.ref t1)])) rfl (by rw [hml]; rfl) (argsL := [(.int (Int32.ofNat (bs.length - kk))), (.int (Int32.ofNat nn))]) (rest := [(.int (0 : Int32)), (.ref b106), (.int (Int32.ofNat kk)), (.ref t1)]) rfl (lenOf pd_4 rfl) rfl (by show 2 * 0 + _ ≤ _; exact Nat.le_of_eq rfl) (hb hby d_jdk_65_method_133_code_24) (by decide) (by decide)
  obtain ⟨rfl, Nq_110, e_110⟩ := hQ_110
  have N_110 := Fr.app N_105 Nq_110
  refine Go.step st_110 ?_
  show Go p e below _ (T_110.setTop (mkF m 27 #[vR t1, vI (Int32.ofNat kk), vI (Int32.ofNat (kk + nn)), vI (Int32.ofNat nn), vR b106] [(.int (Int32.ofNat nn)), (.int (0 : Int32)), (.ref b106), (.int (Int32.ofNat kk)), (.ref t1)]))
  obtain ⟨T_111, h_111, L_111, X_111, e_111, N_111, K_111, V_111, st_111⟩ := cpA X_110 hx hZ hown (wd_186 hw) (wd_108 hw) (wd_106 hw) (wd_107 hw) e_110 f108 V_106 (sp := (Int32.ofNat kk)) (dp := (0 : Int32)) (nn := (Int32.ofNat nn)) (Or.inl ⟨rfl, rfl⟩) (ofn_pos (by omega)) (by decide) (ofn_pos (by omega)) (by rw [hz, clampN (k := kk) (by omega), clampN (k := nn) (by omega), clampN (k := bs.length) (by omega)]; omega) (by rw [clampN (k := nn) (by omega)]; exact Nat.le_of_eq (Nat.zero_add _)) rfl (by rw [clampN (k := nn) (by omega), List.length_replicate]; exact Nat.le_of_eq (Nat.zero_add _)) N_110 g_b106 (g := (mkF m 27 #[vR t1, vI (Int32.ofNat kk), vI (Int32.ofNat (kk + nn)), vI (Int32.ofNat nn), vR b106] [(.int (Int32.ofNat nn)), (.int (0 : Int32)), (.ref b106), (.int (Int32.ofNat kk)), (.ref t1)])) rfl (by rw [hml]; rfl) (rest := []) rfl (hb hby d_jdk_65_method_133_code_27) (by decide) (W := 0) (by show 2 * 0 + _ ≤ _; exact Nat.le_of_eq rfl) (by decide)
  refine Go.step st_111 ?_
  have le_111 : h_106.size ≤ h_111.size := K_111.1
  have KP_111 := KP_106.trans K_111 (allS (Or.inr sz_b106) all0)
  have O_111 := O_106.keep K_111 (allS g_b106 all0)
  have A_111 : Arv Z h_111 b106 k_106 .byte (Int32.ofNat nn) (((bs.drop kk).take nn).map Value.int) (.int (0 : Int32)) := by
    have q := V_111
    rw [cp_rng (clampN (by omega)) (by decide) (clampN (by omega)) hk.1 List.length_replicate] at q
    exact q
  show Go p e below _ (T_111.setTop (mkF m 30 #[vR t1, vI (Int32.ofNat kk), vI (Int32.ofNat (kk + nn)), vI (Int32.ofNat nn), vR b106] []))
  refine Go.step (fun _ k => XS.aload X_111.here hx rfl (hb hby d_jdk_65_method_133_code_30) rfl rfl k) ?_
  show Go p e below _ (T_111.setTop (mkF m 32 #[vR t1, vI (Int32.ofNat kk), vI (Int32.ofNat (kk + nn)), vI (Int32.ofNat nn), vR b106] [(.ref b106)]))
  exact Go.retV X_111 hx hlk hret rfl (Or.inr (Or.inr (Or.inr (Or.inr ⟨rfl, rfl, rfl⟩)))) (hb hby d_jdk_65_method_133_code_32) (by decide) (by decide) (by rw [e_111]; exact ⟨b106, k_106, rfl, N_111, KP_111, sz_b106, A_111⟩)
--@E
--@C crN
def Q_crN (Z : State) (zc : Int32) (vfm : Value) (t1 : Addr) (k1 : ClassId) (z1 : Int32) (bs : List Int32) (kk : Nat) (nn : Nat) (h0 : Heap) (n0 : Nat) (v : Option Value) (h : Heap) (L : List Loc) : Prop := ∃ (r : Addr) (kr : ClassId), v = some (.ref r) ∧ Fr n0 L ∧ Keep h0 h [] ∧ h0.size ≤ r ∧ Arv Z h r kr .byte (Int32.ofNat nn) (((bs.drop kk).take nn).map Value.int) (.int (0 : Int32))
set_option maxRecDepth 65536 in
set_option maxHeartbeats 40000000 in
theorem rm_crN (l : Launch) (Z : State) (a0 : Array Value) (hw : ∀ d ∈ tables_1, d.before a0 Z = true) (zc : Int32) (vfm : Value) (t1 : Addr) (k1 : ClassId) (z1 : Int32) (bs : List Int32) (kk : Nat) (nn : Nat) (h0 : Heap) (n0 : Nat) (Z0 : n0 ≤ h0.size) (A_t1 : Arv Z h0 t1 k1 .byte z1 (bs.map Value.int) (.int (0 : Int32))) (hz : (z1 = Int32.ofNat bs.length)) (hbs : (bs.length ≤ 100)) (hk : (kk + nn ≤ bs.length ∧ nn ≤ 40)) (hnc : (kk = 0 → ¬ nn = bs.length)) (hSt : St Z zc vfm) (hO : Old Z n0 h0) :
    CN l Z ({ cls := "java/util/Arrays", name := "copyOfRange", desc := "([BII)[B" } : Jvm.MethodName) [(Jvm.Cond.code ({ cls := "java/util/Arrays", name := "copyOfRange", desc := "([BII)[B" } : Jvm.MethodName) jdk_65_method_132_code (3 : Nat) (Option.some (Jvm.ClassFile.FieldType.array Jvm.ClassFile.FieldType.byte)))] ({ frames := 2, cells := 1, slots := 40, locals := 34 } : Room) #[(.ref t1), (.int (Int32.ofNat kk)), (.int (Int32.ofNat (kk + nn)))] h0 (Q_crN Z zc vfm t1 k1 z1 bs kk nn h0 n0) := by
  refine CN.of (L0 := #[vR t1, vI (Int32.ofNat kk), vI (Int32.ofNat (kk + nn))]) (plainFor_of_name pn_4) (fun m => by first | (simp [entryFrame, mkF, argsToLocals, Value.category]; done) | rfl) ?_
  intro p e s m below meth c s₁ hx hby hml hret hlk hZ hown hnm X0 e0
  have N0 := Fr.nil n0
  have KP0 := Keep.refl h0 []
  have hSt_ := hSt
  obtain ⟨S_cs, n_cs, S_fm, r_fm⟩ := hSt_
  show Go p e below _ (s₁.setTop (mkF m 0 #[vR t1, vI (Int32.ofNat kk), vI (Int32.ofNat (kk + nn))] []))
  refine Go.step (fun _ k => XS.iloadN X0.here hx rfl (hb hby d_jdk_65_method_132_code_0) rfl  k) ?_
  show Go p e below _ (s₁.setTop (mkF m 1 #[vR t1, vI (Int32.ofNat kk), vI (Int32.ofNat (kk + nn))] [(.int (Int32.ofNat kk))]))
  by_cases u0 : (Int32.ofNat kk) = (0 : Int32)
  · skip
    refine Go.step (fun _ k => XS.ifNo X0.here hx rfl (hb hby d_jdk_65_method_132_code_1) rfl ((if0 _ _).trans (teq u0).2) k) ?_
    show Go p e below _ (s₁.setTop (mkF m 4 #[vR t1, vI (Int32.ofNat kk), vI (Int32.ofNat (kk + nn))] []))
    refine Go.step (fun _ k => XS.iloadN X0.here hx rfl (hb hby d_jdk_65_method_132_code_4) rfl  k) ?_
    refine Go.step (fun _ k => XS.aloadN X0.here hx rfl (hb hby d_jdk_65_method_132_code_5) rfl rfl k) ?_
    show Go p e below _ (s₁.setTop (mkF m 6 #[vR t1, vI (Int32.ofNat kk), vI (Int32.ofNat (kk + nn))] [(.ref t1), (.int (Int32.ofNat (kk + nn)))]))
    have cp113 := A_t1
    obtain ⟨cl_112, Ar_112, -, Sz_112, Ng_112, -, -⟩ := cp113
    refine Go.step (fun _ k => X0.arraylength hx (by rw [e0]; exact Ar_112.1) (State.isArrayOf_alike hZ.alike Ar_112.2.1) (g := (mkF m 6 #[vR t1, vI (Int32.ofNat kk), vI (Int32.ofNat (kk + nn))] [(.ref t1), (.int (Int32.ofNat (kk + nn)))])) rfl rfl (hb hby d_jdk_65_method_132_code_6) _ k) ?_
    rw [len_of Sz_112 Ng_112]
    show Go p e below _ (s₁.setTop (mkF m 7 #[vR t1, vI (Int32.ofNat kk), vI (Int32.ofNat (kk + nn))] [(.int z1), (.int (Int32.ofNat (kk + nn)))]))
    refine Go.step (fun _ k => XS.icmpNo X0.here hx rfl (hb hby d_jdk_65_method_132_code_7) rfl (feq ((fun q => hnc (ofn_inj (k := 0) (by omega) (by omega) u0) (by have := ofn_inj (by omega) (by omega) (q.trans hz); have := ofn_inj (k := 0) (by omega) (by omega) u0; omega)) : ¬ ((Int32.ofNat (kk + nn)) = z1))).1 k) ?_
    show Go p e below _ (s₁.setTop (mkF m 10 #[vR t1, vI (Int32.ofNat kk), vI (Int32.ofNat (kk + nn))] []))
    refine Go.step (fun _ k => XS.aloadN X0.here hx rfl (hb hby d_jdk_65_method_132_code_10) rfl rfl k) ?_
    refine Go.step (fun _ k => XS.iloadN X0.here hx rfl (hb hby d_jdk_65_method_132_code_11) rfl  k) ?_
    refine Go.step (fun _ k => XS.iloadN X0.here hx rfl (hb hby d_jdk_65_method_132_code_12) rfl  k) ?_
    show Go p e below _ (s₁.setTop (mkF m 13 #[vR t1, vI (Int32.ofNat kk), vI (Int32.ofNat (kk + nn))] [(.int (Int32.ofNat (kk + nn))), (.int (Int32.ofNat kk)), (.ref t1)]))
    obtain ⟨v_114, T_114, L_114, X_114, hQ_114, st_114⟩ := goS X0 hx hZ (y := Y_14) hown (wd_176 hw) (wd_177 hw) (wd_174 hw) (wd_178 hw) (by decide) (backOf (W := 0) (rm_crb l Z a0 hw zc vfm (t1) (k1) (z1) (bs) (kk) (nn) h0 n0 (Nat.le_trans Z0 KP0.1) A_t1 hz hbs hk hSt hO) hZ (wd_178 hw) (wd_174 hw) (by decide) (by decide)) e0 (g := (mkF m 13 #[vR t1, vI (Int32.ofNat kk), vI (Int32.ofNat (kk + nn))] [(.int (Int32.ofNat (kk + nn))), (.int (Int32.ofNat kk)), (.ref t1)])) rfl (by rw [hml]; rfl) (argsL := [(.ref t1), (.int (Int32.ofNat kk)), (.int (Int32.ofNat (kk + nn)))]) (rest := []) rfl (lenOf pd_12 rfl) rfl (by show 2 * 0 + _ ≤ _; exact Nat.le_of_eq rfl) (hb hby d_jdk_65_method_132_code_13) (by decide) (by decide)
    obtain ⟨r_114, kr_114, rfl, Nq_114, K_114, u0_114, u1_114⟩ := hQ_114
    have N_114 := Fr.app N0 Nq_114
    have le_114 : h0.size ≤ T_114.heap.size := K_114.1
    have KP_114 := KP0.trans K_114 all0
    have O_114 := hO.keep K_114 all0
    have sz_r_114 : h0.size ≤ r_114 := Nat.le_trans (Nat.le_refl _) u0_114
    have g_r_114 : n0 ≤ r_114 := Nat.le_trans Z0 sz_r_114
    refine Go.step st_114 ?_
    show Go p e below _ (T_114.setTop (mkF m 16 #[vR t1, vI (Int32.ofNat kk), vI (Int32.ofNat (kk + nn))] [(.ref r_114)]))
    exact Go.retV X_114 hx hlk hret rfl (Or.inr (Or.inr (Or.inr (Or.inr ⟨rfl, rfl, rfl⟩)))) (hb hby d_jdk_65_method_132_code_16) (by decide) (by decide) (by exact ⟨r_114, kr_114, rfl, N_114, KP_114, sz_r_114, u1_114⟩)
  · skip
    refine Go.step (fun _ k => XS.ifYes X0.here hx rfl (pc0 := 1) (pc' := 10) rfl (hb hby d_jdk_65_method_132_code_1) rfl ((if0 _ _).trans (feq u0).2) (by decide) (by decide) k) ?_
    show Go p e below _ (s₁.setTop (mkF m 10 #[vR t1, vI (Int32.ofNat kk), vI (Int32.ofNat (kk + nn))] []))
    refine Go.step (fun _ k => XS.aloadN X0.here hx rfl (hb hby d_jdk_65_method_132_code_10) rfl rfl k) ?_
    refine Go.step (fun _ k => XS.iloadN X0.here hx rfl (hb hby d_jdk_65_method_132_code_11) rfl  k) ?_
    refine Go.step (fun _ k => XS.iloadN X0.here hx rfl (hb hby d_jdk_65_method_132_code_12) rfl  k) ?_
    show Go p e below _ (s₁.setTop (mkF m 13 #[vR t1, vI (Int32.ofNat kk), vI (Int32.ofNat (kk + nn))] [(.int (Int32.ofNat (kk + nn))), (.int (Int32.ofNat kk)), (.ref t1)]))
    obtain ⟨v_115, T_115, L_115, X_115, hQ_115, st_115⟩ := goS X0 hx hZ (y := Y_14) hown (wd_176 hw) (wd_177 hw) (wd_174 hw) (wd_178 hw) (by decide) (backOf (W := 0) (rm_crb l Z a0 hw zc vfm (t1) (k1) (z1) (bs) (kk) (nn) h0 n0 (Nat.le_trans Z0 KP0.1) A_t1 hz hbs hk hSt hO) hZ (wd_178 hw) (wd_174 hw) (by decide) (by decide)) e0 (g := (mkF m 13 #[vR t1, vI (Int32.ofNat kk), vI (Int32.ofNat (kk + nn))] [(.int (Int32.ofNat (kk + nn))), (.int (Int32.ofNat kk)), (.ref t1)])) rfl (by rw [hml]; rfl) (argsL := [(.ref t1), (.int (Int32.ofNat kk)), (.int (Int32.ofNat (kk + nn)))]) (rest := []) rfl (lenOf pd_12 rfl) rfl (by show 2 * 0 + _ ≤ _; exact Nat.le_of_eq rfl) (hb hby d_jdk_65_method_132_code_13) (by decide) (by decide)
    obtain ⟨r_115, kr_115, rfl, Nq_115, K_115, u0_115, u1_115⟩ := hQ_115
    have N_115 := Fr.app N0 Nq_115
    have le_115 : h0.size ≤ T_115.heap.size := K_115.1
    have KP_115 := KP0.trans K_115 all0
    have O_115 := hO.keep K_115 all0
    have sz_r_115 : h0.size ≤ r_115 := Nat.le_trans (Nat.le_refl _) u0_115
    have g_r_115 : n0 ≤ r_115 := Nat.le_trans Z0 sz_r_115
    refine Go.step st_115 ?_
    show Go p e below _ (T_115.setTop (mkF m 16 #[vR t1, vI (Int32.ofNat kk), vI (Int32.ofNat (kk + nn))] [(.ref r_115)]))
    exact Go.retV X_115 hx hlk hret rfl (Or.inr (Or.inr (Or.inr (Or.inr ⟨rfl, rfl, rfl⟩)))) (hb hby d_jdk_65_method_132_code_16) (by decide) (by decide) (by exact ⟨r_115, kr_115, rfl, N_115, KP_115, sz_r_115, u1_115⟩)
--@E
--@C crC
def Q_crC (Z : State) (zc : Int32) (vfm : Value) (t1 : Addr) (k1 : ClassId) (bs : List Int32) (h0 : Heap) (n0 : Nat) (v : Option Value) (h : Heap) (L : List Loc) : Prop := ∃ (r : Addr), v = some (.ref r) ∧ Fr n0 L ∧ Keep h0 h [] ∧ h0.size ≤ r ∧ Arv Z h r k1 .byte (16 : Int32) (bs.map Value.int) (.int (0 : Int32))
set_option maxRecDepth 65536 in
set_option maxHeartbeats 40000000 in
theorem rm_crC (l : Launch) (Z : State) (a0 : Array Value) (hw : ∀ d ∈ tables_1, d.before a0 Z = true) (zc : Int32) (vfm : Value) (t1 : Addr) (k1 : ClassId) (bs : List Int32) (h0 : Heap) (n0 : Nat) (Z0 : n0 ≤ h0.size) (E_t1 : Exa Z h0 t1 "[B") (A_t1 : Arv Z h0 t1 k1 .byte (16 : Int32) (bs.map Value.int) (.int (0 : Int32))) (hSt : St Z zc vfm) (hO : Old Z n0 h0) :
    CN l Z ({ cls := "java/util/Arrays", name := "copyOfRange", desc := "([BII)[B" } : Jvm.MethodName) [(Jvm.Cond.code ({ cls := "java/util/Arrays", name := "copyOfRange", desc := "([BII)[B" } : Jvm.MethodName) jdk_65_method_132_code (3 : Nat) (Option.some (Jvm.ClassFile.FieldType.array Jvm.ClassFile.FieldType.byte)))] ({ frames := 1, cells := 1, slots := 16, locals := 14 } : Room) #[(.ref t1), (.int (0 : Int32)), (.int (16 : Int32))] h0 (Q_crC Z zc vfm t1 k1 bs h0 n0) := by
  refine CN.of (L0 := #[vR t1, vI 0, vI 16]) (plainFor_of_name pn_4) (fun m => by first | (simp [entryFrame, mkF, argsToLocals, Value.category]; done) | rfl) ?_
  intro p e s m below meth c s₁ hx hby hml hret hlk hZ hown hnm X0 e0
  have N0 := Fr.nil n0
  have KP0 := Keep.refl h0 []
  have hSt_ := hSt
  obtain ⟨S_cs, n_cs, S_fm, r_fm⟩ := hSt_
  show Go p e below _ (s₁.setTop (mkF m 0 #[vR t1, vI 0, vI 16] []))
  refine Go.step (fun _ k => XS.iloadN X0.here hx rfl (hb hby d_jdk_65_method_132_code_0) rfl  k) ?_
  show Go p e below _ (s₁.setTop (mkF m 1 #[vR t1, vI 0, vI 16] [(.int (0 : Int32))]))
  refine Go.step (fun _ k => XS.ifNo X0.here hx rfl (hb hby d_jdk_65_method_132_code_1) rfl ((if0 _ _).trans (teq ((by decide) : (0 : Int32) = (0 : Int32))).2) k) ?_
  show Go p e below _ (s₁.setTop (mkF m 4 #[vR t1, vI 0, vI 16] []))
  refine Go.step (fun _ k => XS.iloadN X0.here hx rfl (hb hby d_jdk_65_method_132_code_4) rfl  k) ?_
  refine Go.step (fun _ k => XS.aloadN X0.here hx rfl (hb hby d_jdk_65_method_132_code_5) rfl rfl k) ?_
  show Go p e below _ (s₁.setTop (mkF m 6 #[vR t1, vI 0, vI 16] [(.ref t1), (.int (16 : Int32))]))
  have cp117 := A_t1
  obtain ⟨cl_116, Ar_116, -, Sz_116, Ng_116, -, -⟩ := cp117
  refine Go.step (fun _ k => X0.arraylength hx (by rw [e0]; exact Ar_116.1) (State.isArrayOf_alike hZ.alike Ar_116.2.1) (g := (mkF m 6 #[vR t1, vI 0, vI 16] [(.ref t1), (.int (16 : Int32))])) rfl rfl (hb hby d_jdk_65_method_132_code_6) _ k) ?_
  rw [len_of Sz_116 Ng_116]
  show Go p e below _ (s₁.setTop (mkF m 7 #[vR t1, vI 0, vI 16] [(.int (16 : Int32)), (.int (16 : Int32))]))
  refine Go.step (fun _ k => XS.icmpYes X0.here hx rfl (pc0 := 7) (pc' := 17) rfl (hb hby d_jdk_65_method_132_code_7) rfl (teq ((by decide) : (16 : Int32) = (16 : Int32))).1 (by decide) (by decide) k) ?_
  show Go p e below _ (s₁.setTop (mkF m 17 #[vR t1, vI 0, vI 16] []))
  refine Go.step (fun _ k => XS.aloadN X0.here hx rfl (hb hby d_jdk_65_method_132_code_17) rfl rfl k) ?_
  show Go p e below _ (s₁.setTop (mkF m 18 #[vR t1, vI 0, vI 16] [(.ref t1)]))
  obtain ⟨T_118, h_118, X_118, e_118, E_118, A_118, B_118, st_118⟩ := cloneH X0 hx hZ hown (wd_207 hw) (wd_208 hw) (wd_212 hw) (wd_210 hw) (wd_211 hw) (wd_213 hw) e0 (Arv.arh A_t1) E_t1 (g := (mkF m 18 #[vR t1, vI 0, vI 16] [(.ref t1)])) rfl (by rw [hml]; rfl) rfl (hb hby d_jdk_65_method_132_code_18) (by decide) (W := 0) (cap := 16) (by show 2 * 0 + _ ≤ _; exact Nat.le_of_eq rfl) (by decide) (by decide) (by decide) (by decide)
  obtain ⟨b118, q_118⟩ : ∃ z, z = h0.size := ⟨_, rfl⟩
  rw [← q_118] at A_118 B_118 st_118
  refine Go.step st_118 ?_
  have le_118 : h0.size ≤ h_118.size := E_118.1
  have KP_118 := KP0.ext E_118
  have O_118 := hO.ext E_118
  have ge_118 : h0.size ≤ b118 := Nat.le_of_eq q_118.symm
  have sz_b118 : h0.size ≤ b118 := Nat.le_trans (Nat.le_refl _) ge_118
  have g_b118 : n0 ≤ b118 := Nat.le_trans Z0 sz_b118
  have V_118 : Arv Z h_118 b118 k1 .byte (16 : Int32) (bs.map Value.int) (.int (0 : Int32)) := A_118
  show Go p e below _ (T_118.setTop (mkF m 21 #[vR t1, vI 0, vI 16] [(.ref b118)]))
  obtain ⟨T_119, X_119, e_119, st_119⟩ := castY X_118 hx hZ hown (wd_214 hw) e_118 (Ins.self B_118) (g := (mkF m 21 #[vR t1, vI 0, vI 16] [(.ref b118)])) rfl rfl (hb hby d_jdk_65_method_132_code_21)
  refine Go.step st_119 ?_
  show Go p e below _ (T_119.setTop (mkF m 24 #[vR t1, vI 0, vI 16] [(.ref b118)]))
  exact Go.retV X_119 hx hlk hret rfl (Or.inr (Or.inr (Or.inr (Or.inr ⟨rfl, rfl, rfl⟩)))) (hb hby d_jdk_65_method_132_code_24) (by decide) (by decide) (by rw [e_119]; exact ⟨b118, rfl, N0, KP_118, sz_b118, V_118⟩)
--@E
--@C gv
def Q_gv (Z : State) (zc : Int32) (vfm : Value) (a1 : Addr) (t1 : Addr) (h0 : Heap) (n0 : Nat) (v : Option Value) (h : Heap) (L : List Loc) : Prop := v = some (.ref t1) ∧ Fr n0 L ∧ h = h0
set_option maxRecDepth 65536 in
set_option maxHeartbeats 40000000 in
theorem rm_gv (l : Launch) (Z : State) (a0 : Array Value) (hw : ∀ d ∈ tables_1, d.before a0 Z = true) (zc : Int32) (vfm : Value) (a1 : Addr) (t1 : Addr) (h0 : Heap) (n0 : Nat) (Z0 : n0 ≤ h0.size) (F_v : Fld Z h0 a1 "java/lang/AbstractStringBuilder" "value" "[B" (.ref t1)) (hSt : St Z zc vfm) (hO : Old Z n0 h0) :
    CN l Z ({ cls := "java/lang/AbstractStringBuilder", name := "getValue", desc := "()[B" } : Jvm.MethodName) [(Jvm.Cond.code ({ cls := "java/lang/AbstractStringBuilder", name := "getValue", desc := "()[B" } : Jvm.MethodName) jdk_68_method_64_code (1 : Nat) (Option.some (Jvm.ClassFile.FieldType.array Jvm.ClassFile.FieldType.byte)))] ({ frames := 0, cells := 0, slots := 0, locals := 0 } : Room) #[(.ref a1)] h0 (Q_gv Z zc vfm a1 t1 h0 n0) := by
  refine CN.of (L0 := #[vR a1]) (plainFor_of_name pn_0) (fun m => by first | (simp [entryFrame, mkF, argsToLocals, Value.category]; done) | rfl) ?_
  intro p e s m below meth c s₁ hx hby hml hret hlk hZ hown hnm X0 e0
  have N0 := Fr.nil n0
  have KP0 := Keep.refl h0 []
  have hSt_ := hSt
  obtain ⟨S_cs, n_cs, S_fm, r_fm⟩ := hSt_
  show Go p e below _ (s₁.setTop (mkF m 0 #[vR a1] []))
  refine Go.step (fun _ k => XS.aloadN X0.here hx rfl (hb hby d_jdk_68_method_64_code_0) rfl rfl k) ?_
  show Go p e below _ (s₁.setTop (mkF m 1 #[vR a1] [(.ref a1)]))
  obtain ⟨T_120, X_120, e_120, st_120⟩ := getF X0 hx hZ hown (host := "") (Or.inl (wd_58 hw)) Via.refl e0 F_v (g := (mkF m 1 #[vR a1] [(.ref a1)])) rfl rfl (hb hby d_jdk_68_method_64_code_1)
  refine Go.step st_120 ?_
  show Go p e below _ (T_120.setTop (mkF m 4 #[vR a1] [(.ref t1)]))
  exact Go.retV X_120 hx hlk hret rfl (Or.inr (Or.inr (Or.inr (Or.inr ⟨rfl, rfl, rfl⟩)))) (hb hby d_jdk_68_method_64_code_4) (by decide) (by decide) (by rw [e_120]; exact ⟨rfl, N0, rfl⟩)
--@E
--@C aln
def Q_aln (Z : State) (zc : Int32) (vfm : Value) (a1 : Addr) (n1 : Int32) (h0 : Heap) (n0 : Nat) (v : Option Value) (h : Heap) (L : List Loc) : Prop := v = some (.int n1) ∧ Fr n0 L ∧ h = h0
set_option maxRecDepth 65536 in
set_option maxHeartbeats 40000000 in
theorem rm_aln (l : Launch) (Z : State) (a0 : Array Value) (hw : ∀ d ∈ tables_1, d.before a0 Z = true) (zc : Int32) (vfm : Value) (a1 : Addr) (n1 : Int32) (h0 : Heap) (n0 : Nat) (Z0 : n0 ≤ h0.size) (F_n : Fld Z h0 a1 "java/lang/AbstractStringBuilder" "count" "I" (.int n1)) (hSt : St Z zc vfm) (hO : Old Z n0 h0) :
    CN l Z ({ cls := "java/lang/AbstractStringBuilder", name := "length", desc := "()I" } : Jvm.MethodName) [(Jvm.Cond.code ({ cls := "java/lang/AbstractStringBuilder", name := "length", desc := "()I" } : Jvm.MethodName) jdk_68_method_6_code (1 : Nat) (Option.some Jvm.ClassFile.FieldType.int))] ({ frames := 0, cells := 0, slots := 0, locals := 0 } : Room) #[(.ref a1)] h0 (Q_aln Z zc vfm a1 n1 h0 n0) := by
  refine CN.of (L0 := #[vR a1]) (plainFor_of_name pn_0) (fun m => by first | (simp [entryFrame, mkF, argsToLocals, Value.category]; done) | rfl) ?_
  intro p e s m below meth c s₁ hx hby hml hret hlk hZ hown hnm X0 e0
  have N0 := Fr.nil n0
  have KP0 := Keep.refl h0 []
  have hSt_ := hSt
  obtain ⟨S_cs, n_cs, S_fm, r_fm⟩ := hSt_
  show Go p e below _ (s₁.setTop (mkF m 0 #[vR a1] []))
  refine Go.step (fun _ k => XS.aloadN X0.here hx rfl (hb hby d_jdk_68_method_6_code_0) rfl rfl k) ?_
  show Go p e below _ (s₁.setTop (mkF m 1 #[vR a1] [(.ref a1)]))
  obtain ⟨T_121, X_121, e_121, st_121⟩ := getF X0 hx hZ hown (host := "") (Or.inl (wd_82 hw)) Via.refl e0 F_n (g := (mkF m 1 #[vR a1] [(.ref a1)])) rfl rfl (hb hby d_jdk_68_method_6_code_1)
  refine Go.step st_121 ?_
  show Go p e below _ (T_121.setTop (mkF m 4 #[vR a1] [(.int n1)]))
  exact Go.retV X_121 hx hlk hret rfl (Or.inl ⟨rfl, Or.inl rfl, _, rfl⟩) (hb hby d_jdk_68_method_6_code_4) (by decide) (by decide) (by rw [e_121]; exact ⟨rfl, N0, rfl⟩)
--@E
--@C sln
def Q_sln (Z : State) (zc : Int32) (vfm : Value) (a1 : Addr) (n1 : Int32) (h0 : Heap) (n0 : Nat) (v : Option Value) (h : Heap) (L : List Loc) : Prop := v = some (.int n1) ∧ Fr n0 L ∧ h = h0
set_option maxRecDepth 65536 in
set_option maxHeartbeats 40000000 in
theorem rm_sln (l : Launch) (Z : State) (a0 : Array Value) (hw : ∀ d ∈ tables_1, d.before a0 Z = true) (zc : Int32) (vfm : Value) (a1 : Addr) (n1 : Int32) (h0 : Heap) (n0 : Nat) (Z0 : n0 ≤ h0.size) (E_a1 : Exa Z h0 a1 "java/lang/StringBuilder") (F_n : Fld Z h0 a1 "java/lang/AbstractStringBuilder" "count" "I" (.int n1)) (hSt : St Z zc vfm) (hO : Old Z n0 h0) :
    CN l Z ({ cls := "java/lang/StringBuilder", name := "length", desc := "()I" } : Jvm.MethodName) [(Jvm.Cond.code ({ cls := "java/lang/StringBuilder", name := "length", desc := "()I" } : Jvm.MethodName) jdk_67_method_93_code (1 : Nat) (Option.some Jvm.ClassFile.FieldType.int))] ({ frames := 1, cells := 0, slots := 0, locals := 12 } : Room) #[(.ref a1)] h0 (Q_sln Z zc vfm a1 n1 h0 n0) := by
  refine CN.of (L0 := #[vR a1]) (plainFor_of_name pn_1) (fun m => by first | (simp [entryFrame, mkF, argsToLocals, Value.category]; done) | rfl) ?_
  intro p e s m below meth c s₁ hx hby hml hret hlk hZ hown hnm X0 e0
  have N0 := Fr.nil n0
  have KP0 := Keep.refl h0 []
  have hSt_ := hSt
  obtain ⟨S_cs, n_cs, S_fm, r_fm⟩ := hSt_
  show Go p e below _ (s₁.setTop (mkF m 0 #[vR a1] []))
  refine Go.step (fun _ k => XS.aloadN X0.here hx rfl (hb hby d_jdk_67_method_93_code_0) rfl rfl k) ?_
  show Go p e below _ (s₁.setTop (mkF m 1 #[vR a1] [(.ref a1)]))
  obtain ⟨v_122, T_122, L_122, X_122, hQ_122, st_122⟩ := goSup X0 hx hZ (y := Y_15) hown (wd_165 hw) (same_own (wd_161 hw) (wd_87 hw) rfl (by decide)) (wd_161 hw) (wd_69 hw) (by decide) (backOf (W := 0) (rm_aln l Z a0 hw zc vfm (a1) (n1) h0 n0 (Nat.le_trans Z0 KP0.1) F_n hSt hO) hZ (wd_166 hw) (wd_54 hw) (by decide) (by decide)) e0 (Ins.self E_a1) (wd_166 hw) (g := (mkF m 1 #[vR a1] [(.ref a1)])) rfl (by rw [hml]; rfl) (argsL := []) (rest := []) rfl (lenOf pd_8 rfl) rfl (by show 2 * 0 + _ ≤ _; exact Nat.le_of_eq rfl) (hb hby d_jdk_67_method_93_code_1) (by decide) (by decide)
  obtain ⟨rfl, Nq_122, e_122⟩ := hQ_122
  have N_122 := Fr.app N0 Nq_122
  refine Go.step st_122 ?_
  show Go p e below _ (T_122.setTop (mkF m 4 #[vR a1] [(.int n1)]))
  exact Go.retV X_122 hx hlk hret rfl (Or.inl ⟨rfl, Or.inl rfl, _, rfl⟩) (hb hby d_jdk_67_method_93_code_4) (by decide) (by decide) (by rw [e_122]; exact ⟨rfl, N_122, rfl⟩)
--@E
--@C ail
def Q_ail (Z : State) (zc : Int32) (vfm : Value) (a1 : Addr) (h0 : Heap) (n0 : Nat) (v : Option Value) (h : Heap) (L : List Loc) : Prop := v = some (.int (1 : Int32)) ∧ Fr n0 L ∧ h = h0
set_option maxRecDepth 65536 in
set_option maxHeartbeats 40000000 in
theorem rm_ail (l : Launch) (Z : State) (a0 : Array Value) (hw : ∀ d ∈ tables_1, d.before a0 Z = true) (zc : Int32) (vfm : Value) (a1 : Addr) (h0 : Heap) (n0 : Nat) (Z0 : n0 ≤ h0.size) (F_c : Fld Z h0 a1 "java/lang/AbstractStringBuilder" "coder" "B" (.int (0 : Int32))) (hSt : St Z zc vfm) (hO : Old Z n0 h0) :
    CN l Z ({ cls := "java/lang/AbstractStringBuilder", name := "isLatin1", desc := "()Z" } : Jvm.MethodName) [(Jvm.Cond.code ({ cls := "java/lang/AbstractStringBuilder", name := "isLatin1", desc := "()Z" } : Jvm.MethodName) jdk_68_method_68_code (1 : Nat) (Option.some Jvm.ClassFile.FieldType.boolean))] ({ frames := 0, cells := 0, slots := 0, locals := 0 } : Room) #[(.ref a1)] h0 (Q_ail Z zc vfm a1 h0 n0) := by
  refine CN.of (L0 := #[vR a1]) (plainFor_of_name pn_0) (fun m => by first | (simp [entryFrame, mkF, argsToLocals, Value.category]; done) | rfl) ?_
  intro p e s m below meth c s₁ hx hby hml hret hlk hZ hown hnm X0 e0
  have N0 := Fr.nil n0
  have KP0 := Keep.refl h0 []
  have hSt_ := hSt
  obtain ⟨S_cs, n_cs, S_fm, r_fm⟩ := hSt_
  show Go p e below _ (s₁.setTop (mkF m 0 #[vR a1] []))
  obtain ⟨T_123, X_123, e_123, st_123⟩ := getS2 X0 hx hZ hown (host := "") (Or.inl (wd_57 hw)) Via.refl e0 (S_cs.ext hO.2) (g := (mkF m 0 #[vR a1] [])) rfl (hb hby d_jdk_68_method_68_code_0)
  refine Go.step st_123 ?_
  show Go p e below _ (T_123.setTop (mkF m 3 #[vR a1] [(.int zc)]))
  refine Go.step (fun _ k => XS.ifNo X_123.here hx rfl (hb hby d_jdk_68_method_68_code_3) rfl ((if0 _ _).trans (feq (n_cs : ¬ (zc = (0 : Int32)))).1) k) ?_
  show Go p e below _ (T_123.setTop (mkF m 6 #[vR a1] []))
  refine Go.step (fun _ k => XS.aloadN X_123.here hx rfl (hb hby d_jdk_68_method_68_code_6) rfl rfl k) ?_
  show Go p e below _ (T_123.setTop (mkF m 7 #[vR a1] [(.ref a1)]))
  obtain ⟨T_124, X_124, e_124, st_124⟩ := getF X_123 hx hZ hown (host := "") (Or.inl (wd_60 hw)) Via.refl e_123 F_c (g := (mkF m 7 #[vR a1] [(.ref a1)])) rfl rfl (hb hby d_jdk_68_method_68_code_7)
  refine Go.step st_124 ?_
  show Go p e below _ (T_124.setTop (mkF m 10 #[vR a1] [(.int (0 : Int32))]))
  refine Go.step (fun _ k => XS.ifNo X_124.here hx rfl (hb hby d_jdk_68_method_68_code_10) rfl ((if0 _ _).trans (teq ((by decide) : (0 : Int32) = (0 : Int32))).2) k) ?_
  show Go p e below _ (T_124.setTop (mkF m 13 #[vR a1] []))
  refine Go.step (fun _ k => XS.iconst X_124.here hx rfl (hb hby d_jdk_68_method_68_code_13) k) ?_
  show Go p e below _ (T_124.setTop (mkF m 14 #[vR a1] [(.int (1 : Int32))]))
  refine Go.step (fun _ k => XS.goto X_124.here hx rfl (pc0 := 14) (pc' := 18) rfl (hb hby d_jdk_68_method_68_code_14) (by decide) (by decide) k) ?_
  show Go p e below _ (T_124.setTop (mkF m 18 #[vR a1] [(.int (1 : Int32))]))
  exact Go.retV X_124 hx hlk hret rfl (Or.inl ⟨rfl, Or.inr (Or.inl rfl), _, rfl⟩) (hb hby d_jdk_68_method_68_code_18) (by decide) (by decide) (by rw [e_124]; exact ⟨rfl, N0, rfl⟩)
--@E
--@C si2N
def Q_si2N (Z : State) (zc : Int32) (vfm : Value) (a1 : Addr) (b1 : Addr) (t1 : Addr) (k1 : ClassId) (z1 : Int32) (bs : List Int32) (cs : List Int32) (h0 : Heap) (n0 : Nat) (v : Option Value) (h : Heap) (L : List Loc) : Prop := ∃ (t : Addr) (kt : ClassId), v = none ∧ Fr n0 L ∧ Keep h0 h [a1] ∧ Exa Z h a1 "java/lang/String" ∧ Fld Z h a1 "java/lang/String" "value" "[B" (.ref t) ∧ Fld Z h a1 "java/lang/String" "coder" "B" (.int (0 : Int32)) ∧ Arv Z h t kt .byte (Int32.ofNat cs.length) ((cs.map fun c => c.toInt8.toInt32).map Value.int) (.int (0 : Int32))
set_option maxRecDepth 65536 in
set_option maxHeartbeats 40000000 in
theorem rm_si2N (l : Launch) (Z : State) (a0 : Array Value) (hw : ∀ d ∈ tables_1, d.before a0 Z = true) (zc : Int32) (vfm : Value) (a1 : Addr) (b1 : Addr) (t1 : Addr) (k1 : ClassId) (z1 : Int32) (bs : List Int32) (cs : List Int32) (h0 : Heap) (n0 : Nat) (Z0 : n0 ≤ h0.size) (E_a1 : Exa Z h0 a1 "java/lang/String") (F_a1v : Fld Z h0 a1 "java/lang/String" "value" "[B" .null) (F_a1c : Fld Z h0 a1 "java/lang/String" "coder" "B" (.int (0 : Int32))) (g_a1 : n0 ≤ a1) (E_b1 : Exa Z h0 b1 "java/lang/StringBuilder") (F_b1v : Fld Z h0 b1 "java/lang/AbstractStringBuilder" "value" "[B" (.ref t1)) (F_b1c : Fld Z h0 b1 "java/lang/AbstractStringBuilder" "coder" "B" (.int (0 : Int32))) (F_b1n : Fld Z h0 b1 "java/lang/AbstractStringBuilder" "count" "I" (.int (Int32.ofNat cs.length))) (A_t1 : Arv Z h0 t1 k1 .byte z1 (bs.map Value.int) (.int (0 : Int32))) (hz : (z1 = Int32.ofNat bs.length)) (hbs : (bs.length ≤ 100 ∧ cs.length < bs.length ∧ cs.length ≤ 40)) (hp : (bs.take cs.length = (cs.map fun c => c.toInt8.toInt32))) (hSt : St Z zc vfm) (hO : Old Z n0 h0) :
    CN l Z ({ cls := "java/lang/String", name := "<init>", desc := "(Ljava/lang/AbstractStringBuilder;Ljava/lang/Void;)V" } : Jvm.MethodName) [(Jvm.Cond.code ({ cls := "java/lang/String", name := "<init>", desc := "(Ljava/lang/AbstractStringBuilder;Ljava/lang/Void;)V" } : Jvm.MethodName) jdk_42_method_150_code (5 : Nat) (Option.none : Option Jvm.ClassFile.FieldType))] ({ frames := 3, cells := 1, slots := 40, locals := 49 } : Room) #[(.ref a1), (.ref b1), .null] h0 (Q_si2N Z zc vfm a1 b1 t1 k1 z1 bs cs h0 n0) := by
  refine CN.of (L0 := #[vR a1, vR b1, .val .null, vU, vU]) (plainFor_of_name pn_2) (fun m => by first | (simp [entryFrame, mkF, argsToLocals, Value.category]; done) | rfl) ?_
  intro p e s m below meth c s₁ hx hby hml hret hlk hZ hown hnm X0 e0
  have N0 := Fr.nil n0
  have KP0 := Keep.refl h0 [a1]
  have hSt_ := hSt
  obtain ⟨S_cs, n_cs, S_fm, r_fm⟩ := hSt_
  show Go p e below _ (s₁.setTop (mkF m 0 #[vR a1, vR b1, .val .null, vU, vU] []))
  refine Go.step (fun _ k => XS.aloadN X0.here hx rfl (hb hby d_jdk_42_method_150_code_0) rfl rfl k) ?_
  show Go p e below _ (s₁.setTop (mkF m 1 #[vR a1, vR b1, .val .null, vU, vU] [(.ref a1)]))
  obtain ⟨T_125, X_125, e_125, st_125⟩ := initO X0 hx hZ hown (wd_15 hw) (wd_16 hw) (wd_17 hw) e0 (g := (mkF m 1 #[vR a1, vR b1, .val .null, vU, vU] [(.ref a1)])) rfl (by rw [hml]; rfl) rfl (hb hby d_jdk_42_method_150_code_1) (by decide) (W := 0) (by show 2 * 0 + _ ≤ _; exact Nat.le_of_eq rfl) (by decide)
  refine Go.step st_125 ?_
  show Go p e below _ (T_125.setTop (mkF m 4 #[vR a1, vR b1, .val .null, vU, vU] []))
  refine Go.step (fun _ k => XS.aloadN X_125.here hx rfl (hb hby d_jdk_42_method_150_code_4) rfl rfl k) ?_
  show Go p e below _ (T_125.setTop (mkF m 5 #[vR a1, vR b1, .val .null, vU, vU] [(.ref b1)]))
  obtain ⟨v_126, T_126, L_126, X_126, hQ_126, st_126⟩ := goV X_125 hx hZ (y := Y_16) (z := Y_16) hown (wd_154 hw) (wd_155 hw) (notFace_of_selects (args := #[]) (mvT hZ (wd_157 hw))) (wd_157 hw) (wd_156 hw) (by decide) (backOf (W := 0) (rm_gv l Z a0 hw zc vfm (b1) (t1) h0 n0 (Nat.le_trans Z0 KP0.1) F_b1v hSt hO) hZ (wd_158 hw) (wd_54 hw) (by decide) (by decide)) e_125 E_b1 (g := (mkF m 5 #[vR a1, vR b1, .val .null, vU, vU] [(.ref b1)])) rfl (by rw [hml]; rfl) (argsL := []) (rest := []) rfl (lenOf pd_13 rfl) rfl (by show 2 * 0 + _ ≤ _; exact Nat.le_of_eq rfl) (hb hby d_jdk_42_method_150_code_5) (by decide) (by decide)
  obtain ⟨rfl, Nq_126, e_126⟩ := hQ_126
  have N_126 := Fr.app N0 Nq_126
  refine Go.step st_126 ?_
  show Go p e below _ (T_126.setTop (mkF m 8 #[vR a1, vR b1, .val .null, vU, vU] [(.ref t1)]))
  refine Go.step (fun _ k => XS.astoreN X_126.here hx rfl (hb hby d_jdk_42_method_150_code_8) rfl rfl (l' := #[vR a1, vR b1, .val .null, vR t1, vU]) rfl k) ?_
  show Go p e below _ (T_126.setTop (mkF m 9 #[vR a1, vR b1, .val .null, vR t1, vU] []))
  refine Go.step (fun _ k => XS.aloadN X_126.here hx rfl (hb hby d_jdk_42_method_150_code_9) rfl rfl k) ?_
  show Go p e below _ (T_126.setTop (mkF m 10 #[vR a1, vR b1, .val .null, vR t1, vU] [(.ref b1)]))
  obtain ⟨v_127, T_127, L_127, X_127, hQ_127, st_127⟩ := goV X_126 hx hZ (y := Y_15) (z := Y_17) hown (wd_159 hw) (wd_160 hw) (nf_own (args := #[]) (mvT hZ (wd_87 hw)) rfl) (wd_162 hw) (wd_163 hw) (by decide) (backOf (W := 0) (rm_sln l Z a0 hw zc vfm (b1) ((Int32.ofNat cs.length)) h0 n0 (Nat.le_trans Z0 KP0.1) E_b1 F_b1n hSt hO) hZ (wd_164 hw) (wd_46 hw) (by decide) (by decide)) e_126 E_b1 (g := (mkF m 10 #[vR a1, vR b1, .val .null, vR t1, vU] [(.ref b1)])) rfl (by rw [hml]; rfl) (argsL := []) (rest := []) rfl (lenOf pd_8 rfl) rfl (by show 2 * 0 + _ ≤ _; exact Nat.le_of_eq rfl) (hb hby d_jdk_42_method_150_code_10) (by decide) (by decide)
  obtain ⟨rfl, Nq_127, e_127⟩ := hQ_127
  have N_127 := Fr.app N_126 Nq_127
  refine Go.step st_127 ?_
  show Go p e below _ (T_127.setTop (mkF m 13 #[vR a1, vR b1, .val .null, vR t1, vU] [(.int (Int32.ofNat cs.length))]))
  refine Go.step (fun _ k => XS.istore X_127.here hx rfl (hb hby d_jdk_42_method_150_code_13) rfl (l' := #[vR a1, vR b1, .val .null, vR t1, vI (Int32.ofNat cs.length)]) rfl k) ?_
  show Go p e below _ (T_127.setTop (mkF m 15 #[vR a1, vR b1, .val .null, vR t1, vI (Int32.ofNat cs.length)] []))
  refine Go.step (fun _ k => XS.aloadN X_127.here hx rfl (hb hby d_jdk_42_method_150_code_15) rfl rfl k) ?_
  show Go p e below _ (T_127.setTop (mkF m 16 #[vR a1, vR b1, .val .null, vR t1, vI (Int32.ofNat cs.length)] [(.ref b1)]))
  obtain ⟨v_128, T_128, L_128, X_128, hQ_128, st_128⟩ := goV X_127 hx hZ (y := Y_18) (z := Y_18) hown (wd_167 hw) (wd_168 hw) (notFace_of_selects (args := #[]) (mvT hZ (wd_170 hw))) (wd_170 hw) (wd_169 hw) (by decide) (backOf (W := 0) (rm_ail l Z a0 hw zc vfm (b1) h0 n0 (Nat.le_trans Z0 KP0.1) F_b1c hSt hO) hZ (wd_171 hw) (wd_54 hw) (by decide) (by decide)) e_127 E_b1 (g := (mkF m 16 #[vR a1, vR b1, .val .null, vR t1, vI (Int32.ofNat cs.length)] [(.ref b1)])) rfl (by rw [hml]; rfl) (argsL := []) (rest := []) rfl (lenOf pd_14 rfl) rfl (by show 2 * 0 + _ ≤ _; exact Nat.le_of_eq rfl) (hb hby d_jdk_42_method_150_code_16) (by decide) (by decide)
  obtain ⟨rfl, Nq_128, e_128⟩ := hQ_128
  have N_128 := Fr.app N_127 Nq_128
  refine Go.step st_128 ?_
  show Go p e below _ (T_128.setTop (mkF m 19 #[vR a1, vR b1, .val .null, vR t1, vI (Int32.ofNat cs.length)] [(.int (1 : Int32))]))
  refine Go.step (fun _ k => XS.ifNo X_128.here hx rfl (hb hby d_jdk_42_method_150_code_19) rfl ((if0 _ _).trans (feq ((by decide) : ¬ ((1 : Int32) = (0 : Int32)))).1) k) ?_
  show Go p e below _ (T_128.setTop (mkF m 22 #[vR a1, vR b1, .val .null, vR t1, vI (Int32.ofNat cs.length)] []))
  refine Go.step (fun _ k => XS.aloadN X_128.here hx rfl (hb hby d_jdk_42_method_150_code_22) rfl rfl k) ?_
  refine Go.step (fun _ k => XS.iconst X_128.here hx rfl (hb hby d_jdk_42_method_150_code_23) k) ?_
  show Go p e below _ (T_128.setTop (mkF m 24 #[vR a1, vR b1, .val .null, vR t1, vI (Int32.ofNat cs.length)] [(.int (0 : Int32)), (.ref a1)]))
  obtain ⟨T_129, h_129, X_129, e_129, W_129, st_129⟩ := putFN X_128 hx hZ hown (wd_25 hw) Via.refl e_128 F_a1c E_a1 (Or.inr ⟨(wd_21 hw), rfl, hnm⟩) (wd_5 hw) (ty := .byte) (v' := (.int (0 : Int32))) pf_1 rfl (by decide) (g := (mkF m 24 #[vR a1, vR b1, .val .null, vR t1, vI (Int32.ofNat cs.length)] [(.int (0 : Int32)), (.ref a1)])) rfl rfl (hb hby d_jdk_42_method_150_code_24)
  refine Go.step st_129 ?_
  have N_129 := Fr.snoc X_129 N_128 g_a1
  have le_129 : h0.size ≤ h_129.size := Nat.le_of_eq W_129.size.symm
  have KP_129 := KP0.wr W_129 (Or.inl (List.mem_of_getElem? (i := 0) rfl))
  have O_129 := hO.wr W_129 g_a1
  have F_129 : Fld Z h_129 a1 "java/lang/String" "coder" "B" (.int (0 : Int32)) := F_a1c.same W_129
  show Go p e below _ (T_129.setTop (mkF m 27 #[vR a1, vR b1, .val .null, vR t1, vI (Int32.ofNat cs.length)] []))
  refine Go.step (fun _ k => XS.aloadN X_129.here hx rfl (hb hby d_jdk_42_method_150_code_27) rfl rfl k) ?_
  refine Go.step (fun _ k => XS.aloadN X_129.here hx rfl (hb hby d_jdk_42_method_150_code_28) rfl rfl k) ?_
  refine Go.step (fun _ k => XS.iconst X_129.here hx rfl (hb hby d_jdk_42_method_150_code_29) k) ?_
  show Go p e below _ (T_129.setTop (mkF m 30 #[vR a1, vR b1, .val .null, vR t1, vI (Int32.ofNat cs.length)] [(.int (0 : Int32)), (.ref t1), (.ref a1)]))
  refine Go.step (fun _ k => XS.iload X_129.here hx rfl (hb hby d_jdk_42_method_150_code_30) rfl  k) ?_
  show Go p e below _ (T_129.setTop (mkF m 32 #[vR a1, vR b1, .val .null, vR t1, vI (Int32.ofNat cs.length)] [(.int (Int32.ofNat cs.length)), (.int (0 : Int32)), (.ref t1), (.ref a1)]))
  refine own_top (congrArg Value.int (show (Int32.ofNat cs.length) = (Int32.ofNat (0 + cs.length)) from by rw [Nat.zero_add])) ?_
  show Go p e below _ (T_129.setTop (mkF m 32 #[vR a1, vR b1, .val .null, vR t1, vI (Int32.ofNat cs.length)] [(.int (Int32.ofNat (0 + cs.length))), (.int (0 : Int32)), (.ref t1), (.ref a1)]))
  have f130 : Arv Z h_129 t1 k1 .byte z1 (bs.map Value.int) (.int (0 : Int32)) := (A_t1.other W_129 (Ne.symm (Exa.neArv E_a1 A_t1 (wd_5 hw))))
  obtain ⟨v_131, T_131, L_131, X_131, hQ_131, st_131⟩ := goS X_129 hx hZ (y := Y_19) hown (wd_172 hw) (wd_173 hw) (wd_174 hw) (wd_175 hw) (by decide) (backOf (W := 1) (rm_crN l Z a0 hw zc vfm (t1) (k1) (z1) (bs) (0) (cs.length) h_129 n0 (Nat.le_trans Z0 KP_129.1) f130 hz hbs.1 (by omega) (fun _ => by omega) hSt O_129) hZ (wd_175 hw) (wd_174 hw) (by decide) (by decide)) e_129 (g := (mkF m 32 #[vR a1, vR b1, .val .null, vR t1, vI (Int32.ofNat cs.length)] [(.int (Int32.ofNat (0 + cs.length))), (.int (0 : Int32)), (.ref t1), (.ref a1)])) rfl (by rw [hml]; rfl) (argsL := [(.ref t1), (.int (0 : Int32)), (.int (Int32.ofNat (0 + cs.length)))]) (rest := [(.ref a1)]) rfl (lenOf pd_12 rfl) rfl (by show 2 * 0 + _ ≤ _; exact Nat.le_of_eq rfl) (hb hby d_jdk_42_method_150_code_32) (by decide) (by decide)
  obtain ⟨r_131, kr_131, rfl, Nq_131, K_131, u0_131, u1_131⟩ := hQ_131
  have N_131 := Fr.app N_129 Nq_131
  have le_131 : h_129.size ≤ T_131.heap.size := K_131.1
  have KP_131 := KP_129.trans K_131 all0
  have O_131 := O_129.keep K_131 all0
  have sz_r_131 : h0.size ≤ r_131 := Nat.le_trans le_129 u0_131
  have g_r_131 : n0 ≤ r_131 := Nat.le_trans Z0 sz_r_131
  refine Go.step st_131 ?_
  show Go p e below _ (T_131.setTop (mkF m 35 #[vR a1, vR b1, .val .null, vR t1, vI (Int32.ofNat cs.length)] [(.ref r_131), (.ref a1)]))
  have f132 : Exa Z T_131.heap a1 "java/lang/String" := ((E_a1.wr W_129).keep K_131)
  have f133 : Fld Z T_131.heap a1 "java/lang/String" "value" "[B" .null := ((F_a1v.other W_129 (Or.inr (sn_6 hw))).keep K_131 nin0)
  obtain ⟨T_134, h_134, X_134, e_134, W_134, st_134⟩ := putF X_131 hx hZ hown (host := "") (Or.inl (wd_24 hw)) Via.refl rfl f133 f132 (Or.inr ⟨(wd_20 hw), rfl, hnm⟩) (wd_5 hw) (ty := (.array .byte)) pf_0 rfl rfl (g := (mkF m 35 #[vR a1, vR b1, .val .null, vR t1, vI (Int32.ofNat cs.length)] [(.ref r_131), (.ref a1)])) rfl rfl (hb hby d_jdk_42_method_150_code_35)
  refine Go.step st_134 ?_
  have N_134 := Fr.snoc X_134 N_131 g_a1
  have le_134 : T_131.heap.size ≤ h_134.size := Nat.le_of_eq W_134.size.symm
  have KP_134 := KP_131.wr W_134 (Or.inl (List.mem_of_getElem? (i := 0) rfl))
  have O_134 := O_131.wr W_134 g_a1
  have F_134 : Fld Z h_134 a1 "java/lang/String" "value" "[B" (.ref r_131) := f133.same W_134
  show Go p e below _ (T_134.setTop (mkF m 38 #[vR a1, vR b1, .val .null, vR t1, vI (Int32.ofNat cs.length)] []))
  refine Go.step (fun _ k => XS.goto X_134.here hx rfl (pc0 := 38) (pc' := 97) rfl (hb hby d_jdk_42_method_150_code_38) (by decide) (by decide) k) ?_
  show Go p e below _ (T_134.setTop (mkF m 97 #[vR a1, vR b1, .val .null, vR t1, vI (Int32.ofNat cs.length)] []))
  have f135 : Arv Z h_134 r_131 kr_131 .byte (Int32.ofNat cs.length) (((bs.drop 0).take cs.length).map Value.int) (.int (0 : Int32)) := (u1_131.other W_134 (Ne.symm (Nat.ne_of_lt (Nat.lt_of_lt_of_le E_a1.lt (Nat.le_trans le_129 u0_131)))))
  have Ac136 : Arv Z h_134 r_131 kr_131 .byte (Int32.ofNat cs.length) ((cs.map fun c => c.toInt8.toInt32).map Value.int) (.int (0 : Int32)) := by
    have q := f135
    rw [show (bs.drop 0).take cs.length = (cs.map fun c => c.toInt8.toInt32) from hp] at q
    exact q
  have f137 : Exa Z h_134 a1 "java/lang/String" := (f132.wr W_134)
  have f138 : Fld Z h_134 a1 "java/lang/String" "coder" "B" (.int (0 : Int32)) := ((F_129.keep K_131 nin0).other W_134 (Or.inr (sn_7 hw)))
  exact Go.ret0 X_134 hx hlk hret (hb hby d_jdk_42_method_150_code_97) (by decide) (by decide) (by rw [e_134]; exact ⟨r_131, kr_131, rfl, N_134, KP_134, f137, F_134, f138, Ac136⟩)
--@E
--@C si1N
def Q_si1N (Z : State) (zc : Int32) (vfm : Value) (a1 : Addr) (b1 : Addr) (t1 : Addr) (k1 : ClassId) (z1 : Int32) (bs : List Int32) (cs : List Int32) (h0 : Heap) (n0 : Nat) (v : Option Value) (h : Heap) (L : List Loc) : Prop := ∃ (t : Addr) (kt : ClassId), v = none ∧ Fr n0 L ∧ Keep h0 h [a1] ∧ Exa Z h a1 "java/lang/String" ∧ Fld Z h a1 "java/lang/String" "value" "[B" (.ref t) ∧ Fld Z h a1 "java/lang/String" "coder" "B" (.int (0 : Int32)) ∧ Arv Z h t kt .byte (Int32.ofNat cs.length) ((cs.map fun c => c.toInt8.toInt32).map Value.int) (.int (0 : Int32))
set_option maxRecDepth 65536 in
set_option maxHeartbeats 40000000 in
theorem rm_si1N (l : Launch) (Z : State) (a0 : Array Value) (hw : ∀ d ∈ tables_1, d.before a0 Z = true) (zc : Int32) (vfm : Value) (a1 : Addr) (b1 : Addr) (t1 : Addr) (k1 : ClassId) (z1 : Int32) (bs : List Int32) (cs : List Int32) (h0 : Heap) (n0 : Nat) (Z0 : n0 ≤ h0.size) (E_a1 : Exa Z h0 a1 "java/lang/String") (F_a1v : Fld Z h0 a1 "java/lang/String" "value" "[B" .null) (F_a1c : Fld Z h0 a1 "java/lang/String" "coder" "B" (.int (0 : Int32))) (g_a1 : n0 ≤ a1) (E_b1 : Exa Z h0 b1 "java/lang/StringBuilder") (F_b1v : Fld Z h0 b1 "java/lang/AbstractStringBuilder" "value" "[B" (.ref t1)) (F_b1c : Fld Z h0 b1 "java/lang/AbstractStringBuilder" "coder" "B" (.int (0 : Int32))) (F_b1n : Fld Z h0 b1 "java/lang/AbstractStringBuilder" "count" "I" (.int (Int32.ofNat cs.length))) (A_t1 : Arv Z h0 t1 k1 .byte z1 (bs.map Value.int) (.int (0 : Int32))) (hz : (z1 = Int32.ofNat bs.length)) (hbs : (bs.length ≤ 100 ∧ cs.length < bs.length ∧ cs.length ≤ 40)) (hp : (bs.take cs.length = (cs.map fun c => c.toInt8.toInt32))) (hSt : St Z zc vfm) (hO : Old Z n0 h0) :
    CN l Z ({ cls := "java/lang/String", name := "<init>", desc := "(Ljava/lang/StringBuilder;)V" } : Jvm.MethodName) [(Jvm.Cond.code ({ cls := "java/lang/String", name := "<init>", desc := "(Ljava/lang/StringBuilder;)V" } : Jvm.MethodName) jdk_42_method_53_code (2 : Nat) (Option.none : Option Jvm.ClassFile.FieldType))] ({ frames := 4, cells := 1, slots := 40, locals := 65 } : Room) #[(.ref a1), (.ref b1)] h0 (Q_si1N Z zc vfm a1 b1 t1 k1 z1 bs cs h0 n0) := by
  refine CN.of (L0 := #[vR a1, vR b1]) (plainFor_of_name pn_2) (fun m => by first | (simp [entryFrame, mkF, argsToLocals, Value.category]; done) | rfl) ?_
  intro p e s m below meth c s₁ hx hby hml hret hlk hZ hown hnm X0 e0
  have N0 := Fr.nil n0
  have KP0 := Keep.refl h0 [a1]
  have hSt_ := hSt
  obtain ⟨S_cs, n_cs, S_fm, r_fm⟩ := hSt_
  show Go p e below _ (s₁.setTop (mkF m 0 #[vR a1, vR b1] []))
  refine Go.step (fun _ k => XS.aloadN X0.here hx rfl (hb hby d_jdk_42_method_53_code_0) rfl rfl k) ?_
  refine Go.step (fun _ k => XS.aloadN X0.here hx rfl (hb hby d_jdk_42_method_53_code_1) rfl rfl k) ?_
  refine Go.step (fun _ k => XS.aconstNull X0.here hx rfl (hb hby d_jdk_42_method_53_code_2) k) ?_
  show Go p e below _ (s₁.setTop (mkF m 3 #[vR a1, vR b1] [.null, (.ref b1), (.ref a1)]))
  obtain ⟨v_139, T_139, L_139, X_139, hQ_139, st_139⟩ := goC X0 hx hZ (y := Y_20) hown rfl (wd_151 hw) (wd_152 hw) (wd_153 hw) (by decide) (backOf (W := 0) (rm_si2N l Z a0 hw zc vfm (a1) (b1) (t1) (k1) (z1) (bs) (cs) h0 n0 (Nat.le_trans Z0 KP0.1) E_a1 F_a1v F_a1c g_a1 E_b1 F_b1v F_b1c F_b1n A_t1 hz hbs hp hSt hO) hZ (wd_153 hw) (wd_6 hw) (by decide) (by decide)) e0 (g := (mkF m 3 #[vR a1, vR b1] [.null, (.ref b1), (.ref a1)])) rfl (by rw [hml]; rfl) (a := a1) (argsL := [(.ref b1), .null]) (rest := []) rfl (lenOf pd_15 rfl) rfl (by show 2 * 0 + _ ≤ _; exact Nat.le_of_eq rfl) (hb hby d_jdk_42_method_53_code_3) (by decide) (by decide)
  obtain ⟨t_139, kt_139, rfl, Nq_139, K_139, u0_139, u1_139, u2_139, u3_139⟩ := hQ_139
  have N_139 := Fr.app N0 Nq_139
  have le_139 : h0.size ≤ T_139.heap.size := K_139.1
  have KP_139 := KP0.trans K_139 (allS (Or.inl (List.mem_of_getElem? (i := 0) rfl)) all0)
  have O_139 := hO.keep K_139 (allS g_a1 all0)
  refine Go.step st_139 ?_
  show Go p e below _ (T_139.setTop (mkF m 6 #[vR a1, vR b1] []))
  exact Go.ret0 X_139 hx hlk hret (hb hby d_jdk_42_method_53_code_6) (by decide) (by decide) (by exact ⟨t_139, kt_139, rfl, N_139, KP_139, u0_139, u1_139, u2_139, u3_139⟩)
--@E
--@C tsN
def Q_tsN (Z : State) (zc : Int32) (vfm : Value) (b1 : Addr) (t1 : Addr) (k1 : ClassId) (z1 : Int32) (bs : List Int32) (cs : List Int32) (h0 : Heap) (n0 : Nat) (v : Option Value) (h : Heap) (L : List Loc) : Prop := ∃ (r : Addr), v = some (.ref r) ∧ Fr n0 L ∧ Keep h0 h [] ∧ h0.size ≤ r ∧ Str Z h.size h r cs
set_option maxRecDepth 65536 in
set_option maxHeartbeats 40000000 in
theorem rm_tsN (l : Launch) (Z : State) (a0 : Array Value) (hw : ∀ d ∈ tables_1, d.before a0 Z = true) (zc : Int32) (vfm : Value) (b1 : Addr) (t1 : Addr) (k1 : ClassId) (z1 : Int32) (bs : List Int32) (cs : List Int32) (h0 : Heap) (n0 : Nat) (Z0 : n0 ≤ h0.size) (E_b1 : Exa Z h0 b1 "java/lang/StringBuilder") (F_b1v : Fld Z h0 b1 "java/lang/AbstractStringBuilder" "value" "[B" (.ref t1)) (F_b1c : Fld Z h0 b1 "java/lang/AbstractStringBuilder" "coder" "B" (.int (0 : Int32))) (F_b1n : Fld Z h0 b1 "java/lang/AbstractStringBuilder" "count" "I" (.int (Int32.ofNat cs.length))) (A_t1 : Arv Z h0 t1 k1 .byte z1 (bs.map Value.int) (.int (0 : Int32))) (hz : (z1 = Int32.ofNat bs.length)) (hbs : (bs.length ≤ 100 ∧ cs.length < bs.length ∧ cs.length ≤ 40)) (hp : (bs.take cs.length = (cs.map fun c => c.toInt8.toInt32))) (hlat : (∀ c ∈ cs, ¬ c < 0 ∧ ¬ (255 : Int32) < c)) (hSt : St Z zc vfm) (hO : Old Z n0 h0) :
    CN l Z ({ cls := "java/lang/StringBuilder", name := "toString", desc := "()Ljava/lang/String;" } : Jvm.MethodName) [(Jvm.Cond.code ({ cls := "java/lang/StringBuilder", name := "toString", desc := "()Ljava/lang/String;" } : Jvm.MethodName) jdk_67_method_42_code (1 : Nat) (Option.some (Jvm.ClassFile.FieldType.object "java/lang/String")))] ({ frames := 5, cells := 2, slots := 44, locals := 79 } : Room) #[(.ref b1)] h0 (Q_tsN Z zc vfm b1 t1 k1 z1 bs cs h0 n0) := by
  refine CN.of (L0 := #[vR b1]) (plainFor_of_name pn_1) (fun m => by first | (simp [entryFrame, mkF, argsToLocals, Value.category]; done) | rfl) ?_
  intro p e s m below meth c s₁ hx hby hml hret hlk hZ hown hnm X0 e0
  have N0 := Fr.nil n0
  have KP0 := Keep.refl h0 []
  have hSt_ := hSt
  obtain ⟨S_cs, n_cs, S_fm, r_fm⟩ := hSt_
  show Go p e below _ (s₁.setTop (mkF m 0 #[vR b1] []))
  obtain ⟨T_140, h_140, X_140, e_140, E_140, A_140, D_140, Un_140, st_140⟩ := newO X0 hx hZ hown (wd_147 hw) (wd_5 hw) (wd_6 hw) e0 (g := (mkF m 0 #[vR b1] [])) rfl (hb hby d_jdk_67_method_42_code_0) (by decide) (by decide)
  obtain ⟨b140, q_140⟩ : ∃ z, z = h0.size := ⟨_, rfl⟩
  rw [← q_140] at A_140 D_140 Un_140 st_140
  refine Go.step st_140 ?_
  have le_140 : h0.size ≤ h_140.size := E_140.1
  have KP_140 := KP0.ext E_140
  have O_140 := hO.ext E_140
  have ge_140 : h0.size ≤ b140 := Nat.le_of_eq q_140.symm
  have sz_b140 : h0.size ≤ b140 := Nat.le_trans (Nat.le_refl _) ge_140
  have g_b140 : n0 ≤ b140 := Nat.le_trans Z0 sz_b140
  have F_140_20 : Fld Z h_140 b140 "java/lang/String" "value" "[B" .null := D_140 (Or.inr (wd_20 hw)) (ty := (.array .byte)) pf_0
  have F_140_21 : Fld Z h_140 b140 "java/lang/String" "coder" "B" (.int (0 : Int32)) := D_140 (Or.inr (wd_21 hw)) (ty := .byte) pf_1
  show Go p e below _ (T_140.setTop (mkF m 3 #[vR b1] [(.ref b140)]))
  refine Go.step (fun _ k => XS.dup X_140.here hx rfl (hb hby d_jdk_67_method_42_code_3) rfl rfl k) ?_
  refine Go.step (fun _ k => XS.aloadN X_140.here hx rfl (hb hby d_jdk_67_method_42_code_4) rfl rfl k) ?_
  show Go p e below _ (T_140.setTop (mkF m 5 #[vR b1] [(.ref b1), (.ref b140), (.ref b140)]))
  have f141 : Exa Z h_140 b1 "java/lang/StringBuilder" := (E_b1.ext E_140)
  have f142 : Fld Z h_140 b1 "java/lang/AbstractStringBuilder" "value" "[B" (.ref t1) := (F_b1v.ext E_140)
  have f143 : Fld Z h_140 b1 "java/lang/AbstractStringBuilder" "coder" "B" (.int (0 : Int32)) := (F_b1c.ext E_140)
  have f144 : Fld Z h_140 b1 "java/lang/AbstractStringBuilder" "count" "I" (.int (Int32.ofNat cs.length)) := (F_b1n.ext E_140)
  have f145 : Arv Z h_140 t1 k1 .byte z1 (bs.map Value.int) (.int (0 : Int32)) := (A_t1.ext E_140)
  obtain ⟨v_146, T_146, L_146, X_146, hQ_146, st_146⟩ := goC X_140 hx hZ (y := Y_21) hown rfl (wd_148 hw) (wd_149 hw) (wd_150 hw) (by decide) (backOf (W := 1) (rm_si1N l Z a0 hw zc vfm (b140) (b1) (t1) (k1) (z1) (bs) (cs) h_140 n0 (Nat.le_trans Z0 KP_140.1) A_140 F_140_20 F_140_21 g_b140 f141 f142 f143 f144 f145 hz hbs hp hSt O_140) hZ (wd_150 hw) (wd_6 hw) (by decide) (by decide)) e_140 (g := (mkF m 5 #[vR b1] [(.ref b1), (.ref b140), (.ref b140)])) rfl (by rw [hml]; rfl) (a := b140) (argsL := [(.ref b1)]) (rest := [(.ref b140)]) rfl (lenOf pd_16 rfl) rfl (by show 2 * 0 + _ ≤ _; exact Nat.le_of_eq rfl) (hb hby d_jdk_67_method_42_code_5) (by decide) (by decide)
  obtain ⟨t_146, kt_146, rfl, Nq_146, K_146, u0_146, u1_146, u2_146, u3_146⟩ := hQ_146
  have N_146 := Fr.app N0 Nq_146
  have le_146 : h_140.size ≤ T_146.heap.size := K_146.1
  have KP_146 := KP_140.trans K_146 (allS (Or.inr sz_b140) all0)
  have O_146 := O_140.keep K_146 (allS g_b140 all0)
  refine Go.step st_146 ?_
  show Go p e below _ (T_146.setTop (mkF m 8 #[vR b1] [(.ref b140)]))
  have Sx147 : Str Z (T_146.heap).size (T_146.heap) b140 cs := ⟨t_146, kt_146, u0_146.lt, u3_146.lt, u0_146, u1_146, u2_146, u3_146, hlat, (by omega)⟩
  exact Go.retV X_146 hx hlk hret rfl (Or.inr (Or.inr (Or.inr (Or.inr ⟨rfl, rfl, rfl⟩)))) (hb hby d_jdk_67_method_42_code_8) (by decide) (by decide) (by exact ⟨b140, rfl, N_146, KP_146, sz_b140, Sx147⟩)
--@E
--@C si2C
def Q_si2C (Z : State) (zc : Int32) (vfm : Value) (a1 : Addr) (b1 : Addr) (t1 : Addr) (k1 : ClassId) (bs : List Int32) (cs : List Int32) (h0 : Heap) (n0 : Nat) (v : Option Value) (h : Heap) (L : List Loc) : Prop := ∃ (t : Addr) (kt : ClassId), v = none ∧ Fr n0 L ∧ Keep h0 h [a1] ∧ Exa Z h a1 "java/lang/String" ∧ Fld Z h a1 "java/lang/String" "value" "[B" (.ref t) ∧ Fld Z h a1 "java/lang/String" "coder" "B" (.int (0 : Int32)) ∧ Arv Z h t kt .byte (Int32.ofNat cs.length) ((cs.map fun c => c.toInt8.toInt32).map Value.int) (.int (0 : Int32))
set_option maxRecDepth 65536 in
set_option maxHeartbeats 40000000 in
theorem rm_si2C (l : Launch) (Z : State) (a0 : Array Value) (hw : ∀ d ∈ tables_1, d.before a0 Z = true) (zc : Int32) (vfm : Value) (a1 : Addr) (b1 : Addr) (t1 : Addr) (k1 : ClassId) (bs : List Int32) (cs : List Int32) (h0 : Heap) (n0 : Nat) (Z0 : n0 ≤ h0.size) (E_a1 : Exa Z h0 a1 "java/lang/String") (F_a1v : Fld Z h0 a1 "java/lang/String" "value" "[B" .null) (F_a1c : Fld Z h0 a1 "java/lang/String" "coder" "B" (.int (0 : Int32))) (g_a1 : n0 ≤ a1) (E_b1 : Exa Z h0 b1 "java/lang/StringBuilder") (F_b1v : Fld Z h0 b1 "java/lang/AbstractStringBuilder" "value" "[B" (.ref t1)) (F_b1c : Fld Z h0 b1 "java/lang/AbstractStringBuilder" "coder" "B" (.int (0 : Int32))) (F_b1n : Fld Z h0 b1 "java/lang/AbstractStringBuilder" "count" "I" (.int (Int32.ofNat cs.length))) (A_t1 : Arv Z h0 t1 k1 .byte (16 : Int32) (bs.map Value.int) (.int (0 : Int32))) (E_t1 : Exa Z h0 t1 "[B") (hbs : (bs.length = 16 ∧ cs.length = 16)) (hp : (bs.take cs.length = (cs.map fun c => c.toInt8.toInt32))) (hSt : St Z zc vfm) (hO : Old Z n0 h0) :
    CN l Z ({ cls := "java/lang/String", name := "<init>", desc := "(Ljava/lang/AbstractStringBuilder;Ljava/lang/Void;)V" } : Jvm.MethodName) [(Jvm.Cond.code ({ cls := "java/lang/String", name := "<init>", desc := "(Ljava/lang/AbstractStringBuilder;Ljava/lang/Void;)V" } : Jvm.MethodName) jdk_42_method_150_code (5 : Nat) (Option.none : Option Jvm.ClassFile.FieldType))] ({ frames := 2, cells := 1, slots := 16, locals := 29 } : Room) #[(.ref a1), (.ref b1), .null] h0 (Q_si2C Z zc vfm a1 b1 t1 k1 bs cs h0 n0) := by
  refine CN.of (L0 := #[vR a1, vR b1, .val .null, vU, vU]) (plainFor_of_name pn_2) (fun m => by first | (simp [entryFrame, mkF, argsToLocals, Value.category]; done) | rfl) ?_
  intro p e s m below meth c s₁ hx hby hml hret hlk hZ hown hnm X0 e0
  have N0 := Fr.nil n0
  have KP0 := Keep.refl h0 [a1]
  have hSt_ := hSt
  obtain ⟨S_cs, n_cs, S_fm, r_fm⟩ := hSt_
  show Go p e below _ (s₁.setTop (mkF m 0 #[vR a1, vR b1, .val .null, vU, vU] []))
  refine Go.step (fun _ k => XS.aloadN X0.here hx rfl (hb hby d_jdk_42_method_150_code_0) rfl rfl k) ?_
  show Go p e below _ (s₁.setTop (mkF m 1 #[vR a1, vR b1, .val .null, vU, vU] [(.ref a1)]))
  obtain ⟨T_148, X_148, e_148, st_148⟩ := initO X0 hx hZ hown (wd_15 hw) (wd_16 hw) (wd_17 hw) e0 (g := (mkF m 1 #[vR a1, vR b1, .val .null, vU, vU] [(.ref a1)])) rfl (by rw [hml]; rfl) rfl (hb hby d_jdk_42_method_150_code_1) (by decide) (W := 0) (by show 2 * 0 + _ ≤ _; exact Nat.le_of_eq rfl) (by decide)
  refine Go.step st_148 ?_
  show Go p e below _ (T_148.setTop (mkF m 4 #[vR a1, vR b1, .val .null, vU, vU] []))
  refine Go.step (fun _ k => XS.aloadN X_148.here hx rfl (hb hby d_jdk_42_method_150_code_4) rfl rfl k) ?_
  show Go p e below _ (T_148.setTop (mkF m 5 #[vR a1, vR b1, .val .null, vU, vU] [(.ref b1)]))
  obtain ⟨v_149, T_149, L_149, X_149, hQ_149, st_149⟩ := goV X_148 hx hZ (y := Y_16) (z := Y_16) hown (wd_154 hw) (wd_155 hw) (notFace_of_selects (args := #[]) (mvT hZ (wd_157 hw))) (wd_157 hw) (wd_156 hw) (by decide) (backOf (W := 0) (rm_gv l Z a0 hw zc vfm (b1) (t1) h0 n0 (Nat.le_trans Z0 KP0.1) F_b1v hSt hO) hZ (wd_158 hw) (wd_54 hw) (by decide) (by decide)) e_148 E_b1 (g := (mkF m 5 #[vR a1, vR b1, .val .null, vU, vU] [(.ref b1)])) rfl (by rw [hml]; rfl) (argsL := []) (rest := []) rfl (lenOf pd_13 rfl) rfl (by show 2 * 0 + _ ≤ _; exact Nat.le_of_eq rfl) (hb hby d_jdk_42_method_150_code_5) (by decide) (by decide)
  obtain ⟨rfl, Nq_149, e_149⟩ := hQ_149
  have N_149 := Fr.app N0 Nq_149
  refine Go.step st_149 ?_
  show Go p e below _ (T_149.setTop (mkF m 8 #[vR a1, vR b1, .val .null, vU, vU] [(.ref t1)]))
  refine Go.step (fun _ k => XS.astoreN X_149.here hx rfl (hb hby d_jdk_42_method_150_code_8) rfl rfl (l' := #[vR a1, vR b1, .val .null, vR t1, vU]) rfl k) ?_
  show Go p e below _ (T_149.setTop (mkF m 9 #[vR a1, vR b1, .val .null, vR t1, vU] []))
  refine Go.step (fun _ k => XS.aloadN X_149.here hx rfl (hb hby d_jdk_42_method_150_code_9) rfl rfl k) ?_
  show Go p e below _ (T_149.setTop (mkF m 10 #[vR a1, vR b1, .val .null, vR t1, vU] [(.ref b1)]))
  obtain ⟨v_150, T_150, L_150, X_150, hQ_150, st_150⟩ := goV X_149 hx hZ (y := Y_15) (z := Y_17) hown (wd_159 hw) (wd_160 hw) (nf_own (args := #[]) (mvT hZ (wd_87 hw)) rfl) (wd_162 hw) (wd_163 hw) (by decide) (backOf (W := 0) (rm_sln l Z a0 hw zc vfm (b1) ((Int32.ofNat cs.length)) h0 n0 (Nat.le_trans Z0 KP0.1) E_b1 F_b1n hSt hO) hZ (wd_164 hw) (wd_46 hw) (by decide) (by decide)) e_149 E_b1 (g := (mkF m 10 #[vR a1, vR b1, .val .null, vR t1, vU] [(.ref b1)])) rfl (by rw [hml]; rfl) (argsL := []) (rest := []) rfl (lenOf pd_8 rfl) rfl (by show 2 * 0 + _ ≤ _; exact Nat.le_of_eq rfl) (hb hby d_jdk_42_method_150_code_10) (by decide) (by decide)
  obtain ⟨rfl, Nq_150, e_150⟩ := hQ_150
  have N_150 := Fr.app N_149 Nq_150
  refine Go.step st_150 ?_
  show Go p e below _ (T_150.setTop (mkF m 13 #[vR a1, vR b1, .val .null, vR t1, vU] [(.int (Int32.ofNat cs.length))]))
  refine own_top (congrArg Value.int (show (Int32.ofNat cs.length) = (16 : Int32) from by rw [hbs.2]; rfl)) ?_
  show Go p e below _ (T_150.setTop (mkF m 13 #[vR a1, vR b1, .val .null, vR t1, vU] [(.int (16 : Int32))]))
  refine Go.step (fun _ k => XS.istore X_150.here hx rfl (hb hby d_jdk_42_method_150_code_13) rfl (l' := #[vR a1, vR b1, .val .null, vR t1, vI 16]) rfl k) ?_
  show Go p e below _ (T_150.setTop (mkF m 15 #[vR a1, vR b1, .val .null, vR t1, vI 16] []))
  refine Go.step (fun _ k => XS.aloadN X_150.here hx rfl (hb hby d_jdk_42_method_150_code_15) rfl rfl k) ?_
  show Go p e below _ (T_150.setTop (mkF m 16 #[vR a1, vR b1, .val .null, vR t1, vI 16] [(.ref b1)]))
  obtain ⟨v_151, T_151, L_151, X_151, hQ_151, st_151⟩ := goV X_150 hx hZ (y := Y_18) (z := Y_18) hown (wd_167 hw) (wd_168 hw) (notFace_of_selects (args := #[]) (mvT hZ (wd_170 hw))) (wd_170 hw) (wd_169 hw) (by decide) (backOf (W := 0) (rm_ail l Z a0 hw zc vfm (b1) h0 n0 (Nat.le_trans Z0 KP0.1) F_b1c hSt hO) hZ (wd_171 hw) (wd_54 hw) (by decide) (by decide)) e_150 E_b1 (g := (mkF m 16 #[vR a1, vR b1, .val .null, vR t1, vI 16] [(.ref b1)])) rfl (by rw [hml]; rfl) (argsL := []) (rest := []) rfl (lenOf pd_14 rfl) rfl (by show 2 * 0 + _ ≤ _; exact Nat.le_of_eq rfl) (hb hby d_jdk_42_method_150_code_16) (by decide) (by decide)
  obtain ⟨rfl, Nq_151, e_151⟩ := hQ_151
  have N_151 := Fr.app N_150 Nq_151
  refine Go.step st_151 ?_
  show Go p e below _ (T_151.setTop (mkF m 19 #[vR a1, vR b1, .val .null, vR t1, vI 16] [(.int (1 : Int32))]))
  refine Go.step (fun _ k => XS.ifNo X_151.here hx rfl (hb hby d_jdk_42_method_150_code_19) rfl ((if0 _ _).trans (feq ((by decide) : ¬ ((1 : Int32) = (0 : Int32)))).1) k) ?_
  show Go p e below _ (T_151.setTop (mkF m 22 #[vR a1, vR b1, .val .null, vR t1, vI 16] []))
  refine Go.step (fun _ k => XS.aloadN X_151.here hx rfl (hb hby d_jdk_42_method_150_code_22) rfl rfl k) ?_
  refine Go.step (fun _ k => XS.iconst X_151.here hx rfl (hb hby d_jdk_42_method_150_code_23) k) ?_
  show Go p e below _ (T_151.setTop (mkF m 24 #[vR a1, vR b1, .val .null, vR t1, vI 16] [(.int (0 : Int32)), (.ref a1)]))
  obtain ⟨T_152, h_152, X_152, e_152, W_152, st_152⟩ := putFN X_151 hx hZ hown (wd_25 hw) Via.refl e_151 F_a1c E_a1 (Or.inr ⟨(wd_21 hw), rfl, hnm⟩) (wd_5 hw) (ty := .byte) (v' := (.int (0 : Int32))) pf_1 rfl (by decide) (g := (mkF m 24 #[vR a1, vR b1, .val .null, vR t1, vI 16] [(.int (0 : Int32)), (.ref a1)])) rfl rfl (hb hby d_jdk_42_method_150_code_24)
  refine Go.step st_152 ?_
  have N_152 := Fr.snoc X_152 N_151 g_a1
  have le_152 : h0.size ≤ h_152.size := Nat.le_of_eq W_152.size.symm
  have KP_152 := KP0.wr W_152 (Or.inl (List.mem_of_getElem? (i := 0) rfl))
  have O_152 := hO.wr W_152 g_a1
  have F_152 : Fld Z h_152 a1 "java/lang/String" "coder" "B" (.int (0 : Int32)) := F_a1c.same W_152
  show Go p e below _ (T_152.setTop (mkF m 27 #[vR a1, vR b1, .val .null, vR t1, vI 16] []))
  refine Go.step (fun _ k => XS.aloadN X_152.here hx rfl (hb hby d_jdk_42_method_150_code_27) rfl rfl k) ?_
  refine Go.step (fun _ k => XS.aloadN X_152.here hx rfl (hb hby d_jdk_42_method_150_code_28) rfl rfl k) ?_
  refine Go.step (fun _ k => XS.iconst X_152.here hx rfl (hb hby d_jdk_42_method_150_code_29) k) ?_
  refine Go.step (fun _ k => XS.iload X_152.here hx rfl (hb hby d_jdk_42_method_150_code_30) rfl  k) ?_
  show Go p e below _ (T_152.setTop (mkF m 32 #[vR a1, vR b1, .val .null, vR t1, vI 16] [(.int (16 : Int32)), (.int (0 : Int32)), (.ref t1), (.ref a1)]))
  have f153 : Exa Z h_152 t1 "[B" := (E_t1.wr W_152)
  have f154 : Exa Z h_152 a1 "java/lang/String" := (E_a1.wr W_152)
  have f155 : Arv Z h_152 t1 k1 .byte (16 : Int32) (bs.map Value.int) (.int (0 : Int32)) := (A_t1.other W_152 (ne_exa f153 f154 (by decide)))
  obtain ⟨v_156, T_156, L_156, X_156, hQ_156, st_156⟩ := goS X_152 hx hZ (y := Y_19) hown (wd_172 hw) (wd_173 hw) (wd_174 hw) (wd_175 hw) (by decide) (backOf (W := 1) (rm_crC l Z a0 hw zc vfm (t1) (k1) bs h_152 n0 (Nat.le_trans Z0 KP_152.1) f153 f155 hSt O_152) hZ (wd_175 hw) (wd_174 hw) (by decide) (by decide)) e_152 (g := (mkF m 32 #[vR a1, vR b1, .val .null, vR t1, vI 16] [(.int (16 : Int32)), (.int (0 : Int32)), (.ref t1), (.ref a1)])) rfl (by rw [hml]; rfl) (argsL := [(.ref t1), (.int (0 : Int32)), (.int (16 : Int32))]) (rest := [(.ref a1)]) rfl (lenOf pd_12 rfl) rfl (by show 2 * 0 + _ ≤ _; exact Nat.le_of_eq rfl) (hb hby d_jdk_42_method_150_code_32) (by decide) (by decide)
  obtain ⟨r_156, rfl, Nq_156, K_156, u0_156, u1_156⟩ := hQ_156
  have N_156 := Fr.app N_152 Nq_156
  have le_156 : h_152.size ≤ T_156.heap.size := K_156.1
  have KP_156 := KP_152.trans K_156 all0
  have O_156 := O_152.keep K_156 all0
  have sz_r_156 : h0.size ≤ r_156 := Nat.le_trans le_152 u0_156
  have g_r_156 : n0 ≤ r_156 := Nat.le_trans Z0 sz_r_156
  refine Go.step st_156 ?_
  show Go p e below _ (T_156.setTop (mkF m 35 #[vR a1, vR b1, .val .null, vR t1, vI 16] [(.ref r_156), (.ref a1)]))
  have f157 : Exa Z T_156.heap a1 "java/lang/String" := (f154.keep K_156)
  have f158 : Fld Z T_156.heap a1 "java/lang/String" "value" "[B" .null := ((F_a1v.other W_152 (Or.inr (sn_6 hw))).keep K_156 nin0)
  obtain ⟨T_159, h_159, X_159, e_159, W_159, st_159⟩ := putF X_156 hx hZ hown (host := "") (Or.inl (wd_24 hw)) Via.refl rfl f158 f157 (Or.inr ⟨(wd_20 hw), rfl, hnm⟩) (wd_5 hw) (ty := (.array .byte)) pf_0 rfl rfl (g := (mkF m 35 #[vR a1, vR b1, .val .null, vR t1, vI 16] [(.ref r_156), (.ref a1)])) rfl rfl (hb hby d_jdk_42_method_150_code_35)
  refine Go.step st_159 ?_
  have N_159 := Fr.snoc X_159 N_156 g_a1
  have le_159 : T_156.heap.size ≤ h_159.size := Nat.le_of_eq W_159.size.symm
  have KP_159 := KP_156.wr W_159 (Or.inl (List.mem_of_getElem? (i := 0) rfl))
  have O_159 := O_156.wr W_159 g_a1
  have F_159 : Fld Z h_159 a1 "java/lang/String" "value" "[B" (.ref r_156) := f158.same W_159
  show Go p e below _ (T_159.setTop (mkF m 38 #[vR a1, vR b1, .val .null, vR t1, vI 16] []))
  refine Go.step (fun _ k => XS.goto X_159.here hx rfl (pc0 := 38) (pc' := 97) rfl (hb hby d_jdk_42_method_150_code_38) (by decide) (by decide) k) ?_
  show Go p e below _ (T_159.setTop (mkF m 97 #[vR a1, vR b1, .val .null, vR t1, vI 16] []))
  have f160 : Arv Z h_159 r_156 k1 .byte (16 : Int32) (bs.map Value.int) (.int (0 : Int32)) := (u1_156.other W_159 (Ne.symm (Nat.ne_of_lt (Nat.lt_of_lt_of_le E_a1.lt (Nat.le_trans le_152 u0_156)))))
  have Ac161 : Arv Z h_159 r_156 k1 .byte (Int32.ofNat cs.length) ((cs.map fun c => c.toInt8.toInt32).map Value.int) (.int (0 : Int32)) := by
    have q := f160
    rw [show (16 : Int32) = (Int32.ofNat cs.length) from by rw [hbs.2]; rfl, show bs = (cs.map fun c => c.toInt8.toInt32) from by rw [← hp, hbs.2]; exact (List.take_of_length_le (by omega)).symm] at q
    exact q
  have f162 : Exa Z h_159 a1 "java/lang/String" := (f157.wr W_159)
  have f163 : Fld Z h_159 a1 "java/lang/String" "coder" "B" (.int (0 : Int32)) := ((F_152.keep K_156 nin0).other W_159 (Or.inr (sn_7 hw)))
  exact Go.ret0 X_159 hx hlk hret (hb hby d_jdk_42_method_150_code_97) (by decide) (by decide) (by rw [e_159]; exact ⟨r_156, k1, rfl, N_159, KP_159, f162, F_159, f163, Ac161⟩)
--@E
--@C si1C
def Q_si1C (Z : State) (zc : Int32) (vfm : Value) (a1 : Addr) (b1 : Addr) (t1 : Addr) (k1 : ClassId) (bs : List Int32) (cs : List Int32) (h0 : Heap) (n0 : Nat) (v : Option Value) (h : Heap) (L : List Loc) : Prop := ∃ (t : Addr) (kt : ClassId), v = none ∧ Fr n0 L ∧ Keep h0 h [a1] ∧ Exa Z h a1 "java/lang/String" ∧ Fld Z h a1 "java/lang/String" "value" "[B" (.ref t) ∧ Fld Z h a1 "java/lang/String" "coder" "B" (.int (0 : Int32)) ∧ Arv Z h t kt .byte (Int32.ofNat cs.length) ((cs.map fun c => c.toInt8.toInt32).map Value.int) (.int (0 : Int32))
set_option maxRecDepth 65536 in
set_option maxHeartbeats 40000000 in
theorem rm_si1C (l : Launch) (Z : State) (a0 : Array Value) (hw : ∀ d ∈ tables_1, d.before a0 Z = true) (zc : Int32) (vfm : Value) (a1 : Addr) (b1 : Addr) (t1 : Addr) (k1 : ClassId) (bs : List Int32) (cs : List Int32) (h0 : Heap) (n0 : Nat) (Z0 : n0 ≤ h0.size) (E_a1 : Exa Z h0 a1 "java/lang/String") (F_a1v : Fld Z h0 a1 "java/lang/String" "value" "[B" .null) (F_a1c : Fld Z h0 a1 "java/lang/String" "coder" "B" (.int (0 : Int32))) (g_a1 : n0 ≤ a1) (E_b1 : Exa Z h0 b1 "java/lang/StringBuilder") (F_b1v : Fld Z h0 b1 "java/lang/AbstractStringBuilder" "value" "[B" (.ref t1)) (F_b1c : Fld Z h0 b1 "java/lang/AbstractStringBuilder" "coder" "B" (.int (0 : Int32))) (F_b1n : Fld Z h0 b1 "java/lang/AbstractStringBuilder" "count" "I" (.int (Int32.ofNat cs.length))) (A_t1 : Arv Z h0 t1 k1 .byte (16 : Int32) (bs.map Value.int) (.int (0 : Int32))) (E_t1 : Exa Z h0 t1 "[B") (hbs : (bs.length = 16 ∧ cs.length = 16)) (hp : (bs.take cs.length = (cs.map fun c => c.toInt8.toInt32))) (hSt : St Z zc vfm) (hO : Old Z n0 h0) :
    CN l Z ({ cls := "java/lang/String", name := "<init>", desc := "(Ljava/lang/StringBuilder;)V" } : Jvm.MethodName) [(Jvm.Cond.code ({ cls := "java/lang/String", name := "<init>", desc := "(Ljava/lang/StringBuilder;)V" } : Jvm.MethodName) jdk_42_method_53_code (2 : Nat) (Option.none : Option Jvm.ClassFile.FieldType))] ({ frames := 3, cells := 1, slots := 16, locals := 45 } : Room) #[(.ref a1), (.ref b1)] h0 (Q_si1C Z zc vfm a1 b1 t1 k1 bs cs h0 n0) := by
  refine CN.of (L0 := #[vR a1, vR b1]) (plainFor_of_name pn_2) (fun m => by first | (simp [entryFrame, mkF, argsToLocals, Value.category]; done) | rfl) ?_
  intro p e s m below meth c s₁ hx hby hml hret hlk hZ hown hnm X0 e0
  have N0 := Fr.nil n0
  have KP0 := Keep.refl h0 [a1]
  have hSt_ := hSt
  obtain ⟨S_cs, n_cs, S_fm, r_fm⟩ := hSt_
  show Go p e below _ (s₁.setTop (mkF m 0 #[vR a1, vR b1] []))
  refine Go.step (fun _ k => XS.aloadN X0.here hx rfl (hb hby d_jdk_42_method_53_code_0) rfl rfl k) ?_
  refine Go.step (fun _ k => XS.aloadN X0.here hx rfl (hb hby d_jdk_42_method_53_code_1) rfl rfl k) ?_
  refine Go.step (fun _ k => XS.aconstNull X0.here hx rfl (hb hby d_jdk_42_method_53_code_2) k) ?_
  show Go p e below _ (s₁.setTop (mkF m 3 #[vR a1, vR b1] [.null, (.ref b1), (.ref a1)]))
  obtain ⟨v_164, T_164, L_164, X_164, hQ_164, st_164⟩ := goC X0 hx hZ (y := Y_20) hown rfl (wd_151 hw) (wd_152 hw) (wd_153 hw) (by decide) (backOf (W := 0) (rm_si2C l Z a0 hw zc vfm (a1) (b1) (t1) (k1) (bs) (cs) h0 n0 (Nat.le_trans Z0 KP0.1) E_a1 F_a1v F_a1c g_a1 E_b1 F_b1v F_b1c F_b1n A_t1 E_t1 hbs hp hSt hO) hZ (wd_153 hw) (wd_6 hw) (by decide) (by decide)) e0 (g := (mkF m 3 #[vR a1, vR b1] [.null, (.ref b1), (.ref a1)])) rfl (by rw [hml]; rfl) (a := a1) (argsL := [(.ref b1), .null]) (rest := []) rfl (lenOf pd_15 rfl) rfl (by show 2 * 0 + _ ≤ _; exact Nat.le_of_eq rfl) (hb hby d_jdk_42_method_53_code_3) (by decide) (by decide)
  obtain ⟨t_164, kt_164, rfl, Nq_164, K_164, u0_164, u1_164, u2_164, u3_164⟩ := hQ_164
  have N_164 := Fr.app N0 Nq_164
  have le_164 : h0.size ≤ T_164.heap.size := K_164.1
  have KP_164 := KP0.trans K_164 (allS (Or.inl (List.mem_of_getElem? (i := 0) rfl)) all0)
  have O_164 := hO.keep K_164 (allS g_a1 all0)
  refine Go.step st_164 ?_
  show Go p e below _ (T_164.setTop (mkF m 6 #[vR a1, vR b1] []))
  exact Go.ret0 X_164 hx hlk hret (hb hby d_jdk_42_method_53_code_6) (by decide) (by decide) (by exact ⟨t_164, kt_164, rfl, N_164, KP_164, u0_164, u1_164, u2_164, u3_164⟩)
--@E
--@C tsC
def Q_tsC (Z : State) (zc : Int32) (vfm : Value) (b1 : Addr) (t1 : Addr) (k1 : ClassId) (bs : List Int32) (cs : List Int32) (h0 : Heap) (n0 : Nat) (v : Option Value) (h : Heap) (L : List Loc) : Prop := ∃ (r : Addr), v = some (.ref r) ∧ Fr n0 L ∧ Keep h0 h [] ∧ h0.size ≤ r ∧ Str Z h.size h r cs
set_option maxRecDepth 65536 in
set_option maxHeartbeats 40000000 in
theorem rm_tsC (l : Launch) (Z : State) (a0 : Array Value) (hw : ∀ d ∈ tables_1, d.before a0 Z = true) (zc : Int32) (vfm : Value) (b1 : Addr) (t1 : Addr) (k1 : ClassId) (bs : List Int32) (cs : List Int32) (h0 : Heap) (n0 : Nat) (Z0 : n0 ≤ h0.size) (E_b1 : Exa Z h0 b1 "java/lang/StringBuilder") (F_b1v : Fld Z h0 b1 "java/lang/AbstractStringBuilder" "value" "[B" (.ref t1)) (F_b1c : Fld Z h0 b1 "java/lang/AbstractStringBuilder" "coder" "B" (.int (0 : Int32))) (F_b1n : Fld Z h0 b1 "java/lang/AbstractStringBuilder" "count" "I" (.int (Int32.ofNat cs.length))) (A_t1 : Arv Z h0 t1 k1 .byte (16 : Int32) (bs.map Value.int) (.int (0 : Int32))) (E_t1 : Exa Z h0 t1 "[B") (hbs : (bs.length = 16 ∧ cs.length = 16)) (hp : (bs.take cs.length = (cs.map fun c => c.toInt8.toInt32))) (hlat : (∀ c ∈ cs, ¬ c < 0 ∧ ¬ (255 : Int32) < c)) (hSt : St Z zc vfm) (hO : Old Z n0 h0) :
    CN l Z ({ cls := "java/lang/StringBuilder", name := "toString", desc := "()Ljava/lang/String;" } : Jvm.MethodName) [(Jvm.Cond.code ({ cls := "java/lang/StringBuilder", name := "toString", desc := "()Ljava/lang/String;" } : Jvm.MethodName) jdk_67_method_42_code (1 : Nat) (Option.some (Jvm.ClassFile.FieldType.object "java/lang/String")))] ({ frames := 4, cells := 2, slots := 20, locals := 59 } : Room) #[(.ref b1)] h0 (Q_tsC Z zc vfm b1 t1 k1 bs cs h0 n0) := by
  refine CN.of (L0 := #[vR b1]) (plainFor_of_name pn_1) (fun m => by first | (simp [entryFrame, mkF, argsToLocals, Value.category]; done) | rfl) ?_
  intro p e s m below meth c s₁ hx hby hml hret hlk hZ hown hnm X0 e0
  have N0 := Fr.nil n0
  have KP0 := Keep.refl h0 []
  have hSt_ := hSt
  obtain ⟨S_cs, n_cs, S_fm, r_fm⟩ := hSt_
  show Go p e below _ (s₁.setTop (mkF m 0 #[vR b1] []))
  obtain ⟨T_165, h_165, X_165, e_165, E_165, A_165, D_165, Un_165, st_165⟩ := newO X0 hx hZ hown (wd_147 hw) (wd_5 hw) (wd_6 hw) e0 (g := (mkF m 0 #[vR b1] [])) rfl (hb hby d_jdk_67_method_42_code_0) (by decide) (by decide)
  obtain ⟨b165, q_165⟩ : ∃ z, z = h0.size := ⟨_, rfl⟩
  rw [← q_165] at A_165 D_165 Un_165 st_165
  refine Go.step st_165 ?_
  have le_165 : h0.size ≤ h_165.size := E_165.1
  have KP_165 := KP0.ext E_165
  have O_165 := hO.ext E_165
  have ge_165 : h0.size ≤ b165 := Nat.le_of_eq q_165.symm
  have sz_b165 : h0.size ≤ b165 := Nat.le_trans (Nat.le_refl _) ge_165
  have g_b165 : n0 ≤ b165 := Nat.le_trans Z0 sz_b165
  have F_165_20 : Fld Z h_165 b165 "java/lang/String" "value" "[B" .null := D_165 (Or.inr (wd_20 hw)) (ty := (.array .byte)) pf_0
  have F_165_21 : Fld Z h_165 b165 "java/lang/String" "coder" "B" (.int (0 : Int32)) := D_165 (Or.inr (wd_21 hw)) (ty := .byte) pf_1
  show Go p e below _ (T_165.setTop (mkF m 3 #[vR b1] [(.ref b165)]))
  refine Go.step (fun _ k => XS.dup X_165.here hx rfl (hb hby d_jdk_67_method_42_code_3) rfl rfl k) ?_
  refine Go.step (fun _ k => XS.aloadN X_165.here hx rfl (hb hby d_jdk_67_method_42_code_4) rfl rfl k) ?_
  show Go p e below _ (T_165.setTop (mkF m 5 #[vR b1] [(.ref b1), (.ref b165), (.ref b165)]))
  have f166 : Exa Z h_165 b1 "java/lang/StringBuilder" := (E_b1.ext E_165)
  have f167 : Fld Z h_165 b1 "java/lang/AbstractStringBuilder" "value" "[B" (.ref t1) := (F_b1v.ext E_165)
  have f168 : Fld Z h_165 b1 "java/lang/AbstractStringBuilder" "coder" "B" (.int (0 : Int32)) := (F_b1c.ext E_165)
  have f169 : Fld Z h_165 b1 "java/lang/AbstractStringBuilder" "count" "I" (.int (Int32.ofNat cs.length)) := (F_b1n.ext E_165)
  have f170 : Arv Z h_165 t1 k1 .byte (16 : Int32) (bs.map Value.int) (.int (0 : Int32)) := (A_t1.ext E_165)
  have f171 : Exa Z h_165 t1 "[B" := (E_t1.ext E_165)
  obtain ⟨v_172, T_172, L_172, X_172, hQ_172, st_172⟩ := goC X_165 hx hZ (y := Y_21) hown rfl (wd_148 hw) (wd_149 hw) (wd_150 hw) (by decide) (backOf (W := 1) (rm_si1C l Z a0 hw zc vfm (b165) (b1) (t1) (k1) (bs) (cs) h_165 n0 (Nat.le_trans Z0 KP_165.1) A_165 F_165_20 F_165_21 g_b165 f166 f167 f168 f169 f170 f171 hbs hp hSt O_165) hZ (wd_150 hw) (wd_6 hw) (by decide) (by decide)) e_165 (g := (mkF m 5 #[vR b1] [(.ref b1), (.ref b165), (.ref b165)])) rfl (by rw [hml]; rfl) (a := b165) (argsL := [(.ref b1)]) (rest := [(.ref b165)]) rfl (lenOf pd_16 rfl) rfl (by show 2 * 0 + _ ≤ _; exact Nat.le_of_eq rfl) (hb hby d_jdk_67_method_42_code_5) (by decide) (by decide)
  obtain ⟨t_172, kt_172, rfl, Nq_172, K_172, u0_172, u1_172, u2_172, u3_172⟩ := hQ_172
  have N_172 := Fr.app N0 Nq_172
  have le_172 : h_165.size ≤ T_172.heap.size := K_172.1
  have KP_172 := KP_165.trans K_172 (allS (Or.inr sz_b165) all0)
  have O_172 := O_165.keep K_172 (allS g_b165 all0)
  refine Go.step st_172 ?_
  show Go p e below _ (T_172.setTop (mkF m 8 #[vR b1] [(.ref b165)]))
  have Sx173 : Str Z (T_172.heap).size (T_172.heap) b165 cs := ⟨t_172, kt_172, u0_172.lt, u3_172.lt, u0_172, u1_172, u2_172, u3_172, hlat, (by omega)⟩
  exact Go.retV X_172 hx hlk hret rfl (Or.inr (Or.inr (Or.inr (Or.inr ⟨rfl, rfl, rfl⟩)))) (hb hby d_jdk_67_method_42_code_8) (by decide) (by decide) (by exact ⟨b165, rfl, N_172, KP_172, sz_b165, Sx173⟩)
--@E
theorem drop3 {ps : List Int32} (h : 3 ≤ ps.length ∧ ps.length ≤ 40) : Int32.ofNat ps.length - (3 : Int32) = Int32.ofNat (ps.drop 3).length := by rw [List.length_drop]; exact ofn_sub (k := 3) (by omega) (by omega) h.1
theorem drop3a {ps : List Int32} (h : 3 ≤ ps.length ∧ ps.length ≤ 40) : (3 : Int32) + Int32.ofNat (ps.drop 3).length = Int32.ofNat (3 + (ps.drop 3).length) := ofn_add 3 _
theorem lat_drop {ps : List Int32} {k : Nat} (h : ∀ c ∈ ps, ¬ c < 0 ∧ ¬ (255 : Int32) < c) : ∀ c ∈ ps.drop k, ¬ c < 0 ∧ ¬ (255 : Int32) < c := fun c hc => h c (List.mem_of_mem_drop hc)
theorem lat_app {xs ys : List Int32} (h : ∀ c ∈ xs, ¬ c < 0 ∧ ¬ (255 : Int32) < c) (h2 : ∀ c ∈ ys, ¬ c < 0 ∧ ¬ (255 : Int32) < c) : ∀ c ∈ xs ++ ys, ¬ c < 0 ∧ ¬ (255 : Int32) < c := fun c hc => (List.mem_append.mp hc).elim (h c) (h2 c)
theorem drop_nil {ps : List Int32} (h : (Int32.ofNat (ps.drop 3).length) = 0) (h2 : ps.length ≤ 40) : ps.drop 3 = [] := by
  have e := ofn_inj (j := (ps.drop 3).length) (k := 0) (by rw [List.length_drop]; omega) (by omega) h
  exact List.length_eq_zero_iff.mp e
theorem mid_sub {ps : List Int32} : ((ps.map fun c => c.toInt8.toInt32).drop 3).take (ps.drop 3).length = (ps.drop 3).map fun c => c.toInt8.toInt32 := by
  rw [← List.map_drop]; exact List.take_of_length_le (by simp)
--@C cft
def Q_cft (Z : State) (zc : Int32) (vfm : Value) (n1 : Int32) (h0 : Heap) (n0 : Nat) (v : Option Value) (h : Heap) (L : List Loc) : Prop := v = some (.int (3 : Int32)) ∧ Fr n0 L ∧ h = h0
set_option maxRecDepth 65536 in
set_option maxHeartbeats 40000000 in
theorem rm_cft (l : Launch) (Z : State) (a0 : Array Value) (hw : ∀ d ∈ tables_1, d.before a0 Z = true) (zc : Int32) (vfm : Value) (n1 : Int32) (h0 : Heap) (n0 : Nat) (Z0 : n0 ≤ h0.size) (h3 : (¬ n1 < (3 : Int32))) (hSt : St Z zc vfm) (hO : Old Z n0 h0) :
    CN l Z ({ cls := "jdk/internal/util/Preconditions", name := "checkFromToIndex", desc := "(IIILjava/util/function/BiFunction;)I" } : Jvm.MethodName) [(Jvm.Cond.code ({ cls := "jdk/internal/util/Preconditions", name := "checkFromToIndex", desc := "(IIILjava/util/function/BiFunction;)I" } : Jvm.MethodName) jdk_41_method_12_code (4 : Nat) (Option.some Jvm.ClassFile.FieldType.int))] ({ frames := 0, cells := 0, slots := 0, locals := 0 } : Room) #[(.int (3 : Int32)), (.int n1), (.int n1), vfm] h0 (Q_cft Z zc vfm n1 h0 n0) := by
  refine CN.of (L0 := #[vI 3, vI n1, vI n1, .val vfm]) (plainFor_of_name pn_5) (fun m => by rcases ref_cases hSt.2.2.2 with rfl | ⟨_, rfl⟩ <;> first | (simp [entryFrame, mkF, argsToLocals, Value.category]; done) | rfl) ?_
  intro p e s m below meth c s₁ hx hby hml hret hlk hZ hown hnm X0 e0
  have N0 := Fr.nil n0
  have KP0 := Keep.refl h0 []
  have hSt_ := hSt
  obtain ⟨S_cs, n_cs, S_fm, r_fm⟩ := hSt_
  show Go p e below _ (s₁.setTop (mkF m 0 #[vI 3, vI n1, vI n1, .val vfm] []))
  refine Go.step (fun _ k => XS.iloadN X0.here hx rfl (hb hby d_jdk_41_method_12_code_0) rfl  k) ?_
  show Go p e below _ (s₁.setTop (mkF m 1 #[vI 3, vI n1, vI n1, .val vfm] [(.int (3 : Int32))]))
  refine Go.step (fun _ k => XS.ifNo X0.here hx rfl (hb hby d_jdk_41_method_12_code_1) rfl ((if0 _ _).trans (flt ((by decide) : ¬ ((3 : Int32) < (0 : Int32)))).1) k) ?_
  show Go p e below _ (s₁.setTop (mkF m 4 #[vI 3, vI n1, vI n1, .val vfm] []))
  refine Go.step (fun _ k => XS.iloadN X0.here hx rfl (hb hby d_jdk_41_method_12_code_4) rfl  k) ?_
  refine Go.step (fun _ k => XS.iloadN X0.here hx rfl (hb hby d_jdk_41_method_12_code_5) rfl  k) ?_
  show Go p e below _ (s₁.setTop (mkF m 6 #[vI 3, vI n1, vI n1, .val vfm] [(.int n1), (.int (3 : Int32))]))
  refine Go.step (fun _ k => XS.icmpNo X0.here hx rfl (hb hby d_jdk_41_method_12_code_6) rfl (flt (h3 : ¬ (n1 < (3 : Int32)))).2.2.1 k) ?_
  show Go p e below _ (s₁.setTop (mkF m 9 #[vI 3, vI n1, vI n1, .val vfm] []))
  refine Go.step (fun _ k => XS.iloadN X0.here hx rfl (hb hby d_jdk_41_method_12_code_9) rfl  k) ?_
  refine Go.step (fun _ k => XS.iloadN X0.here hx rfl (hb hby d_jdk_41_method_12_code_10) rfl  k) ?_
  show Go p e below _ (s₁.setTop (mkF m 11 #[vI 3, vI n1, vI n1, .val vfm] [(.int n1), (.int n1)]))
  refine Go.step (fun _ k => XS.icmpYes X0.here hx rfl (pc0 := 11) (pc' := 22) rfl (hb hby d_jdk_41_method_12_code_11) rfl (flt ((fun q => absurd (Int32.lt_iff_toInt_lt.mp q) (Int.lt_irrefl _)) : ¬ (n1 < n1))).2.2.2 (by decide) (by decide) k) ?_
  show Go p e below _ (s₁.setTop (mkF m 22 #[vI 3, vI n1, vI n1, .val vfm] []))
  refine Go.step (fun _ k => XS.iloadN X0.here hx rfl (hb hby d_jdk_41_method_12_code_22) rfl  k) ?_
  show Go p e below _ (s₁.setTop (mkF m 23 #[vI 3, vI n1, vI n1, .val vfm] [(.int (3 : Int32))]))
  exact Go.retV X0 hx hlk hret rfl (Or.inl ⟨rfl, Or.inl rfl, _, rfl⟩) (hb hby d_jdk_41_method_12_code_23) (by decide) (by decide) (by rw [e0]; exact ⟨rfl, N0, rfl⟩)
--@E
--@C cbb
def Q_cbb (Z : State) (zc : Int32) (vfm : Value) (n1 : Int32) (h0 : Heap) (n0 : Nat) (v : Option Value) (h : Heap) (L : List Loc) : Prop := v = none ∧ Fr n0 L ∧ h = h0
set_option maxRecDepth 65536 in
set_option maxHeartbeats 40000000 in
theorem rm_cbb (l : Launch) (Z : State) (a0 : Array Value) (hw : ∀ d ∈ tables_1, d.before a0 Z = true) (zc : Int32) (vfm : Value) (n1 : Int32) (h0 : Heap) (n0 : Nat) (Z0 : n0 ≤ h0.size) (h3 : (¬ n1 < (3 : Int32))) (hSt : St Z zc vfm) (hO : Old Z n0 h0) :
    CN l Z ({ cls := "java/lang/String", name := "checkBoundsBeginEnd", desc := "(III)V" } : Jvm.MethodName) [(Jvm.Cond.code ({ cls := "java/lang/String", name := "checkBoundsBeginEnd", desc := "(III)V" } : Jvm.MethodName) jdk_42_method_158_code (3 : Nat) (Option.none : Option Jvm.ClassFile.FieldType))] ({ frames := 1, cells := 0, slots := 0, locals := 15 } : Room) #[(.int (3 : Int32)), (.int n1), (.int n1)] h0 (Q_cbb Z zc vfm n1 h0 n0) := by
  refine CN.of (L0 := #[vI 3, vI n1, vI n1]) (plainFor_of_name pn_2) (fun m => by first | (simp [entryFrame, mkF, argsToLocals, Value.category]; done) | rfl) ?_
  intro p e s m below meth c s₁ hx hby hml hret hlk hZ hown hnm X0 e0
  have N0 := Fr.nil n0
  have KP0 := Keep.refl h0 []
  have hSt_ := hSt
  obtain ⟨S_cs, n_cs, S_fm, r_fm⟩ := hSt_
  have h_vfm := r_fm
  show Go p e below _ (s₁.setTop (mkF m 0 #[vI 3, vI n1, vI n1] []))
  refine Go.step (fun _ k => XS.iloadN X0.here hx rfl (hb hby d_jdk_42_method_158_code_0) rfl  k) ?_
  refine Go.step (fun _ k => XS.iloadN X0.here hx rfl (hb hby d_jdk_42_method_158_code_1) rfl  k) ?_
  refine Go.step (fun _ k => XS.iloadN X0.here hx rfl (hb hby d_jdk_42_method_158_code_2) rfl  k) ?_
  show Go p e below _ (s₁.setTop (mkF m 3 #[vI 3, vI n1, vI n1] [(.int n1), (.int n1), (.int (3 : Int32))]))
  obtain ⟨T_174, X_174, e_174, st_174⟩ := getS2 X0 hx hZ hown (host := "") (Or.inl (wd_127 hw)) Via.refl e0 (S_fm.ext hO.2) (g := (mkF m 3 #[vI 3, vI n1, vI n1] [(.int n1), (.int n1), (.int (3 : Int32))])) rfl (hb hby d_jdk_42_method_158_code_3)
  refine Go.step st_174 ?_
  show Go p e below _ (T_174.setTop (mkF m 6 #[vI 3, vI n1, vI n1] [vfm, (.int n1), (.int n1), (.int (3 : Int32))]))
  obtain ⟨v_175, T_175, L_175, X_175, hQ_175, st_175⟩ := goS X_174 hx hZ (y := Y_22) hown (wd_129 hw) (wd_130 hw) (wd_128 hw) (wd_131 hw) (by decide) (backOf (W := 0) (rm_cft l Z a0 hw zc (vfm) (n1) h0 n0 (Nat.le_trans Z0 KP0.1) h3 hSt hO) hZ (wd_131 hw) (wd_128 hw) (by decide) (by decide)) e_174 (g := (mkF m 6 #[vI 3, vI n1, vI n1] [vfm, (.int n1), (.int n1), (.int (3 : Int32))])) rfl (by rw [hml]; rfl) (argsL := [(.int (3 : Int32)), (.int n1), (.int n1), vfm]) (rest := []) rfl (lenOf pd_17 rfl) rfl (by show 2 * 0 + _ ≤ _; exact Nat.le_of_eq rfl) (hb hby d_jdk_42_method_158_code_6) (by decide) (by decide)
  obtain ⟨rfl, Nq_175, e_175⟩ := hQ_175
  have N_175 := Fr.app N0 Nq_175
  refine Go.step st_175 ?_
  show Go p e below _ (T_175.setTop (mkF m 9 #[vI 3, vI n1, vI n1] [(.int (3 : Int32))]))
  refine Go.step (fun _ k => XS.pop X_175.here hx rfl (hb hby d_jdk_42_method_158_code_9) rfl rfl k) ?_
  show Go p e below _ (T_175.setTop (mkF m 10 #[vI 3, vI n1, vI n1] []))
  exact Go.ret0 X_175 hx hlk hret (hb hby d_jdk_42_method_158_code_10) (by decide) (by decide) (by rw [e_175]; exact ⟨rfl, N_175, rfl⟩)
--@E
--@C isl
def Q_isl (Z : State) (zc : Int32) (vfm : Value) (a1 : Addr) (h0 : Heap) (n0 : Nat) (v : Option Value) (h : Heap) (L : List Loc) : Prop := v = some (.int (1 : Int32)) ∧ Fr n0 L ∧ h = h0
set_option maxRecDepth 65536 in
set_option maxHeartbeats 40000000 in
theorem rm_isl (l : Launch) (Z : State) (a0 : Array Value) (hw : ∀ d ∈ tables_1, d.before a0 Z = true) (zc : Int32) (vfm : Value) (a1 : Addr) (h0 : Heap) (n0 : Nat) (Z0 : n0 ≤ h0.size) (F_c : Fld Z h0 a1 "java/lang/String" "coder" "B" (.int (0 : Int32))) (hSt : St Z zc vfm) (hO : Old Z n0 h0) :
    CN l Z ({ cls := "java/lang/String", name := "isLatin1", desc := "()Z" } : Jvm.MethodName) [(Jvm.Cond.code ({ cls := "java/lang/String", name := "isLatin1", desc := "()Z" } : Jvm.MethodName) jdk_42_method_154_code (1 : Nat) (Option.some Jvm.ClassFile.FieldType.boolean))] ({ frames := 0, cells := 0, slots := 0, locals := 0 } : Room) #[(.ref a1)] h0 (Q_isl Z zc vfm a1 h0 n0) := by
  refine CN.of (L0 := #[vR a1]) (plainFor_of_name pn_2) (fun m => by first | (simp [entryFrame, mkF, argsToLocals, Value.category]; done) | rfl) ?_
  intro p e s m below meth c s₁ hx hby hml hret hlk hZ hown hnm X0 e0
  have N0 := Fr.nil n0
  have KP0 := Keep.refl h0 []
  have hSt_ := hSt
  obtain ⟨S_cs, n_cs, S_fm, r_fm⟩ := hSt_
  show Go p e below _ (s₁.setTop (mkF m 0 #[vR a1] []))
  obtain ⟨T_176, X_176, e_176, st_176⟩ := getS2 X0 hx hZ hown (host := "") (Or.inl (wd_29 hw)) Via.refl e0 (S_cs.ext hO.2) (g := (mkF m 0 #[vR a1] [])) rfl (hb hby d_jdk_42_method_154_code_0)
  refine Go.step st_176 ?_
  show Go p e below _ (T_176.setTop (mkF m 3 #[vR a1] [(.int zc)]))
  refine Go.step (fun _ k => XS.ifNo X_176.here hx rfl (hb hby d_jdk_42_method_154_code_3) rfl ((if0 _ _).trans (feq (n_cs : ¬ (zc = (0 : Int32)))).1) k) ?_
  show Go p e below _ (T_176.setTop (mkF m 6 #[vR a1] []))
  refine Go.step (fun _ k => XS.aloadN X_176.here hx rfl (hb hby d_jdk_42_method_154_code_6) rfl rfl k) ?_
  show Go p e below _ (T_176.setTop (mkF m 7 #[vR a1] [(.ref a1)]))
  obtain ⟨T_177, X_177, e_177, st_177⟩ := getF X_176 hx hZ hown (host := "") (Or.inl (wd_25 hw)) Via.refl e_176 F_c (g := (mkF m 7 #[vR a1] [(.ref a1)])) rfl rfl (hb hby d_jdk_42_method_154_code_7)
  refine Go.step st_177 ?_
  show Go p e below _ (T_177.setTop (mkF m 10 #[vR a1] [(.int (0 : Int32))]))
  refine Go.step (fun _ k => XS.ifNo X_177.here hx rfl (hb hby d_jdk_42_method_154_code_10) rfl ((if0 _ _).trans (teq ((by decide) : (0 : Int32) = (0 : Int32))).2) k) ?_
  show Go p e below _ (T_177.setTop (mkF m 13 #[vR a1] []))
  refine Go.step (fun _ k => XS.iconst X_177.here hx rfl (hb hby d_jdk_42_method_154_code_13) k) ?_
  show Go p e below _ (T_177.setTop (mkF m 14 #[vR a1] [(.int (1 : Int32))]))
  refine Go.step (fun _ k => XS.goto X_177.here hx rfl (pc0 := 14) (pc' := 18) rfl (hb hby d_jdk_42_method_154_code_14) (by decide) (by decide) k) ?_
  show Go p e below _ (T_177.setTop (mkF m 18 #[vR a1] [(.int (1 : Int32))]))
  exact Go.retV X_177 hx hlk hret rfl (Or.inl ⟨rfl, Or.inr (Or.inl rfl), _, rfl⟩) (hb hby d_jdk_42_method_154_code_18) (by decide) (by decide) (by rw [e_177]; exact ⟨rfl, N0, rfl⟩)
--@E
--@C initBB
def Q_initBB (Z : State) (zc : Int32) (vfm : Value) (a1 : Addr) (a2 : Addr) (h0 : Heap) (n0 : Nat) (v : Option Value) (h : Heap) (L : List Loc) : Prop := v = none ∧ Fr n0 L ∧ Keep h0 h [a1] ∧ Exa Z h a1 "java/lang/String" ∧ Fld Z h a1 "java/lang/String" "value" "[B" (.ref a2) ∧ Fld Z h a1 "java/lang/String" "coder" "B" (.int (0 : Int32))
set_option maxRecDepth 65536 in
set_option maxHeartbeats 40000000 in
theorem rm_initBB (l : Launch) (Z : State) (a0 : Array Value) (hw : ∀ d ∈ tables_1, d.before a0 Z = true) (zc : Int32) (vfm : Value) (a1 : Addr) (a2 : Addr) (h0 : Heap) (n0 : Nat) (Z0 : n0 ≤ h0.size) (E_a1 : Exa Z h0 a1 "java/lang/String") (F_a1v : Fld Z h0 a1 "java/lang/String" "value" "[B" .null) (F_a1c : Fld Z h0 a1 "java/lang/String" "coder" "B" (.int (0 : Int32))) (g_a1 : n0 ≤ a1) (hSt : St Z zc vfm) (hO : Old Z n0 h0) :
    CN l Z ({ cls := "java/lang/String", name := "<init>", desc := "([BB)V" } : Jvm.MethodName) [(Jvm.Cond.code ({ cls := "java/lang/String", name := "<init>", desc := "([BB)V" } : Jvm.MethodName) jdk_42_method_151_code (3 : Nat) (Option.none : Option Jvm.ClassFile.FieldType))] ({ frames := 1, cells := 0, slots := 0, locals := 12 } : Room) #[(.ref a1), (.ref a2), (.int (0 : Int32))] h0 (Q_initBB Z zc vfm a1 a2 h0 n0) := by
  refine CN.of (L0 := #[vR a1, vR a2, vI 0]) (plainFor_of_name pn_2) (fun m => by first | (simp [entryFrame, mkF, argsToLocals, Value.category]; done) | rfl) ?_
  intro p e s m below meth c s₁ hx hby hml hret hlk hZ hown hnm X0 e0
  have N0 := Fr.nil n0
  have KP0 := Keep.refl h0 [a1]
  have hSt_ := hSt
  obtain ⟨S_cs, n_cs, S_fm, r_fm⟩ := hSt_
  show Go p e below _ (s₁.setTop (mkF m 0 #[vR a1, vR a2, vI 0] []))
  refine Go.step (fun _ k => XS.aloadN X0.here hx rfl (hb hby d_jdk_42_method_151_code_0) rfl rfl k) ?_
  show Go p e below _ (s₁.setTop (mkF m 1 #[vR a1, vR a2, vI 0] [(.ref a1)]))
  obtain ⟨T_178, X_178, e_178, st_178⟩ := initO X0 hx hZ hown (wd_15 hw) (wd_16 hw) (wd_17 hw) e0 (g := (mkF m 1 #[vR a1, vR a2, vI 0] [(.ref a1)])) rfl (by rw [hml]; rfl) rfl (hb hby d_jdk_42_method_151_code_1) (by decide) (W := 0) (by show 2 * 0 + _ ≤ _; exact Nat.le_of_eq rfl) (by decide)
  refine Go.step st_178 ?_
  show Go p e below _ (T_178.setTop (mkF m 4 #[vR a1, vR a2, vI 0] []))
  refine Go.step (fun _ k => XS.aloadN X_178.here hx rfl (hb hby d_jdk_42_method_151_code_4) rfl rfl k) ?_
  refine Go.step (fun _ k => XS.aloadN X_178.here hx rfl (hb hby d_jdk_42_method_151_code_5) rfl rfl k) ?_
  show Go p e below _ (T_178.setTop (mkF m 6 #[vR a1, vR a2, vI 0] [(.ref a2), (.ref a1)]))
  obtain ⟨T_179, h_179, X_179, e_179, W_179, st_179⟩ := putF X_178 hx hZ hown (host := "") (Or.inl (wd_24 hw)) Via.refl e_178 F_a1v E_a1 (Or.inr ⟨(wd_20 hw), rfl, hnm⟩) (wd_5 hw) (ty := (.array .byte)) pf_0 rfl rfl (g := (mkF m 6 #[vR a1, vR a2, vI 0] [(.ref a2), (.ref a1)])) rfl rfl (hb hby d_jdk_42_method_151_code_6)
  refine Go.step st_179 ?_
  have N_179 := Fr.snoc X_179 N0 g_a1
  have le_179 : h0.size ≤ h_179.size := Nat.le_of_eq W_179.size.symm
  have KP_179 := KP0.wr W_179 (Or.inl (List.mem_of_getElem? (i := 0) rfl))
  have O_179 := hO.wr W_179 g_a1
  have F_179 : Fld Z h_179 a1 "java/lang/String" "value" "[B" (.ref a2) := F_a1v.same W_179
  show Go p e below _ (T_179.setTop (mkF m 9 #[vR a1, vR a2, vI 0] []))
  refine Go.step (fun _ k => XS.aloadN X_179.here hx rfl (hb hby d_jdk_42_method_151_code_9) rfl rfl k) ?_
  refine Go.step (fun _ k => XS.iloadN X_179.here hx rfl (hb hby d_jdk_42_method_151_code_10) rfl  k) ?_
  show Go p e below _ (T_179.setTop (mkF m 11 #[vR a1, vR a2, vI 0] [(.int (0 : Int32)), (.ref a1)]))
  have f180 : Exa Z h_179 a1 "java/lang/String" := (E_a1.wr W_179)
  have f181 : Fld Z h_179 a1 "java/lang/String" "coder" "B" (.int (0 : Int32)) := (F_a1c.other W_179 (Or.inr (sn_7 hw)))
  obtain ⟨T_182, h_182, X_182, e_182, W_182, st_182⟩ := putFN X_179 hx hZ hown (wd_25 hw) Via.refl e_179 f181 f180 (Or.inr ⟨(wd_21 hw), rfl, hnm⟩) (wd_5 hw) (ty := .byte) (v' := (.int (0 : Int32))) pf_1 rfl (by decide) (g := (mkF m 11 #[vR a1, vR a2, vI 0] [(.int (0 : Int32)), (.ref a1)])) rfl rfl (hb hby d_jdk_42_method_151_code_11)
  refine Go.step st_182 ?_
  have N_182 := Fr.snoc X_182 N_179 g_a1
  have le_182 : h_179.size ≤ h_182.size := Nat.le_of_eq W_182.size.symm
  have KP_182 := KP_179.wr W_182 (Or.inl (List.mem_of_getElem? (i := 0) rfl))
  have O_182 := O_179.wr W_182 g_a1
  have F_182 : Fld Z h_182 a1 "java/lang/String" "coder" "B" (.int (0 : Int32)) := f181.same W_182
  show Go p e below _ (T_182.setTop (mkF m 14 #[vR a1, vR a2, vI 0] []))
  have f183 : Exa Z h_182 a1 "java/lang/String" := (f180.wr W_182)
  have f184 : Fld Z h_182 a1 "java/lang/String" "value" "[B" (.ref a2) := (F_179.other W_182 (Or.inr (sn_6 hw)))
  exact Go.ret0 X_182 hx hlk hret (hb hby d_jdk_42_method_151_code_14) (by decide) (by decide) (by rw [e_182]; exact ⟨rfl, N_182, KP_182, f183, f184, F_182⟩)
--@E
--@C nst
def Q_nst (Z : State) (zc : Int32) (vfm : Value) (t1 : Addr) (k1 : ClassId) (ps : List Int32) (h0 : Heap) (n0 : Nat) (v : Option Value) (h : Heap) (L : List Loc) : Prop := ∃ (r : Addr), v = some (.ref r) ∧ Fr n0 L ∧ Keep h0 h [] ∧ Str Z h.size h r (ps.drop 3)
set_option maxRecDepth 65536 in
set_option maxHeartbeats 40000000 in
theorem rm_nst (l : Launch) (Z : State) (a0 : Array Value) (hw : ∀ d ∈ tables_1, d.before a0 Z = true) (zc : Int32) (vfm : Value) (t1 : Addr) (k1 : ClassId) (ps : List Int32) (h0 : Heap) (n0 : Nat) (Z0 : n0 ≤ h0.size) (A_t1 : Arv Z h0 t1 k1 .byte (Int32.ofNat ps.length) ((ps.map fun c => c.toInt8.toInt32).map Value.int) (.int (0 : Int32))) (hps : (3 ≤ ps.length ∧ ps.length ≤ 40)) (hlat : (∀ c ∈ ps, ¬ c < 0 ∧ ¬ (255 : Int32) < c)) (hSt : St Z zc vfm) (hO : Old Z n0 h0) :
    CW l Z EL ({ cls := "java/lang/StringLatin1", name := "newString", desc := "([BII)Ljava/lang/String;" } : Jvm.MethodName) [(Jvm.Cond.code ({ cls := "java/lang/StringLatin1", name := "newString", desc := "([BII)Ljava/lang/String;" } : Jvm.MethodName) jdk_43_method_47_code (3 : Nat) (Option.some (Jvm.ClassFile.FieldType.object "java/lang/String")))] ({ frames := 3, cells := 2, slots := 44, locals := 50 } : Room) #[(.ref t1), (.int (3 : Int32)), (.int (Int32.ofNat (ps.drop 3).length))] h0 (Q_nst Z zc vfm t1 k1 ps h0 n0) := by
  refine CW.of (L0 := #[vR t1, vI 3, vI (Int32.ofNat (ps.drop 3).length)]) (plainFor_of_name pn_6) (fun m => by first | (simp [entryFrame, mkF, argsToLocals, Value.category]; done) | rfl) ?_
  intro p e s m below meth c s₁ hx hby hml hret hlk hZ hown hnm X0 e0 hS0 hk0 CV0 hh0
  have hEL := hEL_ (a0 := a0) hw
  have hwS := hwS_ hw
  have N0 := Fr.nil n0
  have KP0 := Keep.refl h0 []
  have hSt_ := hSt
  obtain ⟨S_cs, n_cs, S_fm, r_fm⟩ := hSt_
  show Go p e below _ (s₁.setTop (mkF m 0 #[vR t1, vI 3, vI (Int32.ofNat (ps.drop 3).length)] []))
  refine Go.step (fun _ k => XS.iloadN X0.here hx rfl (hb hby d_jdk_43_method_47_code_0) rfl  k) ?_
  show Go p e below _ (s₁.setTop (mkF m 1 #[vR t1, vI 3, vI (Int32.ofNat (ps.drop 3).length)] [(.int (Int32.ofNat (ps.drop 3).length))]))
  by_cases u0 : (Int32.ofNat (ps.drop 3).length) = (0 : Int32)
  · skip
    refine Go.step (fun _ k => XS.ifNo X0.here hx rfl (hb hby d_jdk_43_method_47_code_1) rfl ((if0 _ _).trans (teq u0).2) k) ?_
    show Go p e below _ (s₁.setTop (mkF m 4 #[vR t1, vI 3, vI (Int32.ofNat (ps.drop 3).length)] []))
    obtain ⟨a_185, T_185, h_185, k1_185, t_185, kb_185, X_185, e_185, E_185, hS_185, hk_185, hZ_185, hown_185, Ex_185, Fc_185, Fv_185, Av_185, lta_185, ltb_185, C_185, Lt_185, -, st_185⟩ := ldcCH X0 hx hZ hown (wd_141 hw) hwS e0 hS0 hk0 hEL (by decide) CV0 (vs := []) (z := (0 : Int32)) ⟨by decide, by decide⟩ (by decide) (by decide) (g := (mkF m 4 #[vR t1, vI 3, vI (Int32.ofNat (ps.drop 3).length)] [])) rfl (hb hby d_jdk_43_method_47_code_4) (n := 0) (by decide) (by decide) (by decide) (by decide)
    refine Go.step st_185 ?_
    have CR_185 := CHr.trans (CHr.refl CV0) C_185
    have le_185 : h0.size ≤ h_185.size := E_185.1
    have KP_185 := KP0.ext E_185
    have O_185 := hO.ext E_185
    have Sx_185 : Str Z h_185.size h_185 a_185 ([] : List Int32) := ⟨t_185, kb_185, lta_185, ltb_185, Ex_185, Fv_185, Fc_185, Av_185, by decide, by decide⟩
    show Go p e below _ (T_185.setTop (mkF m 6 #[vR t1, vI 3, vI (Int32.ofNat (ps.drop 3).length)] [(.ref a_185)]))
    exact Go.retVW X_185 e_185 hS_185 hk_185 hZ_185 hEL hh0 CR_185 hx hlk hret rfl (Or.inr (Or.inr (Or.inr (Or.inr ⟨rfl, rfl, rfl⟩)))) (hb hby d_jdk_43_method_47_code_6) (by decide) (by decide) (by rw [e_185]; exact ⟨a_185, rfl, N0, KP_185, (by rw [drop_nil u0 hps.2]; exact Sx_185)⟩)
  · skip
    refine Go.step (fun _ k => XS.ifYes X0.here hx rfl (pc0 := 1) (pc' := 7) rfl (hb hby d_jdk_43_method_47_code_1) rfl ((if0 _ _).trans (feq u0).2) (by decide) (by decide) k) ?_
    show Go p e below _ (s₁.setTop (mkF m 7 #[vR t1, vI 3, vI (Int32.ofNat (ps.drop 3).length)] []))
    obtain ⟨T_186, h_186, X_186, e_186, E_186, A_186, D_186, Un_186, st_186⟩ := newO X0 hx hZ hown (wd_202 hw) (wd_5 hw) (wd_6 hw) e0 (g := (mkF m 7 #[vR t1, vI 3, vI (Int32.ofNat (ps.drop 3).length)] [])) rfl (hb hby d_jdk_43_method_47_code_7) (by decide) (by decide)
    obtain ⟨b186, q_186⟩ : ∃ z, z = h0.size := ⟨_, rfl⟩
    rw [← q_186] at A_186 D_186 Un_186 st_186
    refine Go.step st_186 ?_
    have C_186 := CHr.ext E_186 CV0
    have CR_186 := CHr.trans (CHr.refl CV0) C_186
    have le_186 : h0.size ≤ h_186.size := E_186.1
    have KP_186 := KP0.ext E_186
    have O_186 := hO.ext E_186
    have ge_186 : h0.size ≤ b186 := Nat.le_of_eq q_186.symm
    have sz_b186 : h0.size ≤ b186 := Nat.le_trans (Nat.le_refl _) ge_186
    have g_b186 : n0 ≤ b186 := Nat.le_trans Z0 sz_b186
    have F_186_20 : Fld Z h_186 b186 "java/lang/String" "value" "[B" .null := D_186 (Or.inr (wd_20 hw)) (ty := (.array .byte)) pf_0
    have F_186_21 : Fld Z h_186 b186 "java/lang/String" "coder" "B" (.int (0 : Int32)) := D_186 (Or.inr (wd_21 hw)) (ty := .byte) pf_1
    have Sf_b186 := Safe.ext E_186 CV0 (Safe.new ge_186)
    show Go p e below _ (T_186.setTop (mkF m 10 #[vR t1, vI 3, vI (Int32.ofNat (ps.drop 3).length)] [(.ref b186)]))
    refine Go.step (fun _ k => XS.dup X_186.here hx rfl (hb hby d_jdk_43_method_47_code_10) rfl rfl k) ?_
    refine Go.step (fun _ k => XS.aloadN X_186.here hx rfl (hb hby d_jdk_43_method_47_code_11) rfl rfl k) ?_
    refine Go.step (fun _ k => XS.iloadN X_186.here hx rfl (hb hby d_jdk_43_method_47_code_12) rfl  k) ?_
    refine Go.step (fun _ k => XS.iloadN X_186.here hx rfl (hb hby d_jdk_43_method_47_code_13) rfl  k) ?_
    refine Go.step (fun _ k => XS.iloadN X_186.here hx rfl (hb hby d_jdk_43_method_47_code_14) rfl  k) ?_
    show Go p e below _ (T_186.setTop (mkF m 15 #[vR t1, vI 3, vI (Int32.ofNat (ps.drop 3).length)] [(.int (Int32.ofNat (ps.drop 3).length)), (.int (3 : Int32)), (.int (3 : Int32)), (.ref t1), (.ref b186), (.ref b186)]))
    refine Go.step (fun _ k => XS.iadd X_186.here hx rfl (hb hby d_jdk_43_method_47_code_15) rfl k) ?_
    show Go p e below _ (T_186.setTop (mkF m 16 #[vR t1, vI 3, vI (Int32.ofNat (ps.drop 3).length)] [(.int ((3 : Int32) + (Int32.ofNat (ps.drop 3).length))), (.int (3 : Int32)), (.ref t1), (.ref b186), (.ref b186)]))
    refine own_top (congrArg Value.int (show ((3 : Int32) + (Int32.ofNat (ps.drop 3).length)) = (Int32.ofNat (3 + (ps.drop 3).length)) from drop3a hps)) ?_
    show Go p e below _ (T_186.setTop (mkF m 16 #[vR t1, vI 3, vI (Int32.ofNat (ps.drop 3).length)] [(.int (Int32.ofNat (3 + (ps.drop 3).length))), (.int (3 : Int32)), (.ref t1), (.ref b186), (.ref b186)]))
    have f187 : Arv Z h_186 t1 k1 .byte (Int32.ofNat ps.length) ((ps.map fun c => c.toInt8.toInt32).map Value.int) (.int (0 : Int32)) := (A_t1.ext E_186)
    obtain ⟨v_188, T_188, L_188, X_188, hQ_188, st_188⟩ := goS X_186 hx hZ (y := Y_19) hown (wd_203 hw) (wd_173 hw) (wd_174 hw) (wd_175 hw) (by decide) (backOf (W := 2) (rm_crN l Z a0 hw zc vfm (t1) (k1) ((Int32.ofNat ps.length)) ((ps.map fun c => c.toInt8.toInt32)) (3) ((ps.drop 3).length) h_186 n0 (Nat.le_trans Z0 KP_186.1) f187 (by rw [List.length_map]) (by rw [List.length_map]; omega) (by rw [List.length_map, List.length_drop]; omega) (fun q => absurd q (by decide)) hSt O_186) hZ (wd_175 hw) (wd_174 hw) (by decide) (by decide)) e_186 (g := (mkF m 16 #[vR t1, vI 3, vI (Int32.ofNat (ps.drop 3).length)] [(.int (Int32.ofNat (3 + (ps.drop 3).length))), (.int (3 : Int32)), (.ref t1), (.ref b186), (.ref b186)])) rfl (by rw [hml]; rfl) (argsL := [(.ref t1), (.int (3 : Int32)), (.int (Int32.ofNat (3 + (ps.drop 3).length)))]) (rest := [(.ref b186), (.ref b186)]) rfl (lenOf pd_12 rfl) rfl (by show 2 * 0 + _ ≤ _; exact Nat.le_of_eq rfl) (hb hby d_jdk_43_method_47_code_16) (by decide) (by decide)
    obtain ⟨r_188, kr_188, rfl, Nq_188, K_188, u0_188, u1_188⟩ := hQ_188
    have N_188 := Fr.app N0 Nq_188
    have C_188 := CHr.keep K_188 sf0 C_186.1
    have CR_188 := CHr.trans CR_186 C_188
    have le_188 : h_186.size ≤ T_188.heap.size := K_188.1
    have KP_188 := KP_186.trans K_188 all0
    have O_188 := O_186.keep K_188 all0
    have sz_r_188 : h0.size ≤ r_188 := Nat.le_trans le_186 u0_188
    have g_r_188 : n0 ≤ r_188 := Nat.le_trans Z0 sz_r_188
    have Sf_r_188 := Safe.keep K_188 sf0 C_186.1 (Safe.new u0_188)
    refine Go.step st_188 ?_
    show Go p e below _ (T_188.setTop (mkF m 19 #[vR t1, vI 3, vI (Int32.ofNat (ps.drop 3).length)] [(.ref r_188), (.ref b186), (.ref b186)]))
    refine Go.step (fun _ k => XS.iconst X_188.here hx rfl (hb hby d_jdk_43_method_47_code_19) k) ?_
    show Go p e below _ (T_188.setTop (mkF m 20 #[vR t1, vI 3, vI (Int32.ofNat (ps.drop 3).length)] [(.int (0 : Int32)), (.ref r_188), (.ref b186), (.ref b186)]))
    have f189 : Exa Z T_188.heap b186 "java/lang/String" := (A_186.keep K_188)
    have f190 : Fld Z T_188.heap b186 "java/lang/String" "value" "[B" .null := (F_186_20.keep K_188 nin0)
    have f191 : Fld Z T_188.heap b186 "java/lang/String" "coder" "B" (.int (0 : Int32)) := (F_186_21.keep K_188 nin0)
    obtain ⟨v_192, T_192, L_192, X_192, hQ_192, st_192⟩ := goC X_188 hx hZ (y := Y_23) hown rfl (wd_204 hw) (wd_205 hw) (wd_206 hw) (by decide) (backOf (W := 1) (rm_initBB l Z a0 hw zc vfm (b186) (r_188) T_188.heap n0 (Nat.le_trans Z0 KP_188.1) f189 f190 f191 g_b186 hSt O_188) hZ (wd_206 hw) (wd_6 hw) (by decide) (by decide)) rfl (g := (mkF m 20 #[vR t1, vI 3, vI (Int32.ofNat (ps.drop 3).length)] [(.int (0 : Int32)), (.ref r_188), (.ref b186), (.ref b186)])) rfl (by rw [hml]; rfl) (a := b186) (argsL := [(.ref r_188), (.int (0 : Int32))]) (rest := [(.ref b186)]) rfl (lenOf pd_18 rfl) rfl (by show 2 * 0 + _ ≤ _; exact Nat.le_of_eq rfl) (hb hby d_jdk_43_method_47_code_20) (by decide) (by decide)
    obtain ⟨rfl, Nq_192, K_192, u0_192, u1_192, u2_192⟩ := hQ_192
    have N_192 := Fr.app N_188 Nq_192
    have C_192 := CHr.keep K_192 (sfS (CHr.safe C_188 A_186.lt Sf_b186) sf0) C_188.1
    have CR_192 := CHr.trans CR_188 C_192
    have le_192 : T_188.heap.size ≤ T_192.heap.size := K_192.1
    have KP_192 := KP_188.trans K_192 (allS (Or.inr sz_b186) all0)
    have O_192 := O_188.keep K_192 (allS g_b186 all0)
    refine Go.step st_192 ?_
    show Go p e below _ (T_192.setTop (mkF m 23 #[vR t1, vI 3, vI (Int32.ofNat (ps.drop 3).length)] [(.ref b186)]))
    have f193 : Arv Z T_192.heap r_188 kr_188 .byte (Int32.ofNat (ps.drop 3).length) ((((ps.map fun c => c.toInt8.toInt32).drop 3).take (ps.drop 3).length).map Value.int) (.int (0 : Int32)) := (u1_188.keep K_192 (ninS (Ne.symm (Nat.ne_of_lt (Nat.lt_of_lt_of_le A_186.lt (Nat.le_trans (Nat.le_refl _) u0_188)))) nin0))
    have Ac194 : Arv Z T_192.heap r_188 kr_188 .byte (Int32.ofNat (ps.drop 3).length) (((ps.drop 3).map fun c => c.toInt8.toInt32).map Value.int) (.int (0 : Int32)) := by
      have q := f193
      rw [mid_sub] at q
      exact q
    have Sx195 : Str Z (T_192.heap).size (T_192.heap) b186 (ps.drop 3) := ⟨r_188, kr_188, u0_192.lt, Ac194.lt, u0_192, u1_192, u2_192, Ac194, (lat_drop hlat), (by rw [List.length_drop]; omega)⟩
    exact Go.retVW X_192 rfl hS0 (Nat.le_trans hk0 (Nat.le_trans le_186 (Nat.le_trans le_188 le_192))) hZ hEL hh0 CR_192 hx hlk hret rfl (Or.inr (Or.inr (Or.inr (Or.inr ⟨rfl, rfl, rfl⟩)))) (hb hby d_jdk_43_method_47_code_23) (by decide) (by decide) (by exact ⟨b186, rfl, N_192, KP_192, Sx195⟩)
--@E
--@C sub2
def Q_sub2 (Z : State) (zc : Int32) (vfm : Value) (a1 : Addr) (ps : List Int32) (h0 : Heap) (n0 : Nat) (v : Option Value) (h : Heap) (L : List Loc) : Prop := ∃ (r : Addr), v = some (.ref r) ∧ Fr n0 L ∧ Keep h0 h [] ∧ Str Z h.size h r (ps.drop 3)
set_option maxRecDepth 65536 in
set_option maxHeartbeats 40000000 in
theorem rm_sub2 (l : Launch) (Z : State) (a0 : Array Value) (hw : ∀ d ∈ tables_1, d.before a0 Z = true) (zc : Int32) (vfm : Value) (a1 : Addr) (ps : List Int32) (h0 : Heap) (n0 : Nat) (Z0 : n0 ≤ h0.size) (S_a1 : Str Z h0.size h0 a1 ps) (hps : (3 ≤ ps.length ∧ ps.length ≤ 40)) (hSt : St Z zc vfm) (hO : Old Z n0 h0) :
    CW l Z EL ({ cls := "java/lang/String", name := "substring", desc := "(II)Ljava/lang/String;" } : Jvm.MethodName) [(Jvm.Cond.code ({ cls := "java/lang/String", name := "substring", desc := "(II)Ljava/lang/String;" } : Jvm.MethodName) jdk_42_method_92_code (5 : Nat) (Option.some (Jvm.ClassFile.FieldType.object "java/lang/String")))] ({ frames := 4, cells := 2, slots := 44, locals := 64 } : Room) #[(.ref a1), (.int (3 : Int32)), (.int (Int32.ofNat ps.length))] h0 (Q_sub2 Z zc vfm a1 ps h0 n0) := by
  refine CW.of (L0 := #[vR a1, vI 3, vI (Int32.ofNat ps.length), vU, vU]) (plainFor_of_name pn_2) (fun m => by first | (simp [entryFrame, mkF, argsToLocals, Value.category]; done) | rfl) ?_
  intro p e s m below meth c s₁ hx hby hml hret hlk hZ hown hnm X0 e0 hS0 hk0 CV0 hh0
  have hEL := hEL_ (a0 := a0) hw
  have hwS := hwS_ hw
  have N0 := Fr.nil n0
  have KP0 := Keep.refl h0 []
  have hSt_ := hSt
  obtain ⟨S_cs, n_cs, S_fm, r_fm⟩ := hSt_
  have hl0 := S_a1.lat
  show Go p e below _ (s₁.setTop (mkF m 0 #[vR a1, vI 3, vI (Int32.ofNat ps.length), vU, vU] []))
  refine Go.step (fun _ k => XS.aloadN X0.here hx rfl (hb hby d_jdk_42_method_92_code_0) rfl rfl k) ?_
  show Go p e below _ (s₁.setTop (mkF m 1 #[vR a1, vI 3, vI (Int32.ofNat ps.length), vU, vU] [(.ref a1)]))
  have cp196 := S_a1
  obtain ⟨t197, kb197, -, -, Ex197, Fv197, Fc197, Av197, hl197, hn197⟩ := cp196
  obtain ⟨v_198, T_198, L_198, X_198, hQ_198, st_198⟩ := goV X0 hx hZ (y := Y_9) (z := Y_9) (kc := 0) (ks := 0) (QQ := fun v h' L => v = some (.int (Int32.ofNat ps.length)) ∧ L = [] ∧ h' = h0) hown (wd_118 hw) (wd_73 hw) (notFace_of_selects (args := #[]) (mvT hZ (wd_75 hw))) (wd_75 hw) (wd_74 hw) (by decide) (StrChars.Road.lenW (W := 0) (s := s.setVm s.vm) hZ (sw_wordsLen hw) (kI := 4) (wd_5 hw) Ex197 Fv197 Fc197 Av197 (StrChars.Road.codOf rfl (fun c hc => (hl197 c hc).2)) (up255 hl197) (S_cs.ext hO.2) n_cs hn197 (by decide) (by decide)) e0 Ex197 (g := (mkF m 1 #[vR a1, vI 3, vI (Int32.ofNat ps.length), vU, vU] [(.ref a1)])) rfl (by rw [hml]; rfl) (argsL := []) (rest := []) rfl (lenOf pd_8 rfl) rfl (by show 2 * 0 + _ ≤ _; exact Nat.le_of_eq rfl) (hb hby d_jdk_42_method_92_code_1) (by decide) (by decide)
  obtain ⟨rfl, rfl, e_198⟩ := hQ_198
  have N_198 := Fr.app N0 (Fr.nil n0)
  refine Go.step st_198 ?_
  show Go p e below _ (T_198.setTop (mkF m 4 #[vR a1, vI 3, vI (Int32.ofNat ps.length), vU, vU] [(.int (Int32.ofNat ps.length))]))
  refine Go.step (fun _ k => XS.istoreN X_198.here hx rfl (hb hby d_jdk_42_method_92_code_4) rfl (l' := #[vR a1, vI 3, vI (Int32.ofNat ps.length), vI (Int32.ofNat ps.length), vU]) rfl k) ?_
  show Go p e below _ (T_198.setTop (mkF m 5 #[vR a1, vI 3, vI (Int32.ofNat ps.length), vI (Int32.ofNat ps.length), vU] []))
  refine Go.step (fun _ k => XS.iloadN X_198.here hx rfl (hb hby d_jdk_42_method_92_code_5) rfl  k) ?_
  refine Go.step (fun _ k => XS.iloadN X_198.here hx rfl (hb hby d_jdk_42_method_92_code_6) rfl  k) ?_
  refine Go.step (fun _ k => XS.iloadN X_198.here hx rfl (hb hby d_jdk_42_method_92_code_7) rfl  k) ?_
  show Go p e below _ (T_198.setTop (mkF m 8 #[vR a1, vI 3, vI (Int32.ofNat ps.length), vI (Int32.ofNat ps.length), vU] [(.int (Int32.ofNat ps.length)), (.int (Int32.ofNat ps.length)), (.int (3 : Int32))]))
  obtain ⟨v_199, T_199, L_199, X_199, hQ_199, st_199⟩ := goS X_198 hx hZ (y := Y_24) hown (wd_124 hw) (wd_125 hw) (wd_6 hw) (wd_126 hw) (by decide) (backOf (W := 0) (rm_cbb l Z a0 hw zc vfm ((Int32.ofNat ps.length)) h0 n0 (Nat.le_trans Z0 KP0.1) (fun q => absurd ((ofn_lt (j := ps.length) (k := 3) (by omega) (by omega)).mp q) (by omega)) hSt hO) hZ (wd_126 hw) (wd_6 hw) (by decide) (by decide)) e_198 (g := (mkF m 8 #[vR a1, vI 3, vI (Int32.ofNat ps.length), vI (Int32.ofNat ps.length), vU] [(.int (Int32.ofNat ps.length)), (.int (Int32.ofNat ps.length)), (.int (3 : Int32))])) rfl (by rw [hml]; rfl) (argsL := [(.int (3 : Int32)), (.int (Int32.ofNat ps.length)), (.int (Int32.ofNat ps.length))]) (rest := []) rfl (lenOf pd_19 rfl) rfl (by show 2 * 0 + _ ≤ _; exact Nat.le_of_eq rfl) (hb hby d_jdk_42_method_92_code_8) (by decide) (by decide)
  obtain ⟨rfl, Nq_199, e_199⟩ := hQ_199
  have N_199 := Fr.app N_198 Nq_199
  refine Go.step st_199 ?_
  show Go p e below _ (T_199.setTop (mkF m 11 #[vR a1, vI 3, vI (Int32.ofNat ps.length), vI (Int32.ofNat ps.length), vU] []))
  refine Go.step (fun _ k => XS.iloadN X_199.here hx rfl (hb hby d_jdk_42_method_92_code_11) rfl  k) ?_
  show Go p e below _ (T_199.setTop (mkF m 12 #[vR a1, vI 3, vI (Int32.ofNat ps.length), vI (Int32.ofNat ps.length), vU] [(.int (3 : Int32))]))
  refine Go.step (fun _ k => XS.ifYes X_199.here hx rfl (pc0 := 12) (pc' := 22) rfl (hb hby d_jdk_42_method_92_code_12) rfl ((if0 _ _).trans (feq ((by decide) : ¬ ((3 : Int32) = (0 : Int32)))).2) (by decide) (by decide) k) ?_
  show Go p e below _ (T_199.setTop (mkF m 22 #[vR a1, vI 3, vI (Int32.ofNat ps.length), vI (Int32.ofNat ps.length), vU] []))
  refine Go.step (fun _ k => XS.iloadN X_199.here hx rfl (hb hby d_jdk_42_method_92_code_22) rfl  k) ?_
  refine Go.step (fun _ k => XS.iloadN X_199.here hx rfl (hb hby d_jdk_42_method_92_code_23) rfl  k) ?_
  show Go p e below _ (T_199.setTop (mkF m 24 #[vR a1, vI 3, vI (Int32.ofNat ps.length), vI (Int32.ofNat ps.length), vU] [(.int (3 : Int32)), (.int (Int32.ofNat ps.length))]))
  refine Go.step (fun _ k => XS.isub X_199.here hx rfl (hb hby d_jdk_42_method_92_code_24) rfl k) ?_
  show Go p e below _ (T_199.setTop (mkF m 25 #[vR a1, vI 3, vI (Int32.ofNat ps.length), vI (Int32.ofNat ps.length), vU] [(.int ((Int32.ofNat ps.length) - (3 : Int32)))]))
  refine own_top (congrArg Value.int (show ((Int32.ofNat ps.length) - (3 : Int32)) = (Int32.ofNat (ps.drop 3).length) from drop3 hps)) ?_
  show Go p e below _ (T_199.setTop (mkF m 25 #[vR a1, vI 3, vI (Int32.ofNat ps.length), vI (Int32.ofNat ps.length), vU] [(.int (Int32.ofNat (ps.drop 3).length))]))
  refine Go.step (fun _ k => XS.istore X_199.here hx rfl (hb hby d_jdk_42_method_92_code_25) rfl (l' := #[vR a1, vI 3, vI (Int32.ofNat ps.length), vI (Int32.ofNat ps.length), vI (Int32.ofNat (ps.drop 3).length)]) rfl k) ?_
  show Go p e below _ (T_199.setTop (mkF m 27 #[vR a1, vI 3, vI (Int32.ofNat ps.length), vI (Int32.ofNat ps.length), vI (Int32.ofNat (ps.drop 3).length)] []))
  refine Go.step (fun _ k => XS.aloadN X_199.here hx rfl (hb hby d_jdk_42_method_92_code_27) rfl rfl k) ?_
  show Go p e below _ (T_199.setTop (mkF m 28 #[vR a1, vI 3, vI (Int32.ofNat ps.length), vI (Int32.ofNat ps.length), vI (Int32.ofNat (ps.drop 3).length)] [(.ref a1)]))
  have cp200 := S_a1
  obtain ⟨t201, kb201, -, hb201, Ex201, Fv201, Fc201, Av201, hl201, hn201⟩ := cp200
  obtain ⟨v_202, T_202, L_202, X_202, hQ_202, st_202⟩ := goV X_199 hx hZ (y := Y_25) (z := Y_25) hown (wd_132 hw) (wd_133 hw) (notFace_of_selects (args := #[]) (mvT hZ (wd_135 hw))) (wd_135 hw) (wd_134 hw) (by decide) (backOf (W := 0) (rm_isl l Z a0 hw zc vfm (a1) h0 n0 (Nat.le_trans Z0 KP0.1) Fc201 hSt hO) hZ (wd_136 hw) (wd_6 hw) (by decide) (by decide)) e_199 S_a1.exa (g := (mkF m 28 #[vR a1, vI 3, vI (Int32.ofNat ps.length), vI (Int32.ofNat ps.length), vI (Int32.ofNat (ps.drop 3).length)] [(.ref a1)])) rfl (by rw [hml]; rfl) (argsL := []) (rest := []) rfl (lenOf pd_14 rfl) rfl (by show 2 * 0 + _ ≤ _; exact Nat.le_of_eq rfl) (hb hby d_jdk_42_method_92_code_28) (by decide) (by decide)
  obtain ⟨rfl, Nq_202, e_202⟩ := hQ_202
  have N_202 := Fr.app N_199 Nq_202
  refine Go.step st_202 ?_
  show Go p e below _ (T_202.setTop (mkF m 31 #[vR a1, vI 3, vI (Int32.ofNat ps.length), vI (Int32.ofNat ps.length), vI (Int32.ofNat (ps.drop 3).length)] [(.int (1 : Int32))]))
  refine Go.step (fun _ k => XS.ifNo X_202.here hx rfl (hb hby d_jdk_42_method_92_code_31) rfl ((if0 _ _).trans (feq ((by decide) : ¬ ((1 : Int32) = (0 : Int32)))).1) k) ?_
  show Go p e below _ (T_202.setTop (mkF m 34 #[vR a1, vI 3, vI (Int32.ofNat ps.length), vI (Int32.ofNat ps.length), vI (Int32.ofNat (ps.drop 3).length)] []))
  refine Go.step (fun _ k => XS.aloadN X_202.here hx rfl (hb hby d_jdk_42_method_92_code_34) rfl rfl k) ?_
  show Go p e below _ (T_202.setTop (mkF m 35 #[vR a1, vI 3, vI (Int32.ofNat ps.length), vI (Int32.ofNat ps.length), vI (Int32.ofNat (ps.drop 3).length)] [(.ref a1)]))
  obtain ⟨T_203, X_203, e_203, st_203⟩ := getF X_202 hx hZ hown (host := "") (Or.inl (wd_24 hw)) Via.refl e_202 Fv201 (g := (mkF m 35 #[vR a1, vI 3, vI (Int32.ofNat ps.length), vI (Int32.ofNat ps.length), vI (Int32.ofNat (ps.drop 3).length)] [(.ref a1)])) rfl rfl (hb hby d_jdk_42_method_92_code_35)
  refine Go.step st_203 ?_
  show Go p e below _ (T_203.setTop (mkF m 38 #[vR a1, vI 3, vI (Int32.ofNat ps.length), vI (Int32.ofNat ps.length), vI (Int32.ofNat (ps.drop 3).length)] [(.ref t201)]))
  refine Go.step (fun _ k => XS.iloadN X_203.here hx rfl (hb hby d_jdk_42_method_92_code_38) rfl  k) ?_
  refine Go.step (fun _ k => XS.iload X_203.here hx rfl (hb hby d_jdk_42_method_92_code_39) rfl  k) ?_
  show Go p e below _ (T_203.setTop (mkF m 41 #[vR a1, vI 3, vI (Int32.ofNat ps.length), vI (Int32.ofNat ps.length), vI (Int32.ofNat (ps.drop 3).length)] [(.int (Int32.ofNat (ps.drop 3).length)), (.int (3 : Int32)), (.ref t201)]))
  obtain ⟨v_204, T_204, L_204, X_204, hQ_204, hS_204, hZ_204, hown_204, C_204, st_204⟩ := goSW X_203 hx hZ (y := Y_26) hown hS0 hk0 (wd_137 hw) (wd_138 hw) (wd_139 hw) (wd_140 hw) (by decide) (backOfSH (W := 0) (rm_nst l Z a0 hw zc vfm (t201) (kb201) (ps) h0 n0 (Nat.le_trans Z0 KP0.1) Av201 hps hl0 hSt hO) hZ (wd_140 hw) (wd_139 hw) (by decide) (by decide) hEL CV0) e_203 (g := (mkF m 41 #[vR a1, vI 3, vI (Int32.ofNat ps.length), vI (Int32.ofNat ps.length), vI (Int32.ofNat (ps.drop 3).length)] [(.int (Int32.ofNat (ps.drop 3).length)), (.int (3 : Int32)), (.ref t201)])) rfl (by rw [hml]; rfl) (argsL := [(.ref t201), (.int (3 : Int32)), (.int (Int32.ofNat (ps.drop 3).length))]) (rest := []) rfl (lenOf pd_20 rfl) rfl (by show 2 * 0 + _ ≤ _; exact Nat.le_of_eq rfl) (hb hby d_jdk_42_method_92_code_41) (by decide) (by decide)
  obtain ⟨r_204, rfl, Nq_204, K_204, u0_204⟩ := hQ_204
  have N_204 := Fr.app N_202 Nq_204
  have CR_204 := CHr.trans (CHr.refl CV0) C_204
  have le_204 : h0.size ≤ T_204.heap.size := K_204.1
  have KP_204 := KP0.trans K_204 all0
  have O_204 := hO.keep K_204 all0
  refine Go.step st_204 ?_
  show Go p e below _ (T_204.setTop (mkF m 44 #[vR a1, vI 3, vI (Int32.ofNat ps.length), vI (Int32.ofNat ps.length), vI (Int32.ofNat (ps.drop 3).length)] [(.ref r_204)]))
  refine Go.step (fun _ k => XS.goto X_204.here hx rfl (pc0 := 44) (pc' := 57) rfl (hb hby d_jdk_42_method_92_code_44) (by decide) (by decide) k) ?_
  show Go p e below _ (T_204.setTop (mkF m 57 #[vR a1, vI 3, vI (Int32.ofNat ps.length), vI (Int32.ofNat ps.length), vI (Int32.ofNat (ps.drop 3).length)] [(.ref r_204)]))
  exact Go.retVW X_204 rfl hS_204 (Nat.le_refl _) hZ_204 hEL hh0 CR_204 hx hlk hret rfl (Or.inr (Or.inr (Or.inr (Or.inr ⟨rfl, rfl, rfl⟩)))) (hb hby d_jdk_42_method_92_code_57) (by decide) (by decide) (by exact ⟨r_204, rfl, N_204, KP_204, u0_204⟩)
--@E
--@C sub1
def Q_sub1 (Z : State) (zc : Int32) (vfm : Value) (a1 : Addr) (ps : List Int32) (h0 : Heap) (n0 : Nat) (v : Option Value) (h : Heap) (L : List Loc) : Prop := ∃ (r : Addr), v = some (.ref r) ∧ Fr n0 L ∧ Keep h0 h [] ∧ Str Z h.size h r (ps.drop 3)
set_option maxRecDepth 65536 in
set_option maxHeartbeats 40000000 in
theorem rm_sub1 (l : Launch) (Z : State) (a0 : Array Value) (hw : ∀ d ∈ tables_1, d.before a0 Z = true) (zc : Int32) (vfm : Value) (a1 : Addr) (ps : List Int32) (h0 : Heap) (n0 : Nat) (Z0 : n0 ≤ h0.size) (S_a1 : Str Z h0.size h0 a1 ps) (hps : (3 ≤ ps.length ∧ ps.length ≤ 40)) (hSt : St Z zc vfm) (hO : Old Z n0 h0) :
    CW l Z EL ({ cls := "java/lang/String", name := "substring", desc := "(I)Ljava/lang/String;" } : Jvm.MethodName) [(Jvm.Cond.code ({ cls := "java/lang/String", name := "substring", desc := "(I)Ljava/lang/String;" } : Jvm.MethodName) jdk_42_method_91_code (2 : Nat) (Option.some (Jvm.ClassFile.FieldType.object "java/lang/String")))] ({ frames := 5, cells := 2, slots := 44, locals := 80 } : Room) #[(.ref a1), (.int (3 : Int32))] h0 (Q_sub1 Z zc vfm a1 ps h0 n0) := by
  refine CW.of (L0 := #[vR a1, vI 3]) (plainFor_of_name pn_2) (fun m => by first | (simp [entryFrame, mkF, argsToLocals, Value.category]; done) | rfl) ?_
  intro p e s m below meth c s₁ hx hby hml hret hlk hZ hown hnm X0 e0 hS0 hk0 CV0 hh0
  have hEL := hEL_ (a0 := a0) hw
  have hwS := hwS_ hw
  have N0 := Fr.nil n0
  have KP0 := Keep.refl h0 []
  have hSt_ := hSt
  obtain ⟨S_cs, n_cs, S_fm, r_fm⟩ := hSt_
  show Go p e below _ (s₁.setTop (mkF m 0 #[vR a1, vI 3] []))
  refine Go.step (fun _ k => XS.aloadN X0.here hx rfl (hb hby d_jdk_42_method_91_code_0) rfl rfl k) ?_
  refine Go.step (fun _ k => XS.iloadN X0.here hx rfl (hb hby d_jdk_42_method_91_code_1) rfl  k) ?_
  refine Go.step (fun _ k => XS.aloadN X0.here hx rfl (hb hby d_jdk_42_method_91_code_2) rfl rfl k) ?_
  show Go p e below _ (s₁.setTop (mkF m 3 #[vR a1, vI 3] [(.ref a1), (.int (3 : Int32)), (.ref a1)]))
  have cp205 := S_a1
  obtain ⟨t206, kb206, -, -, Ex206, Fv206, Fc206, Av206, hl206, hn206⟩ := cp205
  obtain ⟨v_207, T_207, L_207, X_207, hQ_207, st_207⟩ := goV X0 hx hZ (y := Y_9) (z := Y_9) (kc := 0) (ks := 0) (QQ := fun v h' L => v = some (.int (Int32.ofNat ps.length)) ∧ L = [] ∧ h' = h0) hown (wd_118 hw) (wd_73 hw) (notFace_of_selects (args := #[]) (mvT hZ (wd_75 hw))) (wd_75 hw) (wd_74 hw) (by decide) (StrChars.Road.lenW (W := 2) (s := s.setVm s.vm) hZ (sw_wordsLen hw) (kI := 4) (wd_5 hw) Ex206 Fv206 Fc206 Av206 (StrChars.Road.codOf rfl (fun c hc => (hl206 c hc).2)) (up255 hl206) (S_cs.ext hO.2) n_cs hn206 (by decide) (by decide)) e0 Ex206 (g := (mkF m 3 #[vR a1, vI 3] [(.ref a1), (.int (3 : Int32)), (.ref a1)])) rfl (by rw [hml]; rfl) (argsL := []) (rest := [(.int (3 : Int32)), (.ref a1)]) rfl (lenOf pd_8 rfl) rfl (by show 2 * 0 + _ ≤ _; exact Nat.le_of_eq rfl) (hb hby d_jdk_42_method_91_code_3) (by decide) (by decide)
  obtain ⟨rfl, rfl, e_207⟩ := hQ_207
  have N_207 := Fr.app N0 (Fr.nil n0)
  refine Go.step st_207 ?_
  show Go p e below _ (T_207.setTop (mkF m 6 #[vR a1, vI 3] [(.int (Int32.ofNat ps.length)), (.int (3 : Int32)), (.ref a1)]))
  obtain ⟨v_208, T_208, L_208, X_208, hQ_208, hS_208, hZ_208, hown_208, C_208, st_208⟩ := goVW X_207 hx hZ (y := Y_27) (z := Y_27) hown hS0 hk0 (wd_119 hw) (wd_120 hw) (notFace_of_selects (args := #[]) (mvT hZ (wd_122 hw))) (wd_122 hw) (wd_121 hw) (by decide) (backOfSH (W := 0) (rm_sub2 l Z a0 hw zc vfm (a1) (ps) h0 n0 (Nat.le_trans Z0 KP0.1) S_a1 hps hSt hO) hZ (wd_123 hw) (wd_6 hw) (by decide) (by decide) hEL CV0) e_207 S_a1.exa (g := (mkF m 6 #[vR a1, vI 3] [(.int (Int32.ofNat ps.length)), (.int (3 : Int32)), (.ref a1)])) rfl (by rw [hml]; rfl) (argsL := [(.int (3 : Int32)), (.int (Int32.ofNat ps.length))]) (rest := []) rfl (lenOf pd_21 rfl) rfl (by show 2 * 0 + _ ≤ _; exact Nat.le_of_eq rfl) (hb hby d_jdk_42_method_91_code_6) (by decide) (by decide)
  obtain ⟨r_208, rfl, Nq_208, K_208, u0_208⟩ := hQ_208
  have N_208 := Fr.app N_207 Nq_208
  have CR_208 := CHr.trans (CHr.refl CV0) C_208
  have le_208 : h0.size ≤ T_208.heap.size := K_208.1
  have KP_208 := KP0.trans K_208 all0
  have O_208 := hO.keep K_208 all0
  refine Go.step st_208 ?_
  show Go p e below _ (T_208.setTop (mkF m 9 #[vR a1, vI 3] [(.ref r_208)]))
  exact Go.retVW X_208 rfl hS_208 (Nat.le_refl _) hZ_208 hEL hh0 CR_208 hx hlk hret rfl (Or.inr (Or.inr (Or.inr (Or.inr ⟨rfl, rfl, rfl⟩)))) (hb hby d_jdk_42_method_91_code_9) (by decide) (by decide) (by exact ⟨r_208, rfl, N_208, KP_208, u0_208⟩)
--@E
--@C ep
def Q_ep (Z : State) (zc : Int32) (vfm : Value) (a1 : Addr) (a2 : Addr) (ms : List Int32) (ps : List Int32) (h0 : Heap) (n0 : Nat) (v : Option Value) (h : Heap) (L : List Loc) : Prop := ∃ (r : Addr), v = some (.ref r) ∧ Fr n0 L ∧ Keep h0 h [] ∧ h0.size ≤ r ∧ Str Z h.size h r ((((ms ++ ([(32 : Int32)] : List Int32)) ++ ([(47 : Int32), (118 : Int32), (49 : Int32)] : List Int32)) ++ ([(47 : Int32), (123 : Int32), (112 : Int32), (114 : Int32), (101 : Int32), (102 : Int32), (105 : Int32), (120 : Int32), (125 : Int32)] : List Int32)) ++ (ps.drop 3))
set_option maxRecDepth 65536 in
set_option maxHeartbeats 40000000 in
theorem rm_ep (l : Launch) (Z : State) (a0 : Array Value) (hw : ∀ d ∈ tables_1, d.before a0 Z = true) (zc : Int32) (vfm : Value) (a1 : Addr) (a2 : Addr) (ms : List Int32) (ps : List Int32) (h0 : Heap) (n0 : Nat) (Z0 : n0 ≤ h0.size) (S_a1 : Str Z h0.size h0 a1 ms) (S_a2 : Str Z h0.size h0 a2 ps) (hms : (ms.length ≤ 3)) (hps : (3 ≤ ps.length ∧ ps.length ≤ 6)) (hSt : St Z zc vfm) (hO : Old Z n0 h0) :
    CW l Z EL ({ cls := "com/example/lakehouse_catalog/lakehousecatalog/iceberg/IcebergRoutes", name := "endpoint", desc := "(Ljava/lang/String;Ljava/lang/String;)Ljava/lang/String;" } : Jvm.MethodName) [(Jvm.Cond.code ({ cls := "com/example/lakehouse_catalog/lakehousecatalog/iceberg/IcebergRoutes", name := "endpoint", desc := "(Ljava/lang/String;Ljava/lang/String;)Ljava/lang/String;" } : Jvm.MethodName) prog_17_method_3_code (2 : Nat) (Option.some (Jvm.ClassFile.FieldType.object "java/lang/String")))] ({ frames := 6, cells := 15, slots := 222, locals := 94 } : Room) #[(.ref a1), (.ref a2)] h0 (Q_ep Z zc vfm a1 a2 ms ps h0 n0) := by
  refine CW.of (L0 := #[vR a1, vR a2]) (plainFor_of_name pn_7) (fun m => by first | (simp [entryFrame, mkF, argsToLocals, Value.category]; done) | rfl) ?_
  intro p e s m below meth c s₁ hx hby hml hret hlk hZ hown hnm X0 e0 hS0 hk0 CV0 hh0
  have hEL := hEL_ (a0 := a0) hw
  have hwS := hwS_ hw
  have N0 := Fr.nil n0
  have KP0 := Keep.refl h0 []
  have hSt_ := hSt
  obtain ⟨S_cs, n_cs, S_fm, r_fm⟩ := hSt_
  have hlm := S_a1.lat
  have hlp := S_a2.lat
  show Go p e below _ (s₁.setTop (mkF m 0 #[vR a1, vR a2] []))
  obtain ⟨T_209, h_209, X_209, e_209, E_209, A_209, D_209, Un_209, st_209⟩ := newO X0 hx hZ hown (wd_44 hw) (wd_45 hw) (wd_46 hw) e0 (g := (mkF m 0 #[vR a1, vR a2] [])) rfl (hb hby d_prog_17_method_3_code_0) (by decide) (by decide)
  obtain ⟨b209, q_209⟩ : ∃ z, z = h0.size := ⟨_, rfl⟩
  rw [← q_209] at A_209 D_209 Un_209 st_209
  refine Go.step st_209 ?_
  have C_209 := CHr.ext E_209 CV0
  have CR_209 := CHr.trans (CHr.refl CV0) C_209
  have le_209 : h0.size ≤ h_209.size := E_209.1
  have KP_209 := KP0.ext E_209
  have O_209 := hO.ext E_209
  have ge_209 : h0.size ≤ b209 := Nat.le_of_eq q_209.symm
  have sz_b209 : h0.size ≤ b209 := Nat.le_trans (Nat.le_refl _) ge_209
  have g_b209 : n0 ≤ b209 := Nat.le_trans Z0 sz_b209
  have F_209_59 : Fld Z h_209 b209 "java/lang/AbstractStringBuilder" "value" "[B" .null := D_209 (Or.inl (wd_59 hw)) (ty := (.array .byte)) pf_0
  have F_209_61 : Fld Z h_209 b209 "java/lang/AbstractStringBuilder" "coder" "B" (.int (0 : Int32)) := D_209 (Or.inl (wd_61 hw)) (ty := .byte) pf_1
  have F_209_83 : Fld Z h_209 b209 "java/lang/AbstractStringBuilder" "count" "I" (.int (0 : Int32)) := D_209 (Or.inl (wd_83 hw)) (ty := .int) pf_2
  have Sf_b209 := Safe.ext E_209 CV0 (Safe.new ge_209)
  show Go p e below _ (T_209.setTop (mkF m 3 #[vR a1, vR a2] [(.ref b209)]))
  refine Go.step (fun _ k => XS.dup X_209.here hx rfl (hb hby d_prog_17_method_3_code_3) rfl rfl k) ?_
  show Go p e below _ (T_209.setTop (mkF m 4 #[vR a1, vR a2] [(.ref b209), (.ref b209)]))
  obtain ⟨v_210, T_210, L_210, X_210, hQ_210, st_210⟩ := goC X_209 hx hZ (y := Y_28) hown rfl (wd_47 hw) (wd_48 hw) (wd_49 hw) (by decide) (backOf (W := 1) (rm_sbi l Z a0 hw zc vfm (b209) h_209 n0 (Nat.le_trans Z0 KP_209.1) A_209 F_209_59 F_209_61 F_209_83 g_b209 hSt O_209) hZ (wd_49 hw) (wd_46 hw) (by decide) (by decide)) e_209 (g := (mkF m 4 #[vR a1, vR a2] [(.ref b209), (.ref b209)])) rfl (by rw [hml]; rfl) (a := b209) (argsL := []) (rest := [(.ref b209)]) rfl (lenOf pd_22 rfl) rfl (by show 2 * 0 + _ ≤ _; exact Nat.le_of_eq rfl) (hb hby d_prog_17_method_3_code_4) (by decide) (by decide)
  obtain ⟨t_210, kt_210, rfl, Nq_210, K_210, u0_210, u1_210, u2_210, u3_210, u4_210, u5_210⟩ := hQ_210
  have N_210 := Fr.app N0 Nq_210
  have C_210 := CHr.keep K_210 (sfS (Safe.exa hZ.alike A_209 (by decide) (by decide)) sf0) C_209.1
  have CR_210 := CHr.trans CR_209 C_210
  have le_210 : h_209.size ≤ T_210.heap.size := K_210.1
  have KP_210 := KP_209.trans K_210 (allS (Or.inr sz_b209) all0)
  have O_210 := O_209.keep K_210 (allS g_b209 all0)
  have sz_t_210 : h0.size ≤ t_210 := Nat.le_trans le_209 u1_210
  have g_t_210 : n0 ≤ t_210 := Nat.le_trans Z0 sz_t_210
  have Sf_t_210 := Safe.keep K_210 (sfS (Safe.exa hZ.alike A_209 (by decide) (by decide)) sf0) C_209.1 (Safe.new u1_210)
  refine Go.step st_210 ?_
  show Go p e below _ (T_210.setTop (mkF m 7 #[vR a1, vR a2] [(.ref b209)]))
  refine Go.step (fun _ k => XS.aloadN X_210.here hx rfl (hb hby d_prog_17_method_3_code_7) rfl rfl k) ?_
  show Go p e below _ (T_210.setTop (mkF m 8 #[vR a1, vR a2] [(.ref a1), (.ref b209)]))
  have hp0 : (List.replicate 16 (0 : Int32)).take ([] : List Int32).length = ([] : List Int32).map (fun c => c.toInt8.toInt32) := rfl
  have hbl0 : (List.replicate 16 (0 : Int32)).length = 16 := by decide
  have Fk211 : Fld Z T_210.heap b209 "java/lang/AbstractStringBuilder" "count" "I" (.int (Int32.ofNat ([] : List Int32).length)) := u4_210
  have f212 : Exa Z T_210.heap b209 "java/lang/StringBuilder" := (A_209.keep K_210)
  have f213 : Str Z h0.size T_210.heap a1 ms := ((S_a1.ext E_209).keep K_210 (allS (Nat.le_trans (Nat.le_refl _) ge_209) all0))
  obtain ⟨v_214, T_214, L_214, X_214, hQ_214, st_214⟩ := goV X_210 hx hZ (y := Y_29) (z := Y_29) hown (wd_62 hw) (wd_63 hw) (notFace_of_selects (args := #[]) (mvT hZ (wd_65 hw))) (wd_65 hw) (wd_64 hw) (by decide) (backOf (W := 0) (rm_sbaN l Z a0 hw zc vfm (b209) (t_210) (kt_210) ((List.replicate 16 (0 : Int32))) (([] : List Int32)) (a1) (ms) T_210.heap n0 (Nat.le_trans Z0 KP_210.1) f212 u0_210 u3_210 Fk211 u5_210 g_b209 g_t_210 (f213.mono (Nat.le_trans le_209 le_210)) hbl0 (by simp only [List.length_append, List.length_cons, List.length_nil]; omega) hSt O_210) hZ (wd_66 hw) (wd_46 hw) (by decide) (by decide)) rfl f212 (g := (mkF m 8 #[vR a1, vR a2] [(.ref a1), (.ref b209)])) rfl (by rw [hml]; rfl) (argsL := [(.ref a1)]) (rest := []) rfl (lenOf pd_23 rfl) rfl (by show 2 * 0 + _ ≤ _; exact Nat.le_of_eq rfl) (hb hby d_prog_17_method_3_code_8) (by decide) (by decide)
  obtain ⟨rfl, Nq_214, K_214, u0_214, u1_214, u2_214, u3_214⟩ := hQ_214
  have N_214 := Fr.app N_210 Nq_214
  have C_214 := CHr.keep K_214 (sfS (Safe.exa hZ.alike f212 (by decide) (by decide)) (sfS Sf_t_210 sf0)) C_210.1
  have CR_214 := CHr.trans CR_210 C_214
  have le_214 : T_210.heap.size ≤ T_214.heap.size := K_214.1
  have KP_214 := KP_210.trans K_214 (allS (Or.inr sz_b209) (allS (Or.inr sz_t_210) all0))
  have O_214 := O_210.keep K_214 (allS g_b209 (allS g_t_210 all0))
  refine Go.step st_214 ?_
  show Go p e below _ (T_214.setTop (mkF m 11 #[vR a1, vR a2] [(.ref b209)]))
  have Fk215 : Fld Z T_214.heap b209 "java/lang/AbstractStringBuilder" "count" "I" (.int (Int32.ofNat ms.length)) := u2_214
  have hN1 : ([] : List Int32).length + ms.length ≤ ((List.replicate 16 (0 : Int32))).length := by rw [hbl0]; simp only [List.length_append, List.length_cons, List.length_nil]; omega
  have hbl1 : (insB (List.replicate 16 (0 : Int32)) ([] : List Int32) ms).length = 16 := (insB_len hN1).trans hbl0
  have hp1 := insB_take hN1 hp0
  have e_c0 : ([] : List Int32) ++ ms = ms := List.nil_append ms
  have hp1 : (insB (List.replicate 16 (0 : Int32)) ([] : List Int32) ms).take ms.length = ms.map (fun c => c.toInt8.toInt32) := hp1
  show Go p e below _ (T_214.setTop (mkF m 11 #[vR a1, vR a2] [(.ref b209)]))
  obtain ⟨a_216, T_216, h_216, k1_216, t_216, kb_216, X_216, e_216, E_216, hS_216, hk_216, hZ_216, hown_216, Ex_216, Fc_216, Fv_216, Av_216, lta_216, ltb_216, C_216, Lt_216, -, st_216⟩ := ldcCH X_214 hx hZ hown (wd_109 hw) hwS rfl hS0 (Nat.le_trans hk0 (Nat.le_trans le_209 (Nat.le_trans le_210 le_214))) hEL (by decide) C_214.1 (vs := [(.int (32 : Int32))]) (z := (1 : Int32)) ⟨by decide, by decide⟩ (by decide) (by decide) (g := (mkF m 11 #[vR a1, vR a2] [(.ref b209)])) rfl (hb hby d_prog_17_method_3_code_11) (n := 4) (by decide) (by decide) (by decide) (by decide)
  refine Go.step st_216 ?_
  have CR_216 := CHr.trans CR_214 C_216
  have le_216 : T_214.heap.size ≤ h_216.size := E_216.1
  have KP_216 := KP_214.ext E_216
  have O_216 := O_214.ext E_216
  have Sx_216 : Str Z h_216.size h_216 a_216 ([(32 : Int32)] : List Int32) := ⟨t_216, kb_216, lta_216, ltb_216, Ex_216, Fv_216, Fc_216, Av_216, by decide, by decide⟩
  show Go p e below _ (T_216.setTop (mkF m 13 #[vR a1, vR a2] [(.ref a_216), (.ref b209)]))
  have f217 : Exa Z h_216 b209 "java/lang/StringBuilder" := ((f212.keep K_214).ext E_216)
  have f218 : Fld Z h_216 b209 "java/lang/AbstractStringBuilder" "value" "[B" (.ref t_210) := (u0_214.ext E_216)
  have f219 : Fld Z h_216 b209 "java/lang/AbstractStringBuilder" "coder" "B" (.int (0 : Int32)) := (u1_214.ext E_216)
  have f220 : Fld Z h_216 b209 "java/lang/AbstractStringBuilder" "count" "I" (.int (Int32.ofNat ms.length)) := (Fk215.ext E_216)
  have f221 : Arv Z h_216 t_210 kt_210 .byte (16 : Int32) ((insB (List.replicate 16 (0 : Int32)) ([] : List Int32) ms).map Value.int) (.int (0 : Int32)) := (u3_214.ext E_216)
  obtain ⟨v_222, T_222, L_222, X_222, hQ_222, st_222⟩ := goV X_216 hx hZ_216 (y := Y_29) (z := Y_29) hown_216 (wd_62 hw) (wd_63 hw) (notFace_of_selects (args := #[]) (mvT hZ_216 (wd_65 hw))) (wd_65 hw) (wd_64 hw) (by decide) (backOf (W := 0) (rm_sbaN l Z a0 hw zc vfm (b209) (t_210) (kt_210) ((insB (List.replicate 16 (0 : Int32)) ([] : List Int32) ms)) (ms) (a_216) (([(32 : Int32)] : List Int32)) h_216 n0 (Nat.le_trans Z0 KP_216.1) f217 f218 f219 f220 f221 g_b209 g_t_210 Sx_216 hbl1 (by simp only [List.length_append, List.length_cons, List.length_nil]; omega) hSt O_216) hZ_216 (wd_66 hw) (wd_46 hw) (by decide) (by decide)) e_216 f217 (g := (mkF m 13 #[vR a1, vR a2] [(.ref a_216), (.ref b209)])) rfl (by rw [hml]; rfl) (argsL := [(.ref a_216)]) (rest := []) rfl (lenOf pd_23 rfl) rfl (by show 2 * 0 + _ ≤ _; exact Nat.le_of_eq rfl) (hb hby d_prog_17_method_3_code_13) (by decide) (by decide)
  obtain ⟨rfl, Nq_222, K_222, u0_222, u1_222, u2_222, u3_222⟩ := hQ_222
  have N_222 := Fr.app N_214 Nq_222
  have C_222 := CHr.keep K_222 (sfS (Safe.exa hZ_216.alike f217 (by decide) (by decide)) (sfS (CHr.safe (CHr.trans C_214 C_216) u2_210.lt Sf_t_210) sf0)) C_216.1
  have CR_222 := CHr.trans CR_216 C_222
  have le_222 : h_216.size ≤ T_222.heap.size := K_222.1
  have KP_222 := KP_216.trans K_222 (allS (Or.inr sz_b209) (allS (Or.inr sz_t_210) all0))
  have O_222 := O_216.keep K_222 (allS g_b209 (allS g_t_210 all0))
  refine Go.step st_222 ?_
  show Go p e below _ (T_222.setTop (mkF m 16 #[vR a1, vR a2] [(.ref b209)]))
  have hN2 : ms.length + ([(32 : Int32)] : List Int32).length ≤ ((insB (List.replicate 16 (0 : Int32)) ([] : List Int32) ms)).length := by rw [hbl1]; simp only [List.length_append, List.length_cons, List.length_nil]; omega
  have hbl2 : (insB (insB (List.replicate 16 (0 : Int32)) ([] : List Int32) ms) ms ([(32 : Int32)] : List Int32)).length = 16 := (insB_len hN2).trans hbl1
  have hp2 := insB_take hN2 hp1
  show Go p e below _ (T_222.setTop (mkF m 16 #[vR a1, vR a2] [(.ref b209)]))
  obtain ⟨a_223, T_223, h_223, k1_223, t_223, kb_223, X_223, e_223, E_223, hS_223, hk_223, hZ_223, hown_223, Ex_223, Fc_223, Fv_223, Av_223, lta_223, ltb_223, C_223, Lt_223, -, st_223⟩ := ldcCH X_222 hx hZ_216 hown_216 (wd_110 hw) hwS rfl hS_216 (Nat.le_trans hk_216 le_222) hEL (by decide) C_222.1 (vs := [(.int (47 : Int32)), (.int (118 : Int32)), (.int (49 : Int32))]) (z := (3 : Int32)) ⟨by decide, by decide⟩ (by decide) (by decide) (g := (mkF m 16 #[vR a1, vR a2] [(.ref b209)])) rfl (hb hby d_prog_17_method_3_code_16) (n := 12) (by decide) (by decide) (by decide) (by decide)
  refine Go.step st_223 ?_
  have CR_223 := CHr.trans CR_222 C_223
  have le_223 : T_222.heap.size ≤ h_223.size := E_223.1
  have KP_223 := KP_222.ext E_223
  have O_223 := O_222.ext E_223
  have Sx_223 : Str Z h_223.size h_223 a_223 ([(47 : Int32), (118 : Int32), (49 : Int32)] : List Int32) := ⟨t_223, kb_223, lta_223, ltb_223, Ex_223, Fv_223, Fc_223, Av_223, by decide, by decide⟩
  show Go p e below _ (T_223.setTop (mkF m 18 #[vR a1, vR a2] [(.ref a_223), (.ref b209)]))
  have f224 : Exa Z h_223 b209 "java/lang/StringBuilder" := ((f217.keep K_222).ext E_223)
  have f225 : Fld Z h_223 b209 "java/lang/AbstractStringBuilder" "value" "[B" (.ref t_210) := (u0_222.ext E_223)
  have f226 : Fld Z h_223 b209 "java/lang/AbstractStringBuilder" "coder" "B" (.int (0 : Int32)) := (u1_222.ext E_223)
  have f227 : Fld Z h_223 b209 "java/lang/AbstractStringBuilder" "count" "I" (.int (Int32.ofNat (ms ++ ([(32 : Int32)] : List Int32)).length)) := (u2_222.ext E_223)
  have f228 : Arv Z h_223 t_210 kt_210 .byte (16 : Int32) ((insB (insB (List.replicate 16 (0 : Int32)) ([] : List Int32) ms) ms ([(32 : Int32)] : List Int32)).map Value.int) (.int (0 : Int32)) := (u3_222.ext E_223)
  obtain ⟨v_229, T_229, L_229, X_229, hQ_229, st_229⟩ := goV X_223 hx hZ_223 (y := Y_29) (z := Y_29) hown_223 (wd_62 hw) (wd_63 hw) (notFace_of_selects (args := #[]) (mvT hZ_223 (wd_65 hw))) (wd_65 hw) (wd_64 hw) (by decide) (backOf (W := 0) (rm_sbaN l Z a0 hw zc vfm (b209) (t_210) (kt_210) ((insB (insB (List.replicate 16 (0 : Int32)) ([] : List Int32) ms) ms ([(32 : Int32)] : List Int32))) ((ms ++ ([(32 : Int32)] : List Int32))) (a_223) (([(47 : Int32), (118 : Int32), (49 : Int32)] : List Int32)) h_223 n0 (Nat.le_trans Z0 KP_223.1) f224 f225 f226 f227 f228 g_b209 g_t_210 Sx_223 hbl2 (by simp only [List.length_append, List.length_cons, List.length_nil]; omega) hSt O_223) hZ_223 (wd_66 hw) (wd_46 hw) (by decide) (by decide)) e_223 f224 (g := (mkF m 18 #[vR a1, vR a2] [(.ref a_223), (.ref b209)])) rfl (by rw [hml]; rfl) (argsL := [(.ref a_223)]) (rest := []) rfl (lenOf pd_23 rfl) rfl (by show 2 * 0 + _ ≤ _; exact Nat.le_of_eq rfl) (hb hby d_prog_17_method_3_code_18) (by decide) (by decide)
  obtain ⟨rfl, Nq_229, K_229, u0_229, u1_229, u2_229, u3_229⟩ := hQ_229
  have N_229 := Fr.app N_222 Nq_229
  have C_229 := CHr.keep K_229 (sfS (Safe.exa hZ_223.alike f224 (by decide) (by decide)) (sfS (CHr.safe (CHr.trans (CHr.trans (CHr.trans C_214 C_216) C_222) C_223) u2_210.lt Sf_t_210) sf0)) C_223.1
  have CR_229 := CHr.trans CR_223 C_229
  have le_229 : h_223.size ≤ T_229.heap.size := K_229.1
  have KP_229 := KP_223.trans K_229 (allS (Or.inr sz_b209) (allS (Or.inr sz_t_210) all0))
  have O_229 := O_223.keep K_229 (allS g_b209 (allS g_t_210 all0))
  refine Go.step st_229 ?_
  show Go p e below _ (T_229.setTop (mkF m 21 #[vR a1, vR a2] [(.ref b209)]))
  have hN3 : (ms ++ ([(32 : Int32)] : List Int32)).length + ([(47 : Int32), (118 : Int32), (49 : Int32)] : List Int32).length ≤ ((insB (insB (List.replicate 16 (0 : Int32)) ([] : List Int32) ms) ms ([(32 : Int32)] : List Int32))).length := by rw [hbl2]; simp only [List.length_append, List.length_cons, List.length_nil]; omega
  have hbl3 : (insB (insB (insB (List.replicate 16 (0 : Int32)) ([] : List Int32) ms) ms ([(32 : Int32)] : List Int32)) (ms ++ ([(32 : Int32)] : List Int32)) ([(47 : Int32), (118 : Int32), (49 : Int32)] : List Int32)).length = 16 := (insB_len hN3).trans hbl2
  have hp3 := insB_take hN3 hp2
  show Go p e below _ (T_229.setTop (mkF m 21 #[vR a1, vR a2] [(.ref b209)]))
  obtain ⟨a_230, T_230, h_230, k1_230, t_230, kb_230, X_230, e_230, E_230, hS_230, hk_230, hZ_230, hown_230, Ex_230, Fc_230, Fv_230, Av_230, lta_230, ltb_230, C_230, Lt_230, -, st_230⟩ := ldcCH X_229 hx hZ_223 hown_223 (wd_111 hw) hwS rfl hS_223 (Nat.le_trans hk_223 le_229) hEL (by decide) C_229.1 (vs := [(.int (47 : Int32)), (.int (123 : Int32)), (.int (112 : Int32)), (.int (114 : Int32)), (.int (101 : Int32)), (.int (102 : Int32)), (.int (105 : Int32)), (.int (120 : Int32)), (.int (125 : Int32))]) (z := (9 : Int32)) ⟨by decide, by decide⟩ (by decide) (by decide) (g := (mkF m 21 #[vR a1, vR a2] [(.ref b209)])) rfl (hb hby d_prog_17_method_3_code_21) (n := 36) (by decide) (by decide) (by decide) (by decide)
  refine Go.step st_230 ?_
  have CR_230 := CHr.trans CR_229 C_230
  have le_230 : T_229.heap.size ≤ h_230.size := E_230.1
  have KP_230 := KP_229.ext E_230
  have O_230 := O_229.ext E_230
  have Sx_230 : Str Z h_230.size h_230 a_230 ([(47 : Int32), (123 : Int32), (112 : Int32), (114 : Int32), (101 : Int32), (102 : Int32), (105 : Int32), (120 : Int32), (125 : Int32)] : List Int32) := ⟨t_230, kb_230, lta_230, ltb_230, Ex_230, Fv_230, Fc_230, Av_230, by decide, by decide⟩
  show Go p e below _ (T_230.setTop (mkF m 23 #[vR a1, vR a2] [(.ref a_230), (.ref b209)]))
  have f231 : Exa Z h_230 b209 "java/lang/StringBuilder" := ((f224.keep K_229).ext E_230)
  have f232 : Fld Z h_230 b209 "java/lang/AbstractStringBuilder" "value" "[B" (.ref t_210) := (u0_229.ext E_230)
  have f233 : Fld Z h_230 b209 "java/lang/AbstractStringBuilder" "coder" "B" (.int (0 : Int32)) := (u1_229.ext E_230)
  have f234 : Fld Z h_230 b209 "java/lang/AbstractStringBuilder" "count" "I" (.int (Int32.ofNat ((ms ++ ([(32 : Int32)] : List Int32)) ++ ([(47 : Int32), (118 : Int32), (49 : Int32)] : List Int32)).length)) := (u2_229.ext E_230)
  have f235 : Arv Z h_230 t_210 kt_210 .byte (16 : Int32) ((insB (insB (insB (List.replicate 16 (0 : Int32)) ([] : List Int32) ms) ms ([(32 : Int32)] : List Int32)) (ms ++ ([(32 : Int32)] : List Int32)) ([(47 : Int32), (118 : Int32), (49 : Int32)] : List Int32)).map Value.int) (.int (0 : Int32)) := (u3_229.ext E_230)
  obtain ⟨v_236, T_236, L_236, X_236, hQ_236, st_236⟩ := goV X_230 hx hZ_230 (y := Y_29) (z := Y_29) hown_230 (wd_62 hw) (wd_63 hw) (notFace_of_selects (args := #[]) (mvT hZ_230 (wd_65 hw))) (wd_65 hw) (wd_64 hw) (by decide) (backOf (W := 0) (rm_sbaN l Z a0 hw zc vfm (b209) (t_210) (kt_210) ((insB (insB (insB (List.replicate 16 (0 : Int32)) ([] : List Int32) ms) ms ([(32 : Int32)] : List Int32)) (ms ++ ([(32 : Int32)] : List Int32)) ([(47 : Int32), (118 : Int32), (49 : Int32)] : List Int32))) (((ms ++ ([(32 : Int32)] : List Int32)) ++ ([(47 : Int32), (118 : Int32), (49 : Int32)] : List Int32))) (a_230) (([(47 : Int32), (123 : Int32), (112 : Int32), (114 : Int32), (101 : Int32), (102 : Int32), (105 : Int32), (120 : Int32), (125 : Int32)] : List Int32)) h_230 n0 (Nat.le_trans Z0 KP_230.1) f231 f232 f233 f234 f235 g_b209 g_t_210 Sx_230 hbl3 (by simp only [List.length_append, List.length_cons, List.length_nil]; omega) hSt O_230) hZ_230 (wd_66 hw) (wd_46 hw) (by decide) (by decide)) e_230 f231 (g := (mkF m 23 #[vR a1, vR a2] [(.ref a_230), (.ref b209)])) rfl (by rw [hml]; rfl) (argsL := [(.ref a_230)]) (rest := []) rfl (lenOf pd_23 rfl) rfl (by show 2 * 0 + _ ≤ _; exact Nat.le_of_eq rfl) (hb hby d_prog_17_method_3_code_23) (by decide) (by decide)
  obtain ⟨rfl, Nq_236, K_236, u0_236, u1_236, u2_236, u3_236⟩ := hQ_236
  have N_236 := Fr.app N_229 Nq_236
  have C_236 := CHr.keep K_236 (sfS (Safe.exa hZ_230.alike f231 (by decide) (by decide)) (sfS (CHr.safe (CHr.trans (CHr.trans (CHr.trans (CHr.trans (CHr.trans C_214 C_216) C_222) C_223) C_229) C_230) u2_210.lt Sf_t_210) sf0)) C_230.1
  have CR_236 := CHr.trans CR_230 C_236
  have le_236 : h_230.size ≤ T_236.heap.size := K_236.1
  have KP_236 := KP_230.trans K_236 (allS (Or.inr sz_b209) (allS (Or.inr sz_t_210) all0))
  have O_236 := O_230.keep K_236 (allS g_b209 (allS g_t_210 all0))
  refine Go.step st_236 ?_
  show Go p e below _ (T_236.setTop (mkF m 26 #[vR a1, vR a2] [(.ref b209)]))
  have hN4 : ((ms ++ ([(32 : Int32)] : List Int32)) ++ ([(47 : Int32), (118 : Int32), (49 : Int32)] : List Int32)).length + ([(47 : Int32), (123 : Int32), (112 : Int32), (114 : Int32), (101 : Int32), (102 : Int32), (105 : Int32), (120 : Int32), (125 : Int32)] : List Int32).length ≤ ((insB (insB (insB (List.replicate 16 (0 : Int32)) ([] : List Int32) ms) ms ([(32 : Int32)] : List Int32)) (ms ++ ([(32 : Int32)] : List Int32)) ([(47 : Int32), (118 : Int32), (49 : Int32)] : List Int32))).length := by rw [hbl3]; simp only [List.length_append, List.length_cons, List.length_nil]; omega
  have hbl4 : (insB (insB (insB (insB (List.replicate 16 (0 : Int32)) ([] : List Int32) ms) ms ([(32 : Int32)] : List Int32)) (ms ++ ([(32 : Int32)] : List Int32)) ([(47 : Int32), (118 : Int32), (49 : Int32)] : List Int32)) ((ms ++ ([(32 : Int32)] : List Int32)) ++ ([(47 : Int32), (118 : Int32), (49 : Int32)] : List Int32)) ([(47 : Int32), (123 : Int32), (112 : Int32), (114 : Int32), (101 : Int32), (102 : Int32), (105 : Int32), (120 : Int32), (125 : Int32)] : List Int32)).length = 16 := (insB_len hN4).trans hbl3
  have hp4 := insB_take hN4 hp3
  show Go p e below _ (T_236.setTop (mkF m 26 #[vR a1, vR a2] [(.ref b209)]))
  refine Go.step (fun _ k => XS.aloadN X_236.here hx rfl (hb hby d_prog_17_method_3_code_26) rfl rfl k) ?_
  show Go p e below _ (T_236.setTop (mkF m 27 #[vR a1, vR a2] [(.ref a2), (.ref b209)]))
  obtain ⟨a_237, T_237, h_237, k1_237, t_237, kb_237, X_237, e_237, E_237, hS_237, hk_237, hZ_237, hown_237, Ex_237, Fc_237, Fv_237, Av_237, lta_237, ltb_237, C_237, Lt_237, -, st_237⟩ := ldcCH X_236 hx hZ_230 hown_230 (wd_110 hw) hwS rfl hS_230 (Nat.le_trans hk_230 le_236) hEL (by decide) C_236.1 (vs := [(.int (47 : Int32)), (.int (118 : Int32)), (.int (49 : Int32))]) (z := (3 : Int32)) ⟨by decide, by decide⟩ (by decide) (by decide) (g := (mkF m 27 #[vR a1, vR a2] [(.ref a2), (.ref b209)])) rfl (hb hby d_prog_17_method_3_code_27) (n := 12) (by decide) (by decide) (by decide) (by decide)
  refine Go.step st_237 ?_
  have CR_237 := CHr.trans CR_236 C_237
  have le_237 : T_236.heap.size ≤ h_237.size := E_237.1
  have KP_237 := KP_236.ext E_237
  have O_237 := O_236.ext E_237
  have Sx_237 : Str Z h_237.size h_237 a_237 ([(47 : Int32), (118 : Int32), (49 : Int32)] : List Int32) := ⟨t_237, kb_237, lta_237, ltb_237, Ex_237, Fv_237, Fc_237, Av_237, by decide, by decide⟩
  show Go p e below _ (T_237.setTop (mkF m 29 #[vR a1, vR a2] [(.ref a_237), (.ref a2), (.ref b209)]))
  have cp238 := Sx_237
  obtain ⟨t239, kb239, -, -, Ex239, Fv239, Fc239, Av239, hl239, hn239⟩ := cp238
  obtain ⟨v_240, T_240, L_240, X_240, hQ_240, st_240⟩ := goV X_237 hx hZ_237 (y := Y_9) (z := Y_9) (kc := 0) (ks := 0) (QQ := fun v h' L => v = some (.int (3 : Int32)) ∧ L = [] ∧ h' = h_237) hown_237 (wd_112 hw) (wd_73 hw) (notFace_of_selects (args := #[]) (mvT hZ_237 (wd_75 hw))) (wd_75 hw) (wd_74 hw) (by decide) (StrChars.Road.lenW (W := 2) (s := s.setVm T_237.vm) hZ_237 (sw_wordsLen hw) (kI := 4) (wd_5 hw) Ex239 Fv239 Fc239 Av239 (StrChars.Road.codOf rfl (fun c hc => (hl239 c hc).2)) (up255 hl239) (S_cs.ext O_237.2) n_cs hn239 (by decide) (by decide)) e_237 Ex239 (g := (mkF m 29 #[vR a1, vR a2] [(.ref a_237), (.ref a2), (.ref b209)])) rfl (by rw [hml]; rfl) (argsL := []) (rest := [(.ref a2), (.ref b209)]) rfl (lenOf pd_8 rfl) rfl (by show 2 * 0 + _ ≤ _; exact Nat.le_of_eq rfl) (hb hby d_prog_17_method_3_code_29) (by decide) (by decide)
  obtain ⟨rfl, rfl, e_240⟩ := hQ_240
  have N_240 := Fr.app N_236 (Fr.nil n0)
  refine Go.step st_240 ?_
  show Go p e below _ (T_240.setTop (mkF m 32 #[vR a1, vR a2] [(.int (3 : Int32)), (.ref a2), (.ref b209)]))
  have f241 : Str Z h0.size h_237 a2 ps := ((((((((((S_a2.ext E_209).keep K_210 (allS (Nat.le_trans (Nat.le_refl _) ge_209) all0)).keep K_214 (allS (Nat.le_trans (Nat.le_refl _) ge_209) (allS (Nat.le_trans le_209 u1_210) all0))).ext E_216).keep K_222 (allS (Nat.le_trans (Nat.le_refl _) ge_209) (allS (Nat.le_trans le_209 u1_210) all0))).ext E_223).keep K_229 (allS (Nat.le_trans (Nat.le_refl _) ge_209) (allS (Nat.le_trans le_209 u1_210) all0))).ext E_230).keep K_236 (allS (Nat.le_trans (Nat.le_refl _) ge_209) (allS (Nat.le_trans le_209 u1_210) all0))).ext E_237)
  obtain ⟨v_242, T_242, L_242, X_242, hQ_242, hS_242, hZ_242, hown_242, C_242, st_242⟩ := goVW X_240 hx hZ_237 (y := Y_30) (z := Y_30) hown_237 hS_237 hk_237 (wd_113 hw) (wd_114 hw) (notFace_of_selects (args := #[]) (mvT hZ_237 (wd_116 hw))) (wd_116 hw) (wd_115 hw) (by decide) (backOfSH (W := 1) (rm_sub1 l Z a0 hw zc vfm (a2) (ps) h_237 n0 (Nat.le_trans Z0 KP_237.1) (f241.mono (Nat.le_trans le_209 (Nat.le_trans le_210 (Nat.le_trans le_214 (Nat.le_trans le_216 (Nat.le_trans le_222 (Nat.le_trans le_223 (Nat.le_trans le_229 (Nat.le_trans le_230 (Nat.le_trans le_236 le_237)))))))))) ⟨hps.1, by omega⟩ hSt O_237) hZ_237 (wd_117 hw) (wd_6 hw) (by decide) (by decide) hEL C_237.1) e_240 f241.exa (g := (mkF m 32 #[vR a1, vR a2] [(.int (3 : Int32)), (.ref a2), (.ref b209)])) rfl (by rw [hml]; rfl) (argsL := [(.int (3 : Int32))]) (rest := [(.ref b209)]) rfl (lenOf pd_24 rfl) rfl (by show 2 * 0 + _ ≤ _; exact Nat.le_of_eq rfl) (hb hby d_prog_17_method_3_code_32) (by decide) (by decide)
  obtain ⟨r_242, rfl, Nq_242, K_242, u0_242⟩ := hQ_242
  have N_242 := Fr.app N_240 Nq_242
  have CR_242 := CHr.trans CR_237 C_242
  have le_242 : h_237.size ≤ T_242.heap.size := K_242.1
  have KP_242 := KP_237.trans K_242 all0
  have O_242 := O_237.keep K_242 all0
  refine Go.step st_242 ?_
  show Go p e below _ (T_242.setTop (mkF m 35 #[vR a1, vR a2] [(.ref r_242), (.ref b209)]))
  by_cases hg : (((ms ++ ([(32 : Int32)] : List Int32)) ++ ([(47 : Int32), (118 : Int32), (49 : Int32)] : List Int32)) ++ ([(47 : Int32), (123 : Int32), (112 : Int32), (114 : Int32), (101 : Int32), (102 : Int32), (105 : Int32), (120 : Int32), (125 : Int32)] : List Int32)).length + (ps.drop 3).length ≤ 16
  · skip
    show Go p e below _ (T_242.setTop (mkF m 35 #[vR a1, vR a2] [(.ref r_242), (.ref b209)]))
    have f243 : Exa Z T_242.heap b209 "java/lang/StringBuilder" := (((f231.keep K_236).ext E_237).keep K_242)
    have f244 : Fld Z T_242.heap b209 "java/lang/AbstractStringBuilder" "value" "[B" (.ref t_210) := ((u0_236.ext E_237).keep K_242 nin0)
    have f245 : Fld Z T_242.heap b209 "java/lang/AbstractStringBuilder" "coder" "B" (.int (0 : Int32)) := ((u1_236.ext E_237).keep K_242 nin0)
    have f246 : Fld Z T_242.heap b209 "java/lang/AbstractStringBuilder" "count" "I" (.int (Int32.ofNat (((ms ++ ([(32 : Int32)] : List Int32)) ++ ([(47 : Int32), (118 : Int32), (49 : Int32)] : List Int32)) ++ ([(47 : Int32), (123 : Int32), (112 : Int32), (114 : Int32), (101 : Int32), (102 : Int32), (105 : Int32), (120 : Int32), (125 : Int32)] : List Int32)).length)) := ((u2_236.ext E_237).keep K_242 nin0)
    have f247 : Arv Z T_242.heap t_210 kt_210 .byte (16 : Int32) ((insB (insB (insB (insB (List.replicate 16 (0 : Int32)) ([] : List Int32) ms) ms ([(32 : Int32)] : List Int32)) (ms ++ ([(32 : Int32)] : List Int32)) ([(47 : Int32), (118 : Int32), (49 : Int32)] : List Int32)) ((ms ++ ([(32 : Int32)] : List Int32)) ++ ([(47 : Int32), (118 : Int32), (49 : Int32)] : List Int32)) ([(47 : Int32), (123 : Int32), (112 : Int32), (114 : Int32), (101 : Int32), (102 : Int32), (105 : Int32), (120 : Int32), (125 : Int32)] : List Int32)).map Value.int) (.int (0 : Int32)) := ((u3_236.ext E_237).keep K_242 nin0)
    obtain ⟨v_248, T_248, L_248, X_248, hQ_248, st_248⟩ := goV X_242 hx hZ_242 (y := Y_29) (z := Y_29) hown_242 (wd_62 hw) (wd_63 hw) (notFace_of_selects (args := #[]) (mvT hZ_242 (wd_65 hw))) (wd_65 hw) (wd_64 hw) (by decide) (backOf (W := 0) (rm_sbaN l Z a0 hw zc vfm (b209) (t_210) (kt_210) ((insB (insB (insB (insB (List.replicate 16 (0 : Int32)) ([] : List Int32) ms) ms ([(32 : Int32)] : List Int32)) (ms ++ ([(32 : Int32)] : List Int32)) ([(47 : Int32), (118 : Int32), (49 : Int32)] : List Int32)) ((ms ++ ([(32 : Int32)] : List Int32)) ++ ([(47 : Int32), (118 : Int32), (49 : Int32)] : List Int32)) ([(47 : Int32), (123 : Int32), (112 : Int32), (114 : Int32), (101 : Int32), (102 : Int32), (105 : Int32), (120 : Int32), (125 : Int32)] : List Int32))) ((((ms ++ ([(32 : Int32)] : List Int32)) ++ ([(47 : Int32), (118 : Int32), (49 : Int32)] : List Int32)) ++ ([(47 : Int32), (123 : Int32), (112 : Int32), (114 : Int32), (101 : Int32), (102 : Int32), (105 : Int32), (120 : Int32), (125 : Int32)] : List Int32))) (r_242) ((ps.drop 3)) T_242.heap n0 (Nat.le_trans Z0 KP_242.1) f243 f244 f245 f246 f247 g_b209 g_t_210 u0_242 hbl4 hg hSt O_242) hZ_242 (wd_66 hw) (wd_46 hw) (by decide) (by decide)) rfl f243 (g := (mkF m 35 #[vR a1, vR a2] [(.ref r_242), (.ref b209)])) rfl (by rw [hml]; rfl) (argsL := [(.ref r_242)]) (rest := []) rfl (lenOf pd_23 rfl) rfl (by show 2 * 0 + _ ≤ _; exact Nat.le_of_eq rfl) (hb hby d_prog_17_method_3_code_35) (by decide) (by decide)
    obtain ⟨rfl, Nq_248, K_248, u0_248, u1_248, u2_248, u3_248⟩ := hQ_248
    have N_248 := Fr.app N_242 Nq_248
    have C_248 := CHr.keep K_248 (sfS (Safe.exa hZ_242.alike f243 (by decide) (by decide)) (sfS (CHr.safe (CHr.trans (CHr.trans (CHr.trans (CHr.trans (CHr.trans (CHr.trans (CHr.trans (CHr.trans C_214 C_216) C_222) C_223) C_229) C_230) C_236) C_237) C_242) u2_210.lt Sf_t_210) sf0)) C_242.1
    have CR_248 := CHr.trans CR_242 C_248
    have le_248 : T_242.heap.size ≤ T_248.heap.size := K_248.1
    have KP_248 := KP_242.trans K_248 (allS (Or.inr sz_b209) (allS (Or.inr sz_t_210) all0))
    have O_248 := O_242.keep K_248 (allS g_b209 (allS g_t_210 all0))
    refine Go.step st_248 ?_
    show Go p e below _ (T_248.setTop (mkF m 38 #[vR a1, vR a2] [(.ref b209)]))
    have hN5 : (((ms ++ ([(32 : Int32)] : List Int32)) ++ ([(47 : Int32), (118 : Int32), (49 : Int32)] : List Int32)) ++ ([(47 : Int32), (123 : Int32), (112 : Int32), (114 : Int32), (101 : Int32), (102 : Int32), (105 : Int32), (120 : Int32), (125 : Int32)] : List Int32)).length + (ps.drop 3).length ≤ ((insB (insB (insB (insB (List.replicate 16 (0 : Int32)) ([] : List Int32) ms) ms ([(32 : Int32)] : List Int32)) (ms ++ ([(32 : Int32)] : List Int32)) ([(47 : Int32), (118 : Int32), (49 : Int32)] : List Int32)) ((ms ++ ([(32 : Int32)] : List Int32)) ++ ([(47 : Int32), (118 : Int32), (49 : Int32)] : List Int32)) ([(47 : Int32), (123 : Int32), (112 : Int32), (114 : Int32), (101 : Int32), (102 : Int32), (105 : Int32), (120 : Int32), (125 : Int32)] : List Int32))).length := by rw [hbl4]; exact hg
    have hbl5 : (insB (insB (insB (insB (insB (List.replicate 16 (0 : Int32)) ([] : List Int32) ms) ms ([(32 : Int32)] : List Int32)) (ms ++ ([(32 : Int32)] : List Int32)) ([(47 : Int32), (118 : Int32), (49 : Int32)] : List Int32)) ((ms ++ ([(32 : Int32)] : List Int32)) ++ ([(47 : Int32), (118 : Int32), (49 : Int32)] : List Int32)) ([(47 : Int32), (123 : Int32), (112 : Int32), (114 : Int32), (101 : Int32), (102 : Int32), (105 : Int32), (120 : Int32), (125 : Int32)] : List Int32)) (((ms ++ ([(32 : Int32)] : List Int32)) ++ ([(47 : Int32), (118 : Int32), (49 : Int32)] : List Int32)) ++ ([(47 : Int32), (123 : Int32), (112 : Int32), (114 : Int32), (101 : Int32), (102 : Int32), (105 : Int32), (120 : Int32), (125 : Int32)] : List Int32)) (ps.drop 3)).length = 16 := (insB_len hN5).trans hbl4
    have hp5 := insB_take hN5 hp4
    show Go p e below _ (T_248.setTop (mkF m 38 #[vR a1, vR a2] [(.ref b209)]))
    by_cases h16 : ((((ms ++ ([(32 : Int32)] : List Int32)) ++ ([(47 : Int32), (118 : Int32), (49 : Int32)] : List Int32)) ++ ([(47 : Int32), (123 : Int32), (112 : Int32), (114 : Int32), (101 : Int32), (102 : Int32), (105 : Int32), (120 : Int32), (125 : Int32)] : List Int32)) ++ (ps.drop 3)).length = 16
    · skip
      show Go p e below _ (T_248.setTop (mkF m 38 #[vR a1, vR a2] [(.ref b209)]))
      have f249 : Exa Z T_248.heap b209 "java/lang/StringBuilder" := (f243.keep K_248)
      have f250 : Exa Z T_248.heap t_210 "[B" := ((((((((((u2_210.keep K_214).ext E_216).keep K_222).ext E_223).keep K_229).ext E_230).keep K_236).ext E_237).keep K_242).keep K_248)
      obtain ⟨v_251, T_251, L_251, X_251, hQ_251, st_251⟩ := goV X_248 hx hZ_242 (y := Y_31) (z := Y_31) hown_242 (wd_142 hw) (wd_143 hw) (notFace_of_selects (args := #[]) (mvT hZ_242 (wd_145 hw))) (wd_145 hw) (wd_144 hw) (by decide) (backOf (W := 0) (rm_tsC l Z a0 hw zc vfm (b209) (t_210) (kt_210) ((insB (insB (insB (insB (insB (List.replicate 16 (0 : Int32)) ([] : List Int32) ms) ms ([(32 : Int32)] : List Int32)) (ms ++ ([(32 : Int32)] : List Int32)) ([(47 : Int32), (118 : Int32), (49 : Int32)] : List Int32)) ((ms ++ ([(32 : Int32)] : List Int32)) ++ ([(47 : Int32), (118 : Int32), (49 : Int32)] : List Int32)) ([(47 : Int32), (123 : Int32), (112 : Int32), (114 : Int32), (101 : Int32), (102 : Int32), (105 : Int32), (120 : Int32), (125 : Int32)] : List Int32)) (((ms ++ ([(32 : Int32)] : List Int32)) ++ ([(47 : Int32), (118 : Int32), (49 : Int32)] : List Int32)) ++ ([(47 : Int32), (123 : Int32), (112 : Int32), (114 : Int32), (101 : Int32), (102 : Int32), (105 : Int32), (120 : Int32), (125 : Int32)] : List Int32)) (ps.drop 3))) (((((ms ++ ([(32 : Int32)] : List Int32)) ++ ([(47 : Int32), (118 : Int32), (49 : Int32)] : List Int32)) ++ ([(47 : Int32), (123 : Int32), (112 : Int32), (114 : Int32), (101 : Int32), (102 : Int32), (105 : Int32), (120 : Int32), (125 : Int32)] : List Int32)) ++ (ps.drop 3))) T_248.heap n0 (Nat.le_trans Z0 KP_248.1) f249 u0_248 u1_248 u2_248 u3_248 f250 ⟨hbl5, h16⟩ hp5 (lat_app (lat_app (lat_app (lat_app hlm (by decide)) (by decide)) (by decide)) (lat_drop hlp)) hSt O_248) hZ_242 (wd_146 hw) (wd_46 hw) (by decide) (by decide)) rfl f249 (g := (mkF m 38 #[vR a1, vR a2] [(.ref b209)])) rfl (by rw [hml]; rfl) (argsL := []) (rest := []) rfl (lenOf pd_25 rfl) rfl (by show 2 * 0 + _ ≤ _; exact Nat.le_of_eq rfl) (hb hby d_prog_17_method_3_code_38) (by decide) (by decide)
      obtain ⟨r_251, rfl, Nq_251, K_251, u0_251, u1_251⟩ := hQ_251
      have N_251 := Fr.app N_248 Nq_251
      have C_251 := CHr.keep K_251 sf0 C_248.1
      have CR_251 := CHr.trans CR_248 C_251
      have le_251 : T_248.heap.size ≤ T_251.heap.size := K_251.1
      have KP_251 := KP_248.trans K_251 all0
      have O_251 := O_248.keep K_251 all0
      have sz_r_251 : h0.size ≤ r_251 := Nat.le_trans (Nat.le_trans le_209 (Nat.le_trans le_210 (Nat.le_trans le_214 (Nat.le_trans le_216 (Nat.le_trans le_222 (Nat.le_trans le_223 (Nat.le_trans le_229 (Nat.le_trans le_230 (Nat.le_trans le_236 (Nat.le_trans le_237 (Nat.le_trans le_242 le_248))))))))))) u0_251
      have g_r_251 : n0 ≤ r_251 := Nat.le_trans Z0 sz_r_251
      have Sf_r_251 := Safe.keep K_251 sf0 C_248.1 (Safe.new u0_251)
      refine Go.step st_251 ?_
      show Go p e below _ (T_251.setTop (mkF m 41 #[vR a1, vR a2] [(.ref r_251)]))
      exact Go.retVW X_251 rfl hS_242 (Nat.le_trans (Nat.le_refl _) (Nat.le_trans le_248 le_251)) hZ_242 hEL hh0 CR_251 hx hlk hret rfl (Or.inr (Or.inr (Or.inr (Or.inr ⟨rfl, rfl, rfl⟩)))) (hb hby d_prog_17_method_3_code_41) (by decide) (by decide) (by exact ⟨r_251, rfl, N_251, KP_251, sz_r_251, u1_251⟩)
    · skip
      show Go p e below _ (T_248.setTop (mkF m 38 #[vR a1, vR a2] [(.ref b209)]))
      have f252 : Exa Z T_248.heap b209 "java/lang/StringBuilder" := (f243.keep K_248)
      obtain ⟨v_253, T_253, L_253, X_253, hQ_253, st_253⟩ := goV X_248 hx hZ_242 (y := Y_31) (z := Y_31) hown_242 (wd_142 hw) (wd_143 hw) (notFace_of_selects (args := #[]) (mvT hZ_242 (wd_145 hw))) (wd_145 hw) (wd_144 hw) (by decide) (backOf (W := 0) (rm_tsN l Z a0 hw zc vfm (b209) (t_210) (kt_210) ((16 : Int32)) ((insB (insB (insB (insB (insB (List.replicate 16 (0 : Int32)) ([] : List Int32) ms) ms ([(32 : Int32)] : List Int32)) (ms ++ ([(32 : Int32)] : List Int32)) ([(47 : Int32), (118 : Int32), (49 : Int32)] : List Int32)) ((ms ++ ([(32 : Int32)] : List Int32)) ++ ([(47 : Int32), (118 : Int32), (49 : Int32)] : List Int32)) ([(47 : Int32), (123 : Int32), (112 : Int32), (114 : Int32), (101 : Int32), (102 : Int32), (105 : Int32), (120 : Int32), (125 : Int32)] : List Int32)) (((ms ++ ([(32 : Int32)] : List Int32)) ++ ([(47 : Int32), (118 : Int32), (49 : Int32)] : List Int32)) ++ ([(47 : Int32), (123 : Int32), (112 : Int32), (114 : Int32), (101 : Int32), (102 : Int32), (105 : Int32), (120 : Int32), (125 : Int32)] : List Int32)) (ps.drop 3))) (((((ms ++ ([(32 : Int32)] : List Int32)) ++ ([(47 : Int32), (118 : Int32), (49 : Int32)] : List Int32)) ++ ([(47 : Int32), (123 : Int32), (112 : Int32), (114 : Int32), (101 : Int32), (102 : Int32), (105 : Int32), (120 : Int32), (125 : Int32)] : List Int32)) ++ (ps.drop 3))) T_248.heap n0 (Nat.le_trans Z0 KP_248.1) f252 u0_248 u1_248 u2_248 u3_248 (by rw [hbl5]; rfl) ⟨by rw [hbl5]; decide, by rw [hbl5]; have q := hg; rw [← List.length_append] at q; omega, by have q := hg; rw [← List.length_append] at q; omega⟩ hp5 (lat_app (lat_app (lat_app (lat_app hlm (by decide)) (by decide)) (by decide)) (lat_drop hlp)) hSt O_248) hZ_242 (wd_146 hw) (wd_46 hw) (by decide) (by decide)) rfl f252 (g := (mkF m 38 #[vR a1, vR a2] [(.ref b209)])) rfl (by rw [hml]; rfl) (argsL := []) (rest := []) rfl (lenOf pd_25 rfl) rfl (by show 2 * 0 + _ ≤ _; exact Nat.le_of_eq rfl) (hb hby d_prog_17_method_3_code_38) (by decide) (by decide)
      obtain ⟨r_253, rfl, Nq_253, K_253, u0_253, u1_253⟩ := hQ_253
      have N_253 := Fr.app N_248 Nq_253
      have C_253 := CHr.keep K_253 sf0 C_248.1
      have CR_253 := CHr.trans CR_248 C_253
      have le_253 : T_248.heap.size ≤ T_253.heap.size := K_253.1
      have KP_253 := KP_248.trans K_253 all0
      have O_253 := O_248.keep K_253 all0
      have sz_r_253 : h0.size ≤ r_253 := Nat.le_trans (Nat.le_trans le_209 (Nat.le_trans le_210 (Nat.le_trans le_214 (Nat.le_trans le_216 (Nat.le_trans le_222 (Nat.le_trans le_223 (Nat.le_trans le_229 (Nat.le_trans le_230 (Nat.le_trans le_236 (Nat.le_trans le_237 (Nat.le_trans le_242 le_248))))))))))) u0_253
      have g_r_253 : n0 ≤ r_253 := Nat.le_trans Z0 sz_r_253
      have Sf_r_253 := Safe.keep K_253 sf0 C_248.1 (Safe.new u0_253)
      refine Go.step st_253 ?_
      show Go p e below _ (T_253.setTop (mkF m 41 #[vR a1, vR a2] [(.ref r_253)]))
      exact Go.retVW X_253 rfl hS_242 (Nat.le_trans (Nat.le_refl _) (Nat.le_trans le_248 le_253)) hZ_242 hEL hh0 CR_253 hx hlk hret rfl (Or.inr (Or.inr (Or.inr (Or.inr ⟨rfl, rfl, rfl⟩)))) (hb hby d_prog_17_method_3_code_41) (by decide) (by decide) (by exact ⟨r_253, rfl, N_253, KP_253, sz_r_253, u1_253⟩)
  · skip
    show Go p e below _ (T_242.setTop (mkF m 35 #[vR a1, vR a2] [(.ref r_242), (.ref b209)]))
    have f254 : Exa Z T_242.heap b209 "java/lang/StringBuilder" := (((f231.keep K_236).ext E_237).keep K_242)
    have f255 : Fld Z T_242.heap b209 "java/lang/AbstractStringBuilder" "value" "[B" (.ref t_210) := ((u0_236.ext E_237).keep K_242 nin0)
    have f256 : Fld Z T_242.heap b209 "java/lang/AbstractStringBuilder" "coder" "B" (.int (0 : Int32)) := ((u1_236.ext E_237).keep K_242 nin0)
    have f257 : Fld Z T_242.heap b209 "java/lang/AbstractStringBuilder" "count" "I" (.int (Int32.ofNat (((ms ++ ([(32 : Int32)] : List Int32)) ++ ([(47 : Int32), (118 : Int32), (49 : Int32)] : List Int32)) ++ ([(47 : Int32), (123 : Int32), (112 : Int32), (114 : Int32), (101 : Int32), (102 : Int32), (105 : Int32), (120 : Int32), (125 : Int32)] : List Int32)).length)) := ((u2_236.ext E_237).keep K_242 nin0)
    have f258 : Arv Z T_242.heap t_210 kt_210 .byte (16 : Int32) ((insB (insB (insB (insB (List.replicate 16 (0 : Int32)) ([] : List Int32) ms) ms ([(32 : Int32)] : List Int32)) (ms ++ ([(32 : Int32)] : List Int32)) ([(47 : Int32), (118 : Int32), (49 : Int32)] : List Int32)) ((ms ++ ([(32 : Int32)] : List Int32)) ++ ([(47 : Int32), (118 : Int32), (49 : Int32)] : List Int32)) ([(47 : Int32), (123 : Int32), (112 : Int32), (114 : Int32), (101 : Int32), (102 : Int32), (105 : Int32), (120 : Int32), (125 : Int32)] : List Int32)).map Value.int) (.int (0 : Int32)) := ((u3_236.ext E_237).keep K_242 nin0)
    obtain ⟨v_259, T_259, L_259, X_259, hQ_259, st_259⟩ := goV X_242 hx hZ_242 (y := Y_29) (z := Y_29) hown_242 (wd_62 hw) (wd_63 hw) (notFace_of_selects (args := #[]) (mvT hZ_242 (wd_65 hw))) (wd_65 hw) (wd_64 hw) (by decide) (backOf (W := 0) (rm_sbaG l Z a0 hw zc vfm (b209) (t_210) (kt_210) ((insB (insB (insB (insB (List.replicate 16 (0 : Int32)) ([] : List Int32) ms) ms ([(32 : Int32)] : List Int32)) (ms ++ ([(32 : Int32)] : List Int32)) ([(47 : Int32), (118 : Int32), (49 : Int32)] : List Int32)) ((ms ++ ([(32 : Int32)] : List Int32)) ++ ([(47 : Int32), (118 : Int32), (49 : Int32)] : List Int32)) ([(47 : Int32), (123 : Int32), (112 : Int32), (114 : Int32), (101 : Int32), (102 : Int32), (105 : Int32), (120 : Int32), (125 : Int32)] : List Int32))) ((((ms ++ ([(32 : Int32)] : List Int32)) ++ ([(47 : Int32), (118 : Int32), (49 : Int32)] : List Int32)) ++ ([(47 : Int32), (123 : Int32), (112 : Int32), (114 : Int32), (101 : Int32), (102 : Int32), (105 : Int32), (120 : Int32), (125 : Int32)] : List Int32))) (r_242) ((ps.drop 3)) T_242.heap n0 (Nat.le_trans Z0 KP_242.1) f254 f255 f256 f257 f258 g_b209 g_t_210 u0_242 hbl4 (by simp only [List.length_append, List.length_drop, List.length_cons, List.length_nil] at hg ⊢; omega) (by simp only [List.length_append, List.length_cons, List.length_nil]; omega) hSt O_242) hZ_242 (wd_66 hw) (wd_46 hw) (by decide) (by decide)) rfl f254 (g := (mkF m 35 #[vR a1, vR a2] [(.ref r_242), (.ref b209)])) rfl (by rw [hml]; rfl) (argsL := [(.ref r_242)]) (rest := []) rfl (lenOf pd_23 rfl) rfl (by show 2 * 0 + _ ≤ _; exact Nat.le_of_eq rfl) (hb hby d_prog_17_method_3_code_35) (by decide) (by decide)
    obtain ⟨r_259, kr_259, rfl, Nq_259, K_259, u0_259, u1_259, u2_259, u3_259, u4_259⟩ := hQ_259
    have N_259 := Fr.app N_242 Nq_259
    have C_259 := CHr.keep K_259 (sfS (Safe.exa hZ_242.alike f254 (by decide) (by decide)) sf0) C_242.1
    have CR_259 := CHr.trans CR_242 C_259
    have le_259 : T_242.heap.size ≤ T_259.heap.size := K_259.1
    have KP_259 := KP_242.trans K_259 (allS (Or.inr sz_b209) all0)
    have O_259 := O_242.keep K_259 (allS g_b209 all0)
    have sz_r_259 : h0.size ≤ r_259 := Nat.le_trans (Nat.le_trans le_209 (Nat.le_trans le_210 (Nat.le_trans le_214 (Nat.le_trans le_216 (Nat.le_trans le_222 (Nat.le_trans le_223 (Nat.le_trans le_229 (Nat.le_trans le_230 (Nat.le_trans le_236 (Nat.le_trans le_237 le_242)))))))))) u1_259
    have g_r_259 : n0 ≤ r_259 := Nat.le_trans Z0 sz_r_259
    have Sf_r_259 := Safe.keep K_259 (sfS (Safe.exa hZ_242.alike f254 (by decide) (by decide)) sf0) C_242.1 (Safe.new u1_259)
    refine Go.step st_259 ?_
    show Go p e below _ (T_259.setTop (mkF m 38 #[vR a1, vR a2] [(.ref b209)]))
    have hq : (((insB (insB (insB (insB (List.replicate 16 (0 : Int32)) ([] : List Int32) ms) ms ([(32 : Int32)] : List Int32)) (ms ++ ([(32 : Int32)] : List Int32)) ([(47 : Int32), (118 : Int32), (49 : Int32)] : List Int32)) ((ms ++ ([(32 : Int32)] : List Int32)) ++ ([(47 : Int32), (118 : Int32), (49 : Int32)] : List Int32)) ([(47 : Int32), (123 : Int32), (112 : Int32), (114 : Int32), (101 : Int32), (102 : Int32), (105 : Int32), (120 : Int32), (125 : Int32)] : List Int32)) ++ List.replicate 18 (0 : Int32))).length = 34 := by rw [List.length_append, hbl4]; decide
    have hN5 : (((ms ++ ([(32 : Int32)] : List Int32)) ++ ([(47 : Int32), (118 : Int32), (49 : Int32)] : List Int32)) ++ ([(47 : Int32), (123 : Int32), (112 : Int32), (114 : Int32), (101 : Int32), (102 : Int32), (105 : Int32), (120 : Int32), (125 : Int32)] : List Int32)).length + (ps.drop 3).length ≤ (((insB (insB (insB (insB (List.replicate 16 (0 : Int32)) ([] : List Int32) ms) ms ([(32 : Int32)] : List Int32)) (ms ++ ([(32 : Int32)] : List Int32)) ([(47 : Int32), (118 : Int32), (49 : Int32)] : List Int32)) ((ms ++ ([(32 : Int32)] : List Int32)) ++ ([(47 : Int32), (118 : Int32), (49 : Int32)] : List Int32)) ([(47 : Int32), (123 : Int32), (112 : Int32), (114 : Int32), (101 : Int32), (102 : Int32), (105 : Int32), (120 : Int32), (125 : Int32)] : List Int32)) ++ List.replicate 18 (0 : Int32))).length := by rw [hq]; simp only [List.length_append, List.length_drop, List.length_cons, List.length_nil]; omega
    have hbl5 : (insB ((insB (insB (insB (insB (List.replicate 16 (0 : Int32)) ([] : List Int32) ms) ms ([(32 : Int32)] : List Int32)) (ms ++ ([(32 : Int32)] : List Int32)) ([(47 : Int32), (118 : Int32), (49 : Int32)] : List Int32)) ((ms ++ ([(32 : Int32)] : List Int32)) ++ ([(47 : Int32), (118 : Int32), (49 : Int32)] : List Int32)) ([(47 : Int32), (123 : Int32), (112 : Int32), (114 : Int32), (101 : Int32), (102 : Int32), (105 : Int32), (120 : Int32), (125 : Int32)] : List Int32)) ++ List.replicate 18 (0 : Int32)) (((ms ++ ([(32 : Int32)] : List Int32)) ++ ([(47 : Int32), (118 : Int32), (49 : Int32)] : List Int32)) ++ ([(47 : Int32), (123 : Int32), (112 : Int32), (114 : Int32), (101 : Int32), (102 : Int32), (105 : Int32), (120 : Int32), (125 : Int32)] : List Int32)) (ps.drop 3)).length = 34 := (insB_len hN5).trans hq
    have hp5 := insB_take hN5 (by rw [List.take_append_of_le_length (by rw [hbl4]; simp only [List.length_append, List.length_cons, List.length_nil]; omega)]; exact hp4)
    show Go p e below _ (T_259.setTop (mkF m 38 #[vR a1, vR a2] [(.ref b209)]))
    have f260 : Exa Z T_259.heap b209 "java/lang/StringBuilder" := (f254.keep K_259)
    obtain ⟨v_261, T_261, L_261, X_261, hQ_261, st_261⟩ := goV X_259 hx hZ_242 (y := Y_31) (z := Y_31) hown_242 (wd_142 hw) (wd_143 hw) (notFace_of_selects (args := #[]) (mvT hZ_242 (wd_145 hw))) (wd_145 hw) (wd_144 hw) (by decide) (backOf (W := 0) (rm_tsN l Z a0 hw zc vfm (b209) (r_259) (kr_259) ((34 : Int32)) ((insB ((insB (insB (insB (insB (List.replicate 16 (0 : Int32)) ([] : List Int32) ms) ms ([(32 : Int32)] : List Int32)) (ms ++ ([(32 : Int32)] : List Int32)) ([(47 : Int32), (118 : Int32), (49 : Int32)] : List Int32)) ((ms ++ ([(32 : Int32)] : List Int32)) ++ ([(47 : Int32), (118 : Int32), (49 : Int32)] : List Int32)) ([(47 : Int32), (123 : Int32), (112 : Int32), (114 : Int32), (101 : Int32), (102 : Int32), (105 : Int32), (120 : Int32), (125 : Int32)] : List Int32)) ++ List.replicate 18 (0 : Int32)) (((ms ++ ([(32 : Int32)] : List Int32)) ++ ([(47 : Int32), (118 : Int32), (49 : Int32)] : List Int32)) ++ ([(47 : Int32), (123 : Int32), (112 : Int32), (114 : Int32), (101 : Int32), (102 : Int32), (105 : Int32), (120 : Int32), (125 : Int32)] : List Int32)) (ps.drop 3))) (((((ms ++ ([(32 : Int32)] : List Int32)) ++ ([(47 : Int32), (118 : Int32), (49 : Int32)] : List Int32)) ++ ([(47 : Int32), (123 : Int32), (112 : Int32), (114 : Int32), (101 : Int32), (102 : Int32), (105 : Int32), (120 : Int32), (125 : Int32)] : List Int32)) ++ (ps.drop 3))) T_259.heap n0 (Nat.le_trans Z0 KP_259.1) f260 u0_259 u2_259 u3_259 u4_259 (by rw [hbl5]; rfl) (by rw [hbl5]; simp only [List.length_append, List.length_drop, List.length_cons, List.length_nil]; omega) hp5 (lat_app (lat_app (lat_app (lat_app hlm (by decide)) (by decide)) (by decide)) (lat_drop hlp)) hSt O_259) hZ_242 (wd_146 hw) (wd_46 hw) (by decide) (by decide)) rfl f260 (g := (mkF m 38 #[vR a1, vR a2] [(.ref b209)])) rfl (by rw [hml]; rfl) (argsL := []) (rest := []) rfl (lenOf pd_25 rfl) rfl (by show 2 * 0 + _ ≤ _; exact Nat.le_of_eq rfl) (hb hby d_prog_17_method_3_code_38) (by decide) (by decide)
    obtain ⟨r_261, rfl, Nq_261, K_261, u0_261, u1_261⟩ := hQ_261
    have N_261 := Fr.app N_259 Nq_261
    have C_261 := CHr.keep K_261 sf0 C_259.1
    have CR_261 := CHr.trans CR_259 C_261
    have le_261 : T_259.heap.size ≤ T_261.heap.size := K_261.1
    have KP_261 := KP_259.trans K_261 all0
    have O_261 := O_259.keep K_261 all0
    have sz_r_261 : h0.size ≤ r_261 := Nat.le_trans (Nat.le_trans le_209 (Nat.le_trans le_210 (Nat.le_trans le_214 (Nat.le_trans le_216 (Nat.le_trans le_222 (Nat.le_trans le_223 (Nat.le_trans le_229 (Nat.le_trans le_230 (Nat.le_trans le_236 (Nat.le_trans le_237 (Nat.le_trans le_242 le_259))))))))))) u0_261
    have g_r_261 : n0 ≤ r_261 := Nat.le_trans Z0 sz_r_261
    have Sf_r_261 := Safe.keep K_261 sf0 C_259.1 (Safe.new u0_261)
    refine Go.step st_261 ?_
    show Go p e below _ (T_261.setTop (mkF m 41 #[vR a1, vR a2] [(.ref r_261)]))
    exact Go.retVW X_261 rfl hS_242 (Nat.le_trans (Nat.le_refl _) (Nat.le_trans le_259 le_261)) hZ_242 hEL hh0 CR_261 hx hlk hret rfl (Or.inr (Or.inr (Or.inr (Or.inr ⟨rfl, rfl, rfl⟩)))) (hb hby d_prog_17_method_3_code_41) (by decide) (by decide) (by exact ⟨r_261, rfl, N_261, KP_261, sz_r_261, u1_261⟩)
--@E
--@C init4e
def Q_init4e (Z : State) (zc : Int32) (vfm : Value) (a1 : Addr) (a2 : Addr) (h0 : Heap) (n0 : Nat) (v : Option Value) (h : Heap) (L : List Loc) : Prop := v = none ∧ Fr n0 L ∧ Keep h0 h [a1] ∧ Str Z h.size h a1 ([] : List Int32)
set_option maxRecDepth 65536 in
set_option maxHeartbeats 40000000 in
theorem rm_init4e (l : Launch) (Z : State) (a0 : Array Value) (hw : ∀ d ∈ tables_1, d.before a0 Z = true) (zc : Int32) (vfm : Value) (a1 : Addr) (a2 : Addr) (h0 : Heap) (n0 : Nat) (Z0 : n0 ≤ h0.size) (E_a1 : Exa Z h0 a1 "java/lang/String") (F_a1v : Fld Z h0 a1 "java/lang/String" "value" "[B" .null) (F_a1c : Fld Z h0 a1 "java/lang/String" "coder" "B" (.int (0 : Int32))) (g_a1 : n0 ≤ a1) (hSt : St Z zc vfm) (hO : Old Z n0 h0) :
    CW l Z EL ({ cls := "java/lang/String", name := "<init>", desc := "([CIILjava/lang/Void;)V" } : Jvm.MethodName) [(Jvm.Cond.code ({ cls := "java/lang/String", name := "<init>", desc := "([CIILjava/lang/Void;)V" } : Jvm.MethodName) jdk_42_method_149_code (6 : Nat) (Option.none : Option Jvm.ClassFile.FieldType))] ({ frames := 1, cells := 4, slots := 8, locals := 12 } : Room) #[(.ref a1), (.ref a2), (.int (0 : Int32)), (.int (0 : Int32)), .null] h0 (Q_init4e Z zc vfm a1 a2 h0 n0) := by
  refine CW.of (L0 := #[vR a1, vR a2, vI 0, vI 0, .val .null, vU]) (plainFor_of_name pn_2) (fun m => by first | (simp [entryFrame, mkF, argsToLocals, Value.category]; done) | rfl) ?_
  intro p e s m below meth c s₁ hx hby hml hret hlk hZ hown hnm X0 e0 hS0 hk0 CV0 hh0
  have hEL := hEL_ (a0 := a0) hw
  have hwS := hwS_ hw
  have N0 := Fr.nil n0
  have KP0 := Keep.refl h0 [a1]
  have hSt_ := hSt
  obtain ⟨S_cs, n_cs, S_fm, r_fm⟩ := hSt_
  have Sf_a1 : Safe Z EL s.vm h0 a1 := own_safe_null hZ.alike E_a1 F_a1v (wd_5 hw)
  show Go p e below _ (s₁.setTop (mkF m 0 #[vR a1, vR a2, vI 0, vI 0, .val .null, vU] []))
  refine Go.step (fun _ k => XS.aloadN X0.here hx rfl (hb hby d_jdk_42_method_149_code_0) rfl rfl k) ?_
  show Go p e below _ (s₁.setTop (mkF m 1 #[vR a1, vR a2, vI 0, vI 0, .val .null, vU] [(.ref a1)]))
  obtain ⟨T_262, X_262, e_262, st_262⟩ := initO X0 hx hZ hown (wd_15 hw) (wd_16 hw) (wd_17 hw) e0 (g := (mkF m 1 #[vR a1, vR a2, vI 0, vI 0, .val .null, vU] [(.ref a1)])) rfl (by rw [hml]; rfl) rfl (hb hby d_jdk_42_method_149_code_1) (by decide) (W := 0) (by show 2 * 0 + _ ≤ _; exact Nat.le_of_eq rfl) (by decide)
  refine Go.step st_262 ?_
  show Go p e below _ (T_262.setTop (mkF m 4 #[vR a1, vR a2, vI 0, vI 0, .val .null, vU] []))
  refine Go.step (fun _ k => XS.iloadN X_262.here hx rfl (hb hby d_jdk_42_method_149_code_4) rfl  k) ?_
  show Go p e below _ (T_262.setTop (mkF m 5 #[vR a1, vR a2, vI 0, vI 0, .val .null, vU] [(.int (0 : Int32))]))
  refine Go.step (fun _ k => XS.ifNo X_262.here hx rfl (hb hby d_jdk_42_method_149_code_5) rfl ((if0 _ _).trans (teq ((by decide) : (0 : Int32) = (0 : Int32))).2) k) ?_
  show Go p e below _ (T_262.setTop (mkF m 8 #[vR a1, vR a2, vI 0, vI 0, .val .null, vU] []))
  refine Go.step (fun _ k => XS.aloadN X_262.here hx rfl (hb hby d_jdk_42_method_149_code_8) rfl rfl k) ?_
  show Go p e below _ (T_262.setTop (mkF m 9 #[vR a1, vR a2, vI 0, vI 0, .val .null, vU] [(.ref a1)]))
  obtain ⟨a_263, T_263, h_263, k1_263, t_263, kb_263, X_263, e_263, E_263, hS_263, hk_263, hZ_263, hown_263, Ex_263, Fc_263, Fv_263, Av_263, lta_263, ltb_263, C_263, Lt_263, -, st_263⟩ := ldcCH X_262 hx hZ hown (wd_18 hw) hwS e_262 hS0 hk0 hEL (by decide) CV0 (vs := []) (z := (0 : Int32)) ⟨by decide, by decide⟩ (by decide) (by decide) (g := (mkF m 9 #[vR a1, vR a2, vI 0, vI 0, .val .null, vU] [(.ref a1)])) rfl (hb hby d_jdk_42_method_149_code_9) (n := 0) (by decide) (by decide) (by decide) (by decide)
  refine Go.step st_263 ?_
  have CR_263 := CHr.trans (CHr.refl CV0) C_263
  have le_263 : h0.size ≤ h_263.size := E_263.1
  have KP_263 := KP0.ext E_263
  have O_263 := hO.ext E_263
  have Sx_263 : Str Z h_263.size h_263 a_263 ([] : List Int32) := ⟨t_263, kb_263, lta_263, ltb_263, Ex_263, Fv_263, Fc_263, Av_263, by decide, by decide⟩
  show Go p e below _ (T_263.setTop (mkF m 11 #[vR a1, vR a2, vI 0, vI 0, .val .null, vU] [(.ref a_263), (.ref a1)]))
  have cp264 := Sx_263
  obtain ⟨t265, kb265, -, hb265, Ex265, Fv265, Fc265, Av265, hl265, hn265⟩ := cp264
  obtain ⟨T_266, X_266, e_266, st_266⟩ := getF X_263 hx hZ_263 hown_263 (host := "") (Or.inl (wd_24 hw)) Via.refl e_263 Fv265 (g := (mkF m 11 #[vR a1, vR a2, vI 0, vI 0, .val .null, vU] [(.ref a_263), (.ref a1)])) rfl rfl (hb hby d_jdk_42_method_149_code_11)
  refine Go.step st_266 ?_
  show Go p e below _ (T_266.setTop (mkF m 14 #[vR a1, vR a2, vI 0, vI 0, .val .null, vU] [(.ref t265), (.ref a1)]))
  have f267 : Exa Z h_263 a1 "java/lang/String" := (E_a1.ext E_263)
  have f268 : Fld Z h_263 a1 "java/lang/String" "value" "[B" .null := (F_a1v.ext E_263)
  obtain ⟨T_269, h_269, X_269, e_269, W_269, st_269⟩ := putF X_266 hx hZ_263 hown_263 (host := "") (Or.inl (wd_24 hw)) Via.refl e_266 f268 f267 (Or.inr ⟨(wd_20 hw), rfl, hnm⟩) (wd_5 hw) (ty := (.array .byte)) pf_0 rfl rfl (g := (mkF m 14 #[vR a1, vR a2, vI 0, vI 0, .val .null, vU] [(.ref t265), (.ref a1)])) rfl rfl (hb hby d_jdk_42_method_149_code_14)
  refine Go.step st_269 ?_
  have N_269 := Fr.snoc X_269 N0 g_a1
  have C_269 := CHr.wr W_269 (CHr.safe C_263 E_a1.lt Sf_a1) C_263.1
  have CR_269 := CHr.trans CR_263 C_269
  have le_269 : h_263.size ≤ h_269.size := Nat.le_of_eq W_269.size.symm
  have KP_269 := KP_263.wr W_269 (Or.inl (List.mem_of_getElem? (i := 0) rfl))
  have O_269 := O_263.wr W_269 g_a1
  have F_269 : Fld Z h_269 a1 "java/lang/String" "value" "[B" (.ref t265) := f268.same W_269
  show Go p e below _ (T_269.setTop (mkF m 17 #[vR a1, vR a2, vI 0, vI 0, .val .null, vU] []))
  refine Go.step (fun _ k => XS.aloadN X_269.here hx rfl (hb hby d_jdk_42_method_149_code_17) rfl rfl k) ?_
  show Go p e below _ (T_269.setTop (mkF m 18 #[vR a1, vR a2, vI 0, vI 0, .val .null, vU] [(.ref a1)]))
  obtain ⟨a_270, T_270, h_270, k1_270, t_270, kb_270, X_270, e_270, E_270, hS_270, hk_270, hZ_270, hown_270, Ex_270, Fc_270, Fv_270, Av_270, lta_270, ltb_270, C_270, Lt_270, -, st_270⟩ := ldcCH X_269 hx hZ_263 hown_263 (wd_18 hw) hwS e_269 hS_263 (Nat.le_trans hk_263 le_269) hEL (by decide) C_269.1 (vs := []) (z := (0 : Int32)) ⟨by decide, by decide⟩ (by decide) (by decide) (g := (mkF m 18 #[vR a1, vR a2, vI 0, vI 0, .val .null, vU] [(.ref a1)])) rfl (hb hby d_jdk_42_method_149_code_18) (n := 0) (by decide) (by decide) (by decide) (by decide)
  refine Go.step st_270 ?_
  have CR_270 := CHr.trans CR_269 C_270
  have le_270 : h_269.size ≤ h_270.size := E_270.1
  have KP_270 := KP_269.ext E_270
  have O_270 := O_269.ext E_270
  have Sx_270 : Str Z h_270.size h_270 a_270 ([] : List Int32) := ⟨t_270, kb_270, lta_270, ltb_270, Ex_270, Fv_270, Fc_270, Av_270, by decide, by decide⟩
  show Go p e below _ (T_270.setTop (mkF m 20 #[vR a1, vR a2, vI 0, vI 0, .val .null, vU] [(.ref a_270), (.ref a1)]))
  have cp271 := Sx_270
  obtain ⟨t272, kb272, -, hb272, Ex272, Fv272, Fc272, Av272, hl272, hn272⟩ := cp271
  obtain ⟨T_273, X_273, e_273, st_273⟩ := getF X_270 hx hZ_270 hown_270 (host := "") (Or.inl (wd_25 hw)) Via.refl e_270 Fc272 (g := (mkF m 20 #[vR a1, vR a2, vI 0, vI 0, .val .null, vU] [(.ref a_270), (.ref a1)])) rfl rfl (hb hby d_jdk_42_method_149_code_20)
  refine Go.step st_273 ?_
  show Go p e below _ (T_273.setTop (mkF m 23 #[vR a1, vR a2, vI 0, vI 0, .val .null, vU] [(.int (0 : Int32)), (.ref a1)]))
  have f274 : Exa Z h_270 a1 "java/lang/String" := ((f267.wr W_269).ext E_270)
  have f275 : Fld Z h_270 a1 "java/lang/String" "coder" "B" (.int (0 : Int32)) := (((F_a1c.ext E_263).other W_269 (Or.inr (sn_7 hw))).ext E_270)
  obtain ⟨T_276, h_276, X_276, e_276, W_276, st_276⟩ := putFN X_273 hx hZ_270 hown_270 (wd_25 hw) Via.refl e_273 f275 f274 (Or.inr ⟨(wd_21 hw), rfl, hnm⟩) (wd_5 hw) (ty := .byte) (v' := (.int (0 : Int32))) pf_1 rfl (by decide) (g := (mkF m 23 #[vR a1, vR a2, vI 0, vI 0, .val .null, vU] [(.int (0 : Int32)), (.ref a1)])) rfl rfl (hb hby d_jdk_42_method_149_code_23)
  refine Go.step st_276 ?_
  have N_276 := Fr.snoc X_276 N_269 g_a1
  have C_276 := CHr.wr W_276 (CHr.safe (CHr.trans (CHr.trans C_263 C_269) C_270) E_a1.lt Sf_a1) C_270.1
  have CR_276 := CHr.trans CR_270 C_276
  have le_276 : h_270.size ≤ h_276.size := Nat.le_of_eq W_276.size.symm
  have KP_276 := KP_270.wr W_276 (Or.inl (List.mem_of_getElem? (i := 0) rfl))
  have O_276 := O_270.wr W_276 g_a1
  have F_276 : Fld Z h_276 a1 "java/lang/String" "coder" "B" (.int (0 : Int32)) := f275.same W_276
  show Go p e below _ (T_276.setTop (mkF m 26 #[vR a1, vR a2, vI 0, vI 0, .val .null, vU] []))
  have f277 : Exa Z h_276 a1 "java/lang/String" := (f274.wr W_276)
  have f278 : Fld Z h_276 a1 "java/lang/String" "value" "[B" (.ref t265) := ((F_269.ext E_270).other W_276 (Or.inr (sn_6 hw)))
  have f279 : Arv Z h_276 t265 kb265 .byte (0 : Int32) [] (.int (0 : Int32)) := (((Av265.other W_269 (Ne.symm (Exa.neArv (E_a1.ext E_263) Av265 (wd_5 hw)))).ext E_270).other W_276 (Ne.symm (Exa.neArv (E_a1.ext E_263) Av265 (wd_5 hw))))
  have Sx280 : Str Z h_276.size h_276 a1 ([] : List Int32) := ⟨t265, kb265, f277.lt, f279.lt, f277, f278, F_276, f279, by decide, Nat.le_of_ble_eq_true rfl⟩
  exact Go.ret0W X_276 e_276 hS_270 (Nat.le_trans hk_270 le_276) hZ_270 hEL hh0 CR_276 hx hlk hret (hb hby d_jdk_42_method_149_code_26) (by decide) (by decide) (by rw [e_276]; exact ⟨rfl, N_276, KP_276, Sx280⟩)
--@E
--@C init1e
def Q_init1e (Z : State) (zc : Int32) (vfm : Value) (a1 : Addr) (a2 : Addr) (k2 : ClassId) (h0 : Heap) (n0 : Nat) (v : Option Value) (h : Heap) (L : List Loc) : Prop := v = none ∧ Fr n0 L ∧ Keep h0 h [a1] ∧ Str Z h.size h a1 ([] : List Int32)
set_option maxRecDepth 65536 in
set_option maxHeartbeats 40000000 in
theorem rm_init1e (l : Launch) (Z : State) (a0 : Array Value) (hw : ∀ d ∈ tables_1, d.before a0 Z = true) (zc : Int32) (vfm : Value) (a1 : Addr) (a2 : Addr) (k2 : ClassId) (h0 : Heap) (n0 : Nat) (Z0 : n0 ≤ h0.size) (E_a1 : Exa Z h0 a1 "java/lang/String") (F_a1v : Fld Z h0 a1 "java/lang/String" "value" "[B" .null) (F_a1c : Fld Z h0 a1 "java/lang/String" "coder" "B" (.int (0 : Int32))) (g_a1 : n0 ≤ a1) (A_a2 : Arv Z h0 a2 k2 .char (0 : Int32) [] (.int (0 : Int32))) (hSt : St Z zc vfm) (hO : Old Z n0 h0) :
    CW l Z EL ({ cls := "java/lang/String", name := "<init>", desc := "([C)V" } : Jvm.MethodName) [(Jvm.Cond.code ({ cls := "java/lang/String", name := "<init>", desc := "([C)V" } : Jvm.MethodName) jdk_42_method_3_code (2 : Nat) (Option.none : Option Jvm.ClassFile.FieldType))] ({ frames := 2, cells := 4, slots := 8, locals := 29 } : Room) #[(.ref a1), (.ref a2)] h0 (Q_init1e Z zc vfm a1 a2 k2 h0 n0) := by
  refine CW.of (L0 := #[vR a1, vR a2]) (plainFor_of_name pn_2) (fun m => by first | (simp [entryFrame, mkF, argsToLocals, Value.category]; done) | rfl) ?_
  intro p e s m below meth c s₁ hx hby hml hret hlk hZ hown hnm X0 e0 hS0 hk0 CV0 hh0
  have hEL := hEL_ (a0 := a0) hw
  have hwS := hwS_ hw
  have N0 := Fr.nil n0
  have KP0 := Keep.refl h0 [a1]
  have hSt_ := hSt
  obtain ⟨S_cs, n_cs, S_fm, r_fm⟩ := hSt_
  have Sf_a1 : Safe Z EL s.vm h0 a1 := own_safe_null hZ.alike E_a1 F_a1v (wd_5 hw)
  show Go p e below _ (s₁.setTop (mkF m 0 #[vR a1, vR a2] []))
  refine Go.step (fun _ k => XS.aloadN X0.here hx rfl (hb hby d_jdk_42_method_3_code_0) rfl rfl k) ?_
  refine Go.step (fun _ k => XS.aloadN X0.here hx rfl (hb hby d_jdk_42_method_3_code_1) rfl rfl k) ?_
  refine Go.step (fun _ k => XS.iconst X0.here hx rfl (hb hby d_jdk_42_method_3_code_2) k) ?_
  refine Go.step (fun _ k => XS.aloadN X0.here hx rfl (hb hby d_jdk_42_method_3_code_3) rfl rfl k) ?_
  show Go p e below _ (s₁.setTop (mkF m 4 #[vR a1, vR a2] [(.ref a2), (.int (0 : Int32)), (.ref a2), (.ref a1)]))
  have cp282 := A_a2
  obtain ⟨cl_281, Ar_281, -, Sz_281, Ng_281, -, -⟩ := cp282
  refine Go.step (fun _ k => X0.arraylength hx (by rw [e0]; exact Ar_281.1) (State.isArrayOf_alike hZ.alike Ar_281.2.1) (g := (mkF m 4 #[vR a1, vR a2] [(.ref a2), (.int (0 : Int32)), (.ref a2), (.ref a1)])) rfl rfl (hb hby d_jdk_42_method_3_code_4) _ k) ?_
  rw [len_of Sz_281 Ng_281]
  show Go p e below _ (s₁.setTop (mkF m 5 #[vR a1, vR a2] [(.int (0 : Int32)), (.int (0 : Int32)), (.ref a2), (.ref a1)]))
  refine Go.step (fun _ k => XS.aconstNull X0.here hx rfl (hb hby d_jdk_42_method_3_code_5) k) ?_
  show Go p e below _ (s₁.setTop (mkF m 6 #[vR a1, vR a2] [.null, (.int (0 : Int32)), (.int (0 : Int32)), (.ref a2), (.ref a1)]))
  obtain ⟨v_283, T_283, L_283, X_283, hQ_283, hS_283, hZ_283, hown_283, C_283, st_283⟩ := goCW X0 hx hZ (y := Y_32) hown hS0 hk0 rfl (wd_11 hw) (wd_12 hw) (wd_14 hw) (by decide) (backOfSH (W := 0) (rm_init4e l Z a0 hw zc vfm (a1) (a2) h0 n0 (Nat.le_trans Z0 KP0.1) E_a1 F_a1v F_a1c g_a1 hSt hO) hZ (wd_14 hw) (wd_6 hw) (by decide) (by decide) hEL CV0) e0 (g := (mkF m 6 #[vR a1, vR a2] [.null, (.int (0 : Int32)), (.int (0 : Int32)), (.ref a2), (.ref a1)])) rfl (by rw [hml]; rfl) (a := a1) (argsL := [(.ref a2), (.int (0 : Int32)), (.int (0 : Int32)), .null]) (rest := []) rfl (lenOf pd_26 rfl) rfl (by show 2 * 0 + _ ≤ _; exact Nat.le_of_eq rfl) (hb hby d_jdk_42_method_3_code_6) (by decide) (by decide)
  obtain ⟨rfl, Nq_283, K_283, u0_283⟩ := hQ_283
  have N_283 := Fr.app N0 Nq_283
  have CR_283 := CHr.trans (CHr.refl CV0) C_283
  have le_283 : h0.size ≤ T_283.heap.size := K_283.1
  have KP_283 := KP0.trans K_283 (allS (Or.inl (List.mem_of_getElem? (i := 0) rfl)) all0)
  have O_283 := hO.keep K_283 (allS g_a1 all0)
  refine Go.step st_283 ?_
  show Go p e below _ (T_283.setTop (mkF m 9 #[vR a1, vR a2] []))
  exact Go.ret0W X_283 rfl hS_283 (Nat.le_refl _) hZ_283 hEL hh0 CR_283 hx hlk hret (hb hby d_jdk_42_method_3_code_9) (by decide) (by decide) (by exact ⟨rfl, N_283, KP_283, u0_283⟩)
--@E
def mks (n c0 c1 c2 : Int32) : List Int32 := if n = 0 then [] else if n = 1 then [c0] else if n = 2 then [c0, c1] else [c0, c1, c2]
def pats (n c0 c1 c2 : Int32) : List Int32 := if n = 0 then [47, 118, 49] else if n = 1 then [47, 118, 49, c0] else if n = 2 then [47, 118, 49, c0, c1] else [47, 118, 49, c0, c1, c2]
--@C mk
def Q_mk (Z : State) (zc : Int32) (vfm : Value) (p1 : Int32) (c0 : Int32) (c1 : Int32) (c2 : Int32) (h0 : Heap) (n0 : Nat) (v : Option Value) (h : Heap) (L : List Loc) : Prop := ∃ (r : Addr), v = some (.ref r) ∧ Fr n0 L ∧ Keep h0 h [] ∧ h0.size ≤ r ∧ Str Z h.size h r (mks p1 c0 c1 c2)
set_option maxRecDepth 65536 in
set_option maxHeartbeats 40000000 in
theorem rm_mk (l : Launch) (Z : State) (a0 : Array Value) (hw : ∀ d ∈ tables_1, d.before a0 Z = true) (zc : Int32) (vfm : Value) (p1 : Int32) (c0 : Int32) (c1 : Int32) (c2 : Int32) (h0 : Heap) (n0 : Nat) (Z0 : n0 ≤ h0.size) (l_c0 : (¬ c0 < 0 ∧ ¬ (255 : Int32) < c0)) (l_c1 : (¬ c1 < 0 ∧ ¬ (255 : Int32) < c1)) (l_c2 : (¬ c2 < 0 ∧ ¬ (255 : Int32) < c2)) (hSt : St Z zc vfm) (hO : Old Z n0 h0) :
    CW l Z EL ({ cls := "com/example/lakehouse_catalog/lakehousecatalog/iceberg/IcebergRoutesEndpointPinLaw", name := "mk", desc := "(ICCC)Ljava/lang/String;" } : Jvm.MethodName) [(Jvm.Cond.code ({ cls := "com/example/lakehouse_catalog/lakehousecatalog/iceberg/IcebergRoutesEndpointPinLaw", name := "mk", desc := "(ICCC)Ljava/lang/String;" } : Jvm.MethodName) method_2_code (4 : Nat) (Option.some (Jvm.ClassFile.FieldType.object "java/lang/String")))] ({ frames := 4, cells := 6, slots := 12, locals := 66 } : Room) #[(.int p1), (.int c0), (.int c1), (.int c2)] h0 (Q_mk Z zc vfm p1 c0 c1 c2 h0 n0) := by
  refine CW.of (L0 := #[vI p1, vI c0, vI c1, vI c2]) (plainFor_of_name pn_8) (fun m => by first | (simp [entryFrame, mkF, argsToLocals, Value.category]; done) | rfl) ?_
  intro p e s m below meth c s₁ hx hby hml hret hlk hZ hown hnm X0 e0 hS0 hk0 CV0 hh0
  have hEL := hEL_ (a0 := a0) hw
  have hwS := hwS_ hw
  have N0 := Fr.nil n0
  have KP0 := Keep.refl h0 []
  have hSt_ := hSt
  obtain ⟨S_cs, n_cs, S_fm, r_fm⟩ := hSt_
  show Go p e below _ (s₁.setTop (mkF m 0 #[vI p1, vI c0, vI c1, vI c2] []))
  refine Go.step (fun _ k => XS.iloadN X0.here hx rfl (hb hby d_method_2_code_0) rfl  k) ?_
  show Go p e below _ (s₁.setTop (mkF m 1 #[vI p1, vI c0, vI c1, vI c2] [(.int p1)]))
  by_cases u0 : p1 = (0 : Int32)
  · skip
    refine Go.step (fun _ k => XS.ifNo X0.here hx rfl (hb hby d_method_2_code_1) rfl ((if0 _ _).trans (teq u0).2) k) ?_
    show Go p e below _ (s₁.setTop (mkF m 4 #[vI p1, vI c0, vI c1, vI c2] []))
    obtain ⟨T_284, h_284, X_284, e_284, E_284, A_284, D_284, Un_284, st_284⟩ := newO X0 hx hZ hown (wd_4 hw) (wd_5 hw) (wd_6 hw) e0 (g := (mkF m 4 #[vI p1, vI c0, vI c1, vI c2] [])) rfl (hb hby d_method_2_code_4) (by decide) (by decide)
    obtain ⟨b284, q_284⟩ : ∃ z, z = h0.size := ⟨_, rfl⟩
    rw [← q_284] at A_284 D_284 Un_284 st_284
    refine Go.step st_284 ?_
    have C_284 := CHr.ext E_284 CV0
    have CR_284 := CHr.trans (CHr.refl CV0) C_284
    have le_284 : h0.size ≤ h_284.size := E_284.1
    have KP_284 := KP0.ext E_284
    have O_284 := hO.ext E_284
    have ge_284 : h0.size ≤ b284 := Nat.le_of_eq q_284.symm
    have sz_b284 : h0.size ≤ b284 := Nat.le_trans (Nat.le_refl _) ge_284
    have g_b284 : n0 ≤ b284 := Nat.le_trans Z0 sz_b284
    have F_284_20 : Fld Z h_284 b284 "java/lang/String" "value" "[B" .null := D_284 (Or.inr (wd_20 hw)) (ty := (.array .byte)) pf_0
    have F_284_21 : Fld Z h_284 b284 "java/lang/String" "coder" "B" (.int (0 : Int32)) := D_284 (Or.inr (wd_21 hw)) (ty := .byte) pf_1
    have Sf_b284 := Safe.ext E_284 CV0 (Safe.new ge_284)
    show Go p e below _ (T_284.setTop (mkF m 7 #[vI p1, vI c0, vI c1, vI c2] [(.ref b284)]))
    refine Go.step (fun _ k => XS.dup X_284.here hx rfl (hb hby d_method_2_code_7) rfl rfl k) ?_
    refine Go.step (fun _ k => XS.iconst X_284.here hx rfl (hb hby d_method_2_code_8) k) ?_
    show Go p e below _ (T_284.setTop (mkF m 9 #[vI p1, vI c0, vI c1, vI c2] [(.int (0 : Int32)), (.ref b284), (.ref b284)]))
    obtain ⟨T_285, h_285, k_285, X_285, e_285, E_285, A_285, st_285⟩ := newP X_284 hx hZ (aty := .char) (wd_7 hw) e_284 (g := (mkF m 9 #[vI p1, vI c0, vI c1, vI c2] [(.int (0 : Int32)), (.ref b284), (.ref b284)])) rfl (hb hby d_method_2_code_9) rfl (by decide) (cap := 0) (by decide) (by decide) (by decide) (by decide)
    obtain ⟨b285, q_285⟩ : ∃ z, z = h_284.size := ⟨_, rfl⟩
    rw [← q_285] at A_285 st_285
    refine Go.step st_285 ?_
    have C_285 := CHr.ext E_285 C_284.1
    have CR_285 := CHr.trans CR_284 C_285
    have le_285 : h_284.size ≤ h_285.size := E_285.1
    have KP_285 := KP_284.ext E_285
    have O_285 := O_284.ext E_285
    have ge_285 : h_284.size ≤ b285 := Nat.le_of_eq q_285.symm
    have sz_b285 : h0.size ≤ b285 := Nat.le_trans le_284 ge_285
    have g_b285 : n0 ≤ b285 := Nat.le_trans Z0 sz_b285
    have V_285 : Arv Z h_285 b285 k_285 .char (0 : Int32) [] (.int (0 : Int32)) := Arv.new A_285 (by decide)
    have Sf_b285 := Safe.ext E_285 C_284.1 (Safe.new ge_285)
    show Go p e below _ (T_285.setTop (mkF m 11 #[vI p1, vI c0, vI c1, vI c2] [(.ref b285), (.ref b284), (.ref b284)]))
    have f286 : Exa Z h_285 b284 "java/lang/String" := (A_284.ext E_285)
    have f287 : Fld Z h_285 b284 "java/lang/String" "value" "[B" .null := (F_284_20.ext E_285)
    have f288 : Fld Z h_285 b284 "java/lang/String" "coder" "B" (.int (0 : Int32)) := (F_284_21.ext E_285)
    obtain ⟨v_289, T_289, L_289, X_289, hQ_289, hS_289, hZ_289, hown_289, C_289, st_289⟩ := goCW X_285 hx hZ (y := Y_33) hown hS0 (Nat.le_trans hk0 (Nat.le_trans le_284 le_285)) rfl (wd_8 hw) (wd_9 hw) (wd_10 hw) (by decide) (backOfSH (W := 1) (rm_init1e l Z a0 hw zc vfm (b284) (b285) (k_285) h_285 n0 (Nat.le_trans Z0 KP_285.1) f286 f287 f288 g_b284 V_285 hSt O_285) hZ (wd_10 hw) (wd_6 hw) (by decide) (by decide) hEL C_285.1) e_285 (g := (mkF m 11 #[vI p1, vI c0, vI c1, vI c2] [(.ref b285), (.ref b284), (.ref b284)])) rfl (by rw [hml]; rfl) (a := b284) (argsL := [(.ref b285)]) (rest := [(.ref b284)]) rfl (lenOf pd_27 rfl) rfl (by show 2 * 0 + _ ≤ _; exact Nat.le_of_eq rfl) (hb hby d_method_2_code_11) (by decide) (by decide)
    obtain ⟨rfl, Nq_289, K_289, u0_289⟩ := hQ_289
    have N_289 := Fr.app N0 Nq_289
    have CR_289 := CHr.trans CR_285 C_289
    have le_289 : h_285.size ≤ T_289.heap.size := K_289.1
    have KP_289 := KP_285.trans K_289 (allS (Or.inr sz_b284) all0)
    have O_289 := O_285.keep K_289 (allS g_b284 all0)
    refine Go.step st_289 ?_
    show Go p e below _ (T_289.setTop (mkF m 14 #[vI p1, vI c0, vI c1, vI c2] [(.ref b284)]))
    exact Go.retVW X_289 rfl hS_289 (Nat.le_refl _) hZ_289 hEL hh0 CR_289 hx hlk hret rfl (Or.inr (Or.inr (Or.inr (Or.inr ⟨rfl, rfl, rfl⟩)))) (hb hby d_method_2_code_14) (by decide) (by decide) (by exact ⟨b284, rfl, N_289, KP_289, sz_b284, (by rw [mks, if_pos u0]; exact u0_289)⟩)
  · skip
    refine Go.step (fun _ k => XS.ifYes X0.here hx rfl (pc0 := 1) (pc' := 15) rfl (hb hby d_method_2_code_1) rfl ((if0 _ _).trans (feq u0).2) (by decide) (by decide) k) ?_
    show Go p e below _ (s₁.setTop (mkF m 15 #[vI p1, vI c0, vI c1, vI c2] []))
    refine Go.step (fun _ k => XS.iloadN X0.here hx rfl (hb hby d_method_2_code_15) rfl  k) ?_
    refine Go.step (fun _ k => XS.iconst X0.here hx rfl (hb hby d_method_2_code_16) k) ?_
    show Go p e below _ (s₁.setTop (mkF m 17 #[vI p1, vI c0, vI c1, vI c2] [(.int (1 : Int32)), (.int p1)]))
    by_cases u1 : p1 = (1 : Int32)
    · skip
      refine Go.step (fun _ k => XS.icmpNo X0.here hx rfl (hb hby d_method_2_code_17) rfl (teq u1).2 k) ?_
      show Go p e below _ (s₁.setTop (mkF m 20 #[vI p1, vI c0, vI c1, vI c2] []))
      obtain ⟨T_290, h_290, X_290, e_290, E_290, A_290, D_290, Un_290, st_290⟩ := newO X0 hx hZ hown (wd_4 hw) (wd_5 hw) (wd_6 hw) e0 (g := (mkF m 20 #[vI p1, vI c0, vI c1, vI c2] [])) rfl (hb hby d_method_2_code_20) (by decide) (by decide)
      obtain ⟨b290, q_290⟩ : ∃ z, z = h0.size := ⟨_, rfl⟩
      rw [← q_290] at A_290 D_290 Un_290 st_290
      refine Go.step st_290 ?_
      have C_290 := CHr.ext E_290 CV0
      have CR_290 := CHr.trans (CHr.refl CV0) C_290
      have le_290 : h0.size ≤ h_290.size := E_290.1
      have KP_290 := KP0.ext E_290
      have O_290 := hO.ext E_290
      have ge_290 : h0.size ≤ b290 := Nat.le_of_eq q_290.symm
      have sz_b290 : h0.size ≤ b290 := Nat.le_trans (Nat.le_refl _) ge_290
      have g_b290 : n0 ≤ b290 := Nat.le_trans Z0 sz_b290
      have F_290_20 : Fld Z h_290 b290 "java/lang/String" "value" "[B" .null := D_290 (Or.inr (wd_20 hw)) (ty := (.array .byte)) pf_0
      have F_290_21 : Fld Z h_290 b290 "java/lang/String" "coder" "B" (.int (0 : Int32)) := D_290 (Or.inr (wd_21 hw)) (ty := .byte) pf_1
      have Sf_b290 := Safe.ext E_290 CV0 (Safe.new ge_290)
      show Go p e below _ (T_290.setTop (mkF m 23 #[vI p1, vI c0, vI c1, vI c2] [(.ref b290)]))
      refine Go.step (fun _ k => XS.dup X_290.here hx rfl (hb hby d_method_2_code_23) rfl rfl k) ?_
      refine Go.step (fun _ k => XS.iconst X_290.here hx rfl (hb hby d_method_2_code_24) k) ?_
      show Go p e below _ (T_290.setTop (mkF m 25 #[vI p1, vI c0, vI c1, vI c2] [(.int (1 : Int32)), (.ref b290), (.ref b290)]))
      obtain ⟨T_291, h_291, k_291, X_291, e_291, E_291, A_291, st_291⟩ := newP X_290 hx hZ (aty := .char) (wd_7 hw) e_290 (g := (mkF m 25 #[vI p1, vI c0, vI c1, vI c2] [(.int (1 : Int32)), (.ref b290), (.ref b290)])) rfl (hb hby d_method_2_code_25) rfl (by decide) (cap := 1) (by decide) (by decide) (by decide) (by decide)
      obtain ⟨b291, q_291⟩ : ∃ z, z = h_290.size := ⟨_, rfl⟩
      rw [← q_291] at A_291 st_291
      refine Go.step st_291 ?_
      have C_291 := CHr.ext E_291 C_290.1
      have CR_291 := CHr.trans CR_290 C_291
      have le_291 : h_290.size ≤ h_291.size := E_291.1
      have KP_291 := KP_290.ext E_291
      have O_291 := O_290.ext E_291
      have ge_291 : h_290.size ≤ b291 := Nat.le_of_eq q_291.symm
      have sz_b291 : h0.size ≤ b291 := Nat.le_trans le_290 ge_291
      have g_b291 : n0 ≤ b291 := Nat.le_trans Z0 sz_b291
      have V_291 : Arv Z h_291 b291 k_291 .char (1 : Int32) [(.int (0 : Int32))] (.int (0 : Int32)) := (Arv.new A_291 (by decide)).pad (pad_rep [] (.int (0 : Int32)) 1)
      have Sf_b291 := Safe.ext E_291 C_290.1 (Safe.new ge_291)
      show Go p e below _ (T_291.setTop (mkF m 27 #[vI p1, vI c0, vI c1, vI c2] [(.ref b291), (.ref b290), (.ref b290)]))
      refine Go.step (fun _ k => XS.dup X_291.here hx rfl (hb hby d_method_2_code_27) rfl rfl k) ?_
      refine Go.step (fun _ k => XS.iconst X_291.here hx rfl (hb hby d_method_2_code_28) k) ?_
      refine Go.step (fun _ k => XS.iloadN X_291.here hx rfl (hb hby d_method_2_code_29) rfl  k) ?_
      show Go p e below _ (T_291.setTop (mkF m 30 #[vI p1, vI c0, vI c1, vI c2] [(.int c0), (.int (0 : Int32)), (.ref b291), (.ref b291), (.ref b290), (.ref b290)]))
      have cp293 := V_291
      obtain ⟨cl_292, Ar_292, ck_292, Sz_292, Ng_292, Hs_292, Gs_292⟩ := cp293
      have hin_292 : ¬ ((0 : Int32) < 0 ∨ cl_292.slots.size ≤ ((0 : Int32)).toNatClampNeg) := inb_of Sz_292 ⟨by decide, by decide⟩
      obtain ⟨T_292, h_292, X_292, e_292, W_292, st_292⟩ := stC X_291 hx hZ e_291 Ar_292 (j := (0 : Int32)) hin_292 (g := (mkF m 30 #[vI p1, vI c0, vI c1, vI c2] [(.int c0), (.int (0 : Int32)), (.ref b291), (.ref b291), (.ref b290), (.ref b290)])) rfl rfl (hb hby d_method_2_code_30)
      refine Go.step st_292 ?_
      have N_292 := Fr.snoc X_292 N0 g_b291
      have C_292 := CHr.wr W_292 (Safe.arv hZ.alike V_291 (by decide)) C_291.1
      have CR_292 := CHr.trans CR_291 C_292
      have le_292 : h_291.size ≤ h_292.size := Nat.le_of_eq W_292.size.symm
      have KP_292 := KP_291.wr W_292 (Or.inr sz_b291)
      have O_292 := O_291.wr W_292 g_b291
      have V_292 : Arv Z h_292 b291 k_291 .char (1 : Int32) [(.int c0)] (.int (0 : Int32)) := by
        have q := Arv.set Ar_292 ck_292 Sz_292 Ng_292 Hs_292 Gs_292 (fits_nar_char _) W_292 0 rfl (Nat.le_of_ble_eq_true rfl)
        rw [nar_lat l_c0] at q; exact q
      show Go p e below _ (T_292.setTop (mkF m 31 #[vI p1, vI c0, vI c1, vI c2] [(.ref b291), (.ref b290), (.ref b290)]))
      have f294 : Exa Z h_292 b290 "java/lang/String" := ((A_290.ext E_291).wr W_292)
      have f295 : Fld Z h_292 b290 "java/lang/String" "value" "[B" .null := ((F_290_20.ext E_291).other W_292 (Or.inl (Nat.ne_of_lt (Nat.lt_of_lt_of_le A_290.lt (Nat.le_trans (Nat.le_refl _) ge_291)))))
      have f296 : Fld Z h_292 b290 "java/lang/String" "coder" "B" (.int (0 : Int32)) := ((F_290_21.ext E_291).other W_292 (Or.inl (Nat.ne_of_lt (Nat.lt_of_lt_of_le A_290.lt (Nat.le_trans (Nat.le_refl _) ge_291)))))
      have hp297 : ∀ c ∈ ([c0] : List Int32), ¬ c < 0 ∧ ¬ (255 : Int32) < c := (latc l_c0 lat0)
      obtain ⟨v_298, T_298, L_298, X_298, hQ_298, st_298⟩ := goC X_292 hx hZ (y := Y_33) hown rfl (wd_8 hw) (wd_9 hw) (wd_10 hw) (by decide) (StrChars.Road.backV (W := 1) (s := s.setVm s.vm) hZ (sw_words hw) (kI := 4) (wd_5 hw) (cs := ([c0] : List Int32)) (bs := ([c0] : List Int32).map (fun c => c.toInt8.toInt32)) (n := 1) g_b290 (Nat.le_trans Z0 KP_292.1) f294 f295 f296 V_292 (S_cs.ext O_292.2) n_cs rfl rfl (by decide) (by decide) hp297 rfl (by decide) (by decide)) e_292 (g := (mkF m 31 #[vI p1, vI c0, vI c1, vI c2] [(.ref b291), (.ref b290), (.ref b290)])) rfl (by rw [hml]; rfl) (a := b290) (argsL := [(.ref b291)]) (rest := [(.ref b290)]) rfl (lenOf pd_27 rfl) rfl (by show 2 * 0 + _ ≤ _; exact Nat.le_of_eq rfl) (hb hby d_method_2_code_31) (by decide) (by decide)
      obtain ⟨rfl, Nq_298, K_298, Ex_298, Fc_298, t_298, kb_298, -, gt_298, -, Fv_298, Av_298⟩ := hQ_298
      have N_298 := Fr.app N_292 Nq_298
      have C_298 := CHr.keep K_298 (sfS (CHr.safe (CHr.trans C_291 C_292) A_290.lt Sf_b290) sf0) C_292.1
      have CR_298 := CHr.trans CR_292 C_298
      have le_298 : h_292.size ≤ T_298.heap.size := K_298.1
      have KP_298 := KP_292.trans K_298 (allS (Or.inr sz_b290) all0)
      have O_298 := O_292.keep K_298 (allS g_b290 all0)
      have Sx_298 : Str Z (T_298.heap).size (T_298.heap) b290 ([c0] : List Int32) := ⟨t_298, kb_298, Ex_298.lt, Av_298.lt, Ex_298, Fv_298, Fc_298, Av_298, hp297, Nat.le_of_ble_eq_true rfl⟩
      refine Go.step st_298 ?_
      show Go p e below _ (T_298.setTop (mkF m 34 #[vI p1, vI c0, vI c1, vI c2] [(.ref b290)]))
      exact Go.retVW X_298 rfl hS0 (Nat.le_trans hk0 (Nat.le_trans le_290 (Nat.le_trans le_291 (Nat.le_trans le_292 le_298)))) hZ hEL hh0 CR_298 hx hlk hret rfl (Or.inr (Or.inr (Or.inr (Or.inr ⟨rfl, rfl, rfl⟩)))) (hb hby d_method_2_code_34) (by decide) (by decide) (by exact ⟨b290, rfl, N_298, KP_298, sz_b290, (by rw [mks, if_neg u0, if_pos u1]; exact Sx_298)⟩)
    · skip
      refine Go.step (fun _ k => XS.icmpYes X0.here hx rfl (pc0 := 17) (pc' := 35) rfl (hb hby d_method_2_code_17) rfl (feq u1).2 (by decide) (by decide) k) ?_
      show Go p e below _ (s₁.setTop (mkF m 35 #[vI p1, vI c0, vI c1, vI c2] []))
      refine Go.step (fun _ k => XS.iloadN X0.here hx rfl (hb hby d_method_2_code_35) rfl  k) ?_
      refine Go.step (fun _ k => XS.iconst X0.here hx rfl (hb hby d_method_2_code_36) k) ?_
      show Go p e below _ (s₁.setTop (mkF m 37 #[vI p1, vI c0, vI c1, vI c2] [(.int (2 : Int32)), (.int p1)]))
      by_cases u2 : p1 = (2 : Int32)
      · skip
        refine Go.step (fun _ k => XS.icmpNo X0.here hx rfl (hb hby d_method_2_code_37) rfl (teq u2).2 k) ?_
        show Go p e below _ (s₁.setTop (mkF m 40 #[vI p1, vI c0, vI c1, vI c2] []))
        obtain ⟨T_299, h_299, X_299, e_299, E_299, A_299, D_299, Un_299, st_299⟩ := newO X0 hx hZ hown (wd_4 hw) (wd_5 hw) (wd_6 hw) e0 (g := (mkF m 40 #[vI p1, vI c0, vI c1, vI c2] [])) rfl (hb hby d_method_2_code_40) (by decide) (by decide)
        obtain ⟨b299, q_299⟩ : ∃ z, z = h0.size := ⟨_, rfl⟩
        rw [← q_299] at A_299 D_299 Un_299 st_299
        refine Go.step st_299 ?_
        have C_299 := CHr.ext E_299 CV0
        have CR_299 := CHr.trans (CHr.refl CV0) C_299
        have le_299 : h0.size ≤ h_299.size := E_299.1
        have KP_299 := KP0.ext E_299
        have O_299 := hO.ext E_299
        have ge_299 : h0.size ≤ b299 := Nat.le_of_eq q_299.symm
        have sz_b299 : h0.size ≤ b299 := Nat.le_trans (Nat.le_refl _) ge_299
        have g_b299 : n0 ≤ b299 := Nat.le_trans Z0 sz_b299
        have F_299_20 : Fld Z h_299 b299 "java/lang/String" "value" "[B" .null := D_299 (Or.inr (wd_20 hw)) (ty := (.array .byte)) pf_0
        have F_299_21 : Fld Z h_299 b299 "java/lang/String" "coder" "B" (.int (0 : Int32)) := D_299 (Or.inr (wd_21 hw)) (ty := .byte) pf_1
        have Sf_b299 := Safe.ext E_299 CV0 (Safe.new ge_299)
        show Go p e below _ (T_299.setTop (mkF m 43 #[vI p1, vI c0, vI c1, vI c2] [(.ref b299)]))
        refine Go.step (fun _ k => XS.dup X_299.here hx rfl (hb hby d_method_2_code_43) rfl rfl k) ?_
        refine Go.step (fun _ k => XS.iconst X_299.here hx rfl (hb hby d_method_2_code_44) k) ?_
        show Go p e below _ (T_299.setTop (mkF m 45 #[vI p1, vI c0, vI c1, vI c2] [(.int (2 : Int32)), (.ref b299), (.ref b299)]))
        obtain ⟨T_300, h_300, k_300, X_300, e_300, E_300, A_300, st_300⟩ := newP X_299 hx hZ (aty := .char) (wd_7 hw) e_299 (g := (mkF m 45 #[vI p1, vI c0, vI c1, vI c2] [(.int (2 : Int32)), (.ref b299), (.ref b299)])) rfl (hb hby d_method_2_code_45) rfl (by decide) (cap := 2) (by decide) (by decide) (by decide) (by decide)
        obtain ⟨b300, q_300⟩ : ∃ z, z = h_299.size := ⟨_, rfl⟩
        rw [← q_300] at A_300 st_300
        refine Go.step st_300 ?_
        have C_300 := CHr.ext E_300 C_299.1
        have CR_300 := CHr.trans CR_299 C_300
        have le_300 : h_299.size ≤ h_300.size := E_300.1
        have KP_300 := KP_299.ext E_300
        have O_300 := O_299.ext E_300
        have ge_300 : h_299.size ≤ b300 := Nat.le_of_eq q_300.symm
        have sz_b300 : h0.size ≤ b300 := Nat.le_trans le_299 ge_300
        have g_b300 : n0 ≤ b300 := Nat.le_trans Z0 sz_b300
        have V_300 : Arv Z h_300 b300 k_300 .char (2 : Int32) [(.int (0 : Int32)), (.int (0 : Int32))] (.int (0 : Int32)) := (Arv.new A_300 (by decide)).pad (pad_rep [] (.int (0 : Int32)) 2)
        have Sf_b300 := Safe.ext E_300 C_299.1 (Safe.new ge_300)
        show Go p e below _ (T_300.setTop (mkF m 47 #[vI p1, vI c0, vI c1, vI c2] [(.ref b300), (.ref b299), (.ref b299)]))
        refine Go.step (fun _ k => XS.dup X_300.here hx rfl (hb hby d_method_2_code_47) rfl rfl k) ?_
        refine Go.step (fun _ k => XS.iconst X_300.here hx rfl (hb hby d_method_2_code_48) k) ?_
        refine Go.step (fun _ k => XS.iloadN X_300.here hx rfl (hb hby d_method_2_code_49) rfl  k) ?_
        show Go p e below _ (T_300.setTop (mkF m 50 #[vI p1, vI c0, vI c1, vI c2] [(.int c0), (.int (0 : Int32)), (.ref b300), (.ref b300), (.ref b299), (.ref b299)]))
        have cp302 := V_300
        obtain ⟨cl_301, Ar_301, ck_301, Sz_301, Ng_301, Hs_301, Gs_301⟩ := cp302
        have hin_301 : ¬ ((0 : Int32) < 0 ∨ cl_301.slots.size ≤ ((0 : Int32)).toNatClampNeg) := inb_of Sz_301 ⟨by decide, by decide⟩
        obtain ⟨T_301, h_301, X_301, e_301, W_301, st_301⟩ := stC X_300 hx hZ e_300 Ar_301 (j := (0 : Int32)) hin_301 (g := (mkF m 50 #[vI p1, vI c0, vI c1, vI c2] [(.int c0), (.int (0 : Int32)), (.ref b300), (.ref b300), (.ref b299), (.ref b299)])) rfl rfl (hb hby d_method_2_code_50)
        refine Go.step st_301 ?_
        have N_301 := Fr.snoc X_301 N0 g_b300
        have C_301 := CHr.wr W_301 (Safe.arv hZ.alike V_300 (by decide)) C_300.1
        have CR_301 := CHr.trans CR_300 C_301
        have le_301 : h_300.size ≤ h_301.size := Nat.le_of_eq W_301.size.symm
        have KP_301 := KP_300.wr W_301 (Or.inr sz_b300)
        have O_301 := O_300.wr W_301 g_b300
        have V_301 : Arv Z h_301 b300 k_300 .char (2 : Int32) [(.int c0), (.int (0 : Int32))] (.int (0 : Int32)) := by
          have q := Arv.set Ar_301 ck_301 Sz_301 Ng_301 Hs_301 Gs_301 (fits_nar_char _) W_301 0 rfl (Nat.le_of_ble_eq_true rfl)
          rw [nar_lat l_c0] at q; exact q
        show Go p e below _ (T_301.setTop (mkF m 51 #[vI p1, vI c0, vI c1, vI c2] [(.ref b300), (.ref b299), (.ref b299)]))
        refine Go.step (fun _ k => XS.dup X_301.here hx rfl (hb hby d_method_2_code_51) rfl rfl k) ?_
        refine Go.step (fun _ k => XS.iconst X_301.here hx rfl (hb hby d_method_2_code_52) k) ?_
        refine Go.step (fun _ k => XS.iloadN X_301.here hx rfl (hb hby d_method_2_code_53) rfl  k) ?_
        show Go p e below _ (T_301.setTop (mkF m 54 #[vI p1, vI c0, vI c1, vI c2] [(.int c1), (.int (1 : Int32)), (.ref b300), (.ref b300), (.ref b299), (.ref b299)]))
        have cp304 := V_301
        obtain ⟨cl_303, Ar_303, ck_303, Sz_303, Ng_303, Hs_303, Gs_303⟩ := cp304
        have hin_303 : ¬ ((1 : Int32) < 0 ∨ cl_303.slots.size ≤ ((1 : Int32)).toNatClampNeg) := inb_of Sz_303 ⟨by decide, by decide⟩
        obtain ⟨T_303, h_303, X_303, e_303, W_303, st_303⟩ := stC X_301 hx hZ e_301 Ar_303 (j := (1 : Int32)) hin_303 (g := (mkF m 54 #[vI p1, vI c0, vI c1, vI c2] [(.int c1), (.int (1 : Int32)), (.ref b300), (.ref b300), (.ref b299), (.ref b299)])) rfl rfl (hb hby d_method_2_code_54)
        refine Go.step st_303 ?_
        have N_303 := Fr.snoc X_303 N_301 g_b300
        have C_303 := CHr.wr W_303 (Safe.arv hZ.alike V_301 (by decide)) C_301.1
        have CR_303 := CHr.trans CR_301 C_303
        have le_303 : h_301.size ≤ h_303.size := Nat.le_of_eq W_303.size.symm
        have KP_303 := KP_301.wr W_303 (Or.inr sz_b300)
        have O_303 := O_301.wr W_303 g_b300
        have V_303 : Arv Z h_303 b300 k_300 .char (2 : Int32) [(.int c0), (.int c1)] (.int (0 : Int32)) := by
          have q := Arv.set Ar_303 ck_303 Sz_303 Ng_303 Hs_303 Gs_303 (fits_nar_char _) W_303 1 rfl (Nat.le_of_ble_eq_true rfl)
          rw [nar_lat l_c1] at q; exact q
        show Go p e below _ (T_303.setTop (mkF m 55 #[vI p1, vI c0, vI c1, vI c2] [(.ref b300), (.ref b299), (.ref b299)]))
        have f305 : Exa Z h_303 b299 "java/lang/String" := (((A_299.ext E_300).wr W_301).wr W_303)
        have f306 : Fld Z h_303 b299 "java/lang/String" "value" "[B" .null := (((F_299_20.ext E_300).other W_301 (Or.inl (Nat.ne_of_lt (Nat.lt_of_lt_of_le A_299.lt (Nat.le_trans (Nat.le_refl _) ge_300))))).other W_303 (Or.inl (Nat.ne_of_lt (Nat.lt_of_lt_of_le A_299.lt (Nat.le_trans (Nat.le_refl _) ge_300)))))
        have f307 : Fld Z h_303 b299 "java/lang/String" "coder" "B" (.int (0 : Int32)) := (((F_299_21.ext E_300).other W_301 (Or.inl (Nat.ne_of_lt (Nat.lt_of_lt_of_le A_299.lt (Nat.le_trans (Nat.le_refl _) ge_300))))).other W_303 (Or.inl (Nat.ne_of_lt (Nat.lt_of_lt_of_le A_299.lt (Nat.le_trans (Nat.le_refl _) ge_300)))))
        have hp308 : ∀ c ∈ ([c0, c1] : List Int32), ¬ c < 0 ∧ ¬ (255 : Int32) < c := (latc l_c0 (latc l_c1 lat0))
        obtain ⟨v_309, T_309, L_309, X_309, hQ_309, st_309⟩ := goC X_303 hx hZ (y := Y_33) hown rfl (wd_8 hw) (wd_9 hw) (wd_10 hw) (by decide) (StrChars.Road.backV (W := 1) (s := s.setVm s.vm) hZ (sw_words hw) (kI := 4) (wd_5 hw) (cs := ([c0, c1] : List Int32)) (bs := ([c0, c1] : List Int32).map (fun c => c.toInt8.toInt32)) (n := 2) g_b299 (Nat.le_trans Z0 KP_303.1) f305 f306 f307 V_303 (S_cs.ext O_303.2) n_cs rfl rfl (by decide) (by decide) hp308 rfl (by decide) (by decide)) e_303 (g := (mkF m 55 #[vI p1, vI c0, vI c1, vI c2] [(.ref b300), (.ref b299), (.ref b299)])) rfl (by rw [hml]; rfl) (a := b299) (argsL := [(.ref b300)]) (rest := [(.ref b299)]) rfl (lenOf pd_27 rfl) rfl (by show 2 * 0 + _ ≤ _; exact Nat.le_of_eq rfl) (hb hby d_method_2_code_55) (by decide) (by decide)
        obtain ⟨rfl, Nq_309, K_309, Ex_309, Fc_309, t_309, kb_309, -, gt_309, -, Fv_309, Av_309⟩ := hQ_309
        have N_309 := Fr.app N_303 Nq_309
        have C_309 := CHr.keep K_309 (sfS (CHr.safe (CHr.trans (CHr.trans C_300 C_301) C_303) A_299.lt Sf_b299) sf0) C_303.1
        have CR_309 := CHr.trans CR_303 C_309
        have le_309 : h_303.size ≤ T_309.heap.size := K_309.1
        have KP_309 := KP_303.trans K_309 (allS (Or.inr sz_b299) all0)
        have O_309 := O_303.keep K_309 (allS g_b299 all0)
        have Sx_309 : Str Z (T_309.heap).size (T_309.heap) b299 ([c0, c1] : List Int32) := ⟨t_309, kb_309, Ex_309.lt, Av_309.lt, Ex_309, Fv_309, Fc_309, Av_309, hp308, Nat.le_of_ble_eq_true rfl⟩
        refine Go.step st_309 ?_
        show Go p e below _ (T_309.setTop (mkF m 58 #[vI p1, vI c0, vI c1, vI c2] [(.ref b299)]))
        exact Go.retVW X_309 rfl hS0 (Nat.le_trans hk0 (Nat.le_trans le_299 (Nat.le_trans le_300 (Nat.le_trans le_301 (Nat.le_trans le_303 le_309))))) hZ hEL hh0 CR_309 hx hlk hret rfl (Or.inr (Or.inr (Or.inr (Or.inr ⟨rfl, rfl, rfl⟩)))) (hb hby d_method_2_code_58) (by decide) (by decide) (by exact ⟨b299, rfl, N_309, KP_309, sz_b299, (by rw [mks, if_neg u0, if_neg u1, if_pos u2]; exact Sx_309)⟩)
      · skip
        refine Go.step (fun _ k => XS.icmpYes X0.here hx rfl (pc0 := 37) (pc' := 59) rfl (hb hby d_method_2_code_37) rfl (feq u2).2 (by decide) (by decide) k) ?_
        show Go p e below _ (s₁.setTop (mkF m 59 #[vI p1, vI c0, vI c1, vI c2] []))
        obtain ⟨T_310, h_310, X_310, e_310, E_310, A_310, D_310, Un_310, st_310⟩ := newO X0 hx hZ hown (wd_4 hw) (wd_5 hw) (wd_6 hw) e0 (g := (mkF m 59 #[vI p1, vI c0, vI c1, vI c2] [])) rfl (hb hby d_method_2_code_59) (by decide) (by decide)
        obtain ⟨b310, q_310⟩ : ∃ z, z = h0.size := ⟨_, rfl⟩
        rw [← q_310] at A_310 D_310 Un_310 st_310
        refine Go.step st_310 ?_
        have C_310 := CHr.ext E_310 CV0
        have CR_310 := CHr.trans (CHr.refl CV0) C_310
        have le_310 : h0.size ≤ h_310.size := E_310.1
        have KP_310 := KP0.ext E_310
        have O_310 := hO.ext E_310
        have ge_310 : h0.size ≤ b310 := Nat.le_of_eq q_310.symm
        have sz_b310 : h0.size ≤ b310 := Nat.le_trans (Nat.le_refl _) ge_310
        have g_b310 : n0 ≤ b310 := Nat.le_trans Z0 sz_b310
        have F_310_20 : Fld Z h_310 b310 "java/lang/String" "value" "[B" .null := D_310 (Or.inr (wd_20 hw)) (ty := (.array .byte)) pf_0
        have F_310_21 : Fld Z h_310 b310 "java/lang/String" "coder" "B" (.int (0 : Int32)) := D_310 (Or.inr (wd_21 hw)) (ty := .byte) pf_1
        have Sf_b310 := Safe.ext E_310 CV0 (Safe.new ge_310)
        show Go p e below _ (T_310.setTop (mkF m 62 #[vI p1, vI c0, vI c1, vI c2] [(.ref b310)]))
        refine Go.step (fun _ k => XS.dup X_310.here hx rfl (hb hby d_method_2_code_62) rfl rfl k) ?_
        refine Go.step (fun _ k => XS.iconst X_310.here hx rfl (hb hby d_method_2_code_63) k) ?_
        show Go p e below _ (T_310.setTop (mkF m 64 #[vI p1, vI c0, vI c1, vI c2] [(.int (3 : Int32)), (.ref b310), (.ref b310)]))
        obtain ⟨T_311, h_311, k_311, X_311, e_311, E_311, A_311, st_311⟩ := newP X_310 hx hZ (aty := .char) (wd_7 hw) e_310 (g := (mkF m 64 #[vI p1, vI c0, vI c1, vI c2] [(.int (3 : Int32)), (.ref b310), (.ref b310)])) rfl (hb hby d_method_2_code_64) rfl (by decide) (cap := 3) (by decide) (by decide) (by decide) (by decide)
        obtain ⟨b311, q_311⟩ : ∃ z, z = h_310.size := ⟨_, rfl⟩
        rw [← q_311] at A_311 st_311
        refine Go.step st_311 ?_
        have C_311 := CHr.ext E_311 C_310.1
        have CR_311 := CHr.trans CR_310 C_311
        have le_311 : h_310.size ≤ h_311.size := E_311.1
        have KP_311 := KP_310.ext E_311
        have O_311 := O_310.ext E_311
        have ge_311 : h_310.size ≤ b311 := Nat.le_of_eq q_311.symm
        have sz_b311 : h0.size ≤ b311 := Nat.le_trans le_310 ge_311
        have g_b311 : n0 ≤ b311 := Nat.le_trans Z0 sz_b311
        have V_311 : Arv Z h_311 b311 k_311 .char (3 : Int32) [(.int (0 : Int32)), (.int (0 : Int32)), (.int (0 : Int32))] (.int (0 : Int32)) := (Arv.new A_311 (by decide)).pad (pad_rep [] (.int (0 : Int32)) 3)
        have Sf_b311 := Safe.ext E_311 C_310.1 (Safe.new ge_311)
        show Go p e below _ (T_311.setTop (mkF m 66 #[vI p1, vI c0, vI c1, vI c2] [(.ref b311), (.ref b310), (.ref b310)]))
        refine Go.step (fun _ k => XS.dup X_311.here hx rfl (hb hby d_method_2_code_66) rfl rfl k) ?_
        refine Go.step (fun _ k => XS.iconst X_311.here hx rfl (hb hby d_method_2_code_67) k) ?_
        refine Go.step (fun _ k => XS.iloadN X_311.here hx rfl (hb hby d_method_2_code_68) rfl  k) ?_
        show Go p e below _ (T_311.setTop (mkF m 69 #[vI p1, vI c0, vI c1, vI c2] [(.int c0), (.int (0 : Int32)), (.ref b311), (.ref b311), (.ref b310), (.ref b310)]))
        have cp313 := V_311
        obtain ⟨cl_312, Ar_312, ck_312, Sz_312, Ng_312, Hs_312, Gs_312⟩ := cp313
        have hin_312 : ¬ ((0 : Int32) < 0 ∨ cl_312.slots.size ≤ ((0 : Int32)).toNatClampNeg) := inb_of Sz_312 ⟨by decide, by decide⟩
        obtain ⟨T_312, h_312, X_312, e_312, W_312, st_312⟩ := stC X_311 hx hZ e_311 Ar_312 (j := (0 : Int32)) hin_312 (g := (mkF m 69 #[vI p1, vI c0, vI c1, vI c2] [(.int c0), (.int (0 : Int32)), (.ref b311), (.ref b311), (.ref b310), (.ref b310)])) rfl rfl (hb hby d_method_2_code_69)
        refine Go.step st_312 ?_
        have N_312 := Fr.snoc X_312 N0 g_b311
        have C_312 := CHr.wr W_312 (Safe.arv hZ.alike V_311 (by decide)) C_311.1
        have CR_312 := CHr.trans CR_311 C_312
        have le_312 : h_311.size ≤ h_312.size := Nat.le_of_eq W_312.size.symm
        have KP_312 := KP_311.wr W_312 (Or.inr sz_b311)
        have O_312 := O_311.wr W_312 g_b311
        have V_312 : Arv Z h_312 b311 k_311 .char (3 : Int32) [(.int c0), (.int (0 : Int32)), (.int (0 : Int32))] (.int (0 : Int32)) := by
          have q := Arv.set Ar_312 ck_312 Sz_312 Ng_312 Hs_312 Gs_312 (fits_nar_char _) W_312 0 rfl (Nat.le_of_ble_eq_true rfl)
          rw [nar_lat l_c0] at q; exact q
        show Go p e below _ (T_312.setTop (mkF m 70 #[vI p1, vI c0, vI c1, vI c2] [(.ref b311), (.ref b310), (.ref b310)]))
        refine Go.step (fun _ k => XS.dup X_312.here hx rfl (hb hby d_method_2_code_70) rfl rfl k) ?_
        refine Go.step (fun _ k => XS.iconst X_312.here hx rfl (hb hby d_method_2_code_71) k) ?_
        refine Go.step (fun _ k => XS.iloadN X_312.here hx rfl (hb hby d_method_2_code_72) rfl  k) ?_
        show Go p e below _ (T_312.setTop (mkF m 73 #[vI p1, vI c0, vI c1, vI c2] [(.int c1), (.int (1 : Int32)), (.ref b311), (.ref b311), (.ref b310), (.ref b310)]))
        have cp315 := V_312
        obtain ⟨cl_314, Ar_314, ck_314, Sz_314, Ng_314, Hs_314, Gs_314⟩ := cp315
        have hin_314 : ¬ ((1 : Int32) < 0 ∨ cl_314.slots.size ≤ ((1 : Int32)).toNatClampNeg) := inb_of Sz_314 ⟨by decide, by decide⟩
        obtain ⟨T_314, h_314, X_314, e_314, W_314, st_314⟩ := stC X_312 hx hZ e_312 Ar_314 (j := (1 : Int32)) hin_314 (g := (mkF m 73 #[vI p1, vI c0, vI c1, vI c2] [(.int c1), (.int (1 : Int32)), (.ref b311), (.ref b311), (.ref b310), (.ref b310)])) rfl rfl (hb hby d_method_2_code_73)
        refine Go.step st_314 ?_
        have N_314 := Fr.snoc X_314 N_312 g_b311
        have C_314 := CHr.wr W_314 (Safe.arv hZ.alike V_312 (by decide)) C_312.1
        have CR_314 := CHr.trans CR_312 C_314
        have le_314 : h_312.size ≤ h_314.size := Nat.le_of_eq W_314.size.symm
        have KP_314 := KP_312.wr W_314 (Or.inr sz_b311)
        have O_314 := O_312.wr W_314 g_b311
        have V_314 : Arv Z h_314 b311 k_311 .char (3 : Int32) [(.int c0), (.int c1), (.int (0 : Int32))] (.int (0 : Int32)) := by
          have q := Arv.set Ar_314 ck_314 Sz_314 Ng_314 Hs_314 Gs_314 (fits_nar_char _) W_314 1 rfl (Nat.le_of_ble_eq_true rfl)
          rw [nar_lat l_c1] at q; exact q
        show Go p e below _ (T_314.setTop (mkF m 74 #[vI p1, vI c0, vI c1, vI c2] [(.ref b311), (.ref b310), (.ref b310)]))
        refine Go.step (fun _ k => XS.dup X_314.here hx rfl (hb hby d_method_2_code_74) rfl rfl k) ?_
        refine Go.step (fun _ k => XS.iconst X_314.here hx rfl (hb hby d_method_2_code_75) k) ?_
        refine Go.step (fun _ k => XS.iloadN X_314.here hx rfl (hb hby d_method_2_code_76) rfl  k) ?_
        show Go p e below _ (T_314.setTop (mkF m 77 #[vI p1, vI c0, vI c1, vI c2] [(.int c2), (.int (2 : Int32)), (.ref b311), (.ref b311), (.ref b310), (.ref b310)]))
        have cp317 := V_314
        obtain ⟨cl_316, Ar_316, ck_316, Sz_316, Ng_316, Hs_316, Gs_316⟩ := cp317
        have hin_316 : ¬ ((2 : Int32) < 0 ∨ cl_316.slots.size ≤ ((2 : Int32)).toNatClampNeg) := inb_of Sz_316 ⟨by decide, by decide⟩
        obtain ⟨T_316, h_316, X_316, e_316, W_316, st_316⟩ := stC X_314 hx hZ e_314 Ar_316 (j := (2 : Int32)) hin_316 (g := (mkF m 77 #[vI p1, vI c0, vI c1, vI c2] [(.int c2), (.int (2 : Int32)), (.ref b311), (.ref b311), (.ref b310), (.ref b310)])) rfl rfl (hb hby d_method_2_code_77)
        refine Go.step st_316 ?_
        have N_316 := Fr.snoc X_316 N_314 g_b311
        have C_316 := CHr.wr W_316 (Safe.arv hZ.alike V_314 (by decide)) C_314.1
        have CR_316 := CHr.trans CR_314 C_316
        have le_316 : h_314.size ≤ h_316.size := Nat.le_of_eq W_316.size.symm
        have KP_316 := KP_314.wr W_316 (Or.inr sz_b311)
        have O_316 := O_314.wr W_316 g_b311
        have V_316 : Arv Z h_316 b311 k_311 .char (3 : Int32) [(.int c0), (.int c1), (.int c2)] (.int (0 : Int32)) := by
          have q := Arv.set Ar_316 ck_316 Sz_316 Ng_316 Hs_316 Gs_316 (fits_nar_char _) W_316 2 rfl (Nat.le_of_ble_eq_true rfl)
          rw [nar_lat l_c2] at q; exact q
        show Go p e below _ (T_316.setTop (mkF m 78 #[vI p1, vI c0, vI c1, vI c2] [(.ref b311), (.ref b310), (.ref b310)]))
        have f318 : Exa Z h_316 b310 "java/lang/String" := ((((A_310.ext E_311).wr W_312).wr W_314).wr W_316)
        have f319 : Fld Z h_316 b310 "java/lang/String" "value" "[B" .null := ((((F_310_20.ext E_311).other W_312 (Or.inl (Nat.ne_of_lt (Nat.lt_of_lt_of_le A_310.lt (Nat.le_trans (Nat.le_refl _) ge_311))))).other W_314 (Or.inl (Nat.ne_of_lt (Nat.lt_of_lt_of_le A_310.lt (Nat.le_trans (Nat.le_refl _) ge_311))))).other W_316 (Or.inl (Nat.ne_of_lt (Nat.lt_of_lt_of_le A_310.lt (Nat.le_trans (Nat.le_refl _) ge_311)))))
        have f320 : Fld Z h_316 b310 "java/lang/String" "coder" "B" (.int (0 : Int32)) := ((((F_310_21.ext E_311).other W_312 (Or.inl (Nat.ne_of_lt (Nat.lt_of_lt_of_le A_310.lt (Nat.le_trans (Nat.le_refl _) ge_311))))).other W_314 (Or.inl (Nat.ne_of_lt (Nat.lt_of_lt_of_le A_310.lt (Nat.le_trans (Nat.le_refl _) ge_311))))).other W_316 (Or.inl (Nat.ne_of_lt (Nat.lt_of_lt_of_le A_310.lt (Nat.le_trans (Nat.le_refl _) ge_311)))))
        have hp321 : ∀ c ∈ ([c0, c1, c2] : List Int32), ¬ c < 0 ∧ ¬ (255 : Int32) < c := (latc l_c0 (latc l_c1 (latc l_c2 lat0)))
        obtain ⟨v_322, T_322, L_322, X_322, hQ_322, st_322⟩ := goC X_316 hx hZ (y := Y_33) hown rfl (wd_8 hw) (wd_9 hw) (wd_10 hw) (by decide) (StrChars.Road.backV (W := 1) (s := s.setVm s.vm) hZ (sw_words hw) (kI := 4) (wd_5 hw) (cs := ([c0, c1, c2] : List Int32)) (bs := ([c0, c1, c2] : List Int32).map (fun c => c.toInt8.toInt32)) (n := 3) g_b310 (Nat.le_trans Z0 KP_316.1) f318 f319 f320 V_316 (S_cs.ext O_316.2) n_cs rfl rfl (by decide) (by decide) hp321 rfl (by decide) (by decide)) e_316 (g := (mkF m 78 #[vI p1, vI c0, vI c1, vI c2] [(.ref b311), (.ref b310), (.ref b310)])) rfl (by rw [hml]; rfl) (a := b310) (argsL := [(.ref b311)]) (rest := [(.ref b310)]) rfl (lenOf pd_27 rfl) rfl (by show 2 * 0 + _ ≤ _; exact Nat.le_of_eq rfl) (hb hby d_method_2_code_78) (by decide) (by decide)
        obtain ⟨rfl, Nq_322, K_322, Ex_322, Fc_322, t_322, kb_322, -, gt_322, -, Fv_322, Av_322⟩ := hQ_322
        have N_322 := Fr.app N_316 Nq_322
        have C_322 := CHr.keep K_322 (sfS (CHr.safe (CHr.trans (CHr.trans (CHr.trans C_311 C_312) C_314) C_316) A_310.lt Sf_b310) sf0) C_316.1
        have CR_322 := CHr.trans CR_316 C_322
        have le_322 : h_316.size ≤ T_322.heap.size := K_322.1
        have KP_322 := KP_316.trans K_322 (allS (Or.inr sz_b310) all0)
        have O_322 := O_316.keep K_322 (allS g_b310 all0)
        have Sx_322 : Str Z (T_322.heap).size (T_322.heap) b310 ([c0, c1, c2] : List Int32) := ⟨t_322, kb_322, Ex_322.lt, Av_322.lt, Ex_322, Fv_322, Fc_322, Av_322, hp321, Nat.le_of_ble_eq_true rfl⟩
        refine Go.step st_322 ?_
        show Go p e below _ (T_322.setTop (mkF m 81 #[vI p1, vI c0, vI c1, vI c2] [(.ref b310)]))
        exact Go.retVW X_322 rfl hS0 (Nat.le_trans hk0 (Nat.le_trans le_310 (Nat.le_trans le_311 (Nat.le_trans le_312 (Nat.le_trans le_314 (Nat.le_trans le_316 le_322)))))) hZ hEL hh0 CR_322 hx hlk hret rfl (Or.inr (Or.inr (Or.inr (Or.inr ⟨rfl, rfl, rfl⟩)))) (hb hby d_method_2_code_81) (by decide) (by decide) (by exact ⟨b310, rfl, N_322, KP_322, sz_b310, (by rw [mks, if_neg u0, if_neg u1, if_neg u2]; exact Sx_322)⟩)
--@E
--@C pat
def Q_pat (Z : State) (zc : Int32) (vfm : Value) (p1 : Int32) (c0 : Int32) (c1 : Int32) (c2 : Int32) (h0 : Heap) (n0 : Nat) (v : Option Value) (h : Heap) (L : List Loc) : Prop := ∃ (r : Addr), v = some (.ref r) ∧ Fr n0 L ∧ Keep h0 h [] ∧ h0.size ≤ r ∧ Str Z h.size h r (pats p1 c0 c1 c2)
set_option maxRecDepth 65536 in
set_option maxHeartbeats 40000000 in
theorem rm_pat (l : Launch) (Z : State) (a0 : Array Value) (hw : ∀ d ∈ tables_1, d.before a0 Z = true) (zc : Int32) (vfm : Value) (p1 : Int32) (c0 : Int32) (c1 : Int32) (c2 : Int32) (h0 : Heap) (n0 : Nat) (Z0 : n0 ≤ h0.size) (l_c0 : (¬ c0 < 0 ∧ ¬ (255 : Int32) < c0)) (l_c1 : (¬ c1 < 0 ∧ ¬ (255 : Int32) < c1)) (l_c2 : (¬ c2 < 0 ∧ ¬ (255 : Int32) < c2)) (hSt : St Z zc vfm) (hO : Old Z n0 h0) :
    CW l Z EL ({ cls := "com/example/lakehouse_catalog/lakehousecatalog/iceberg/IcebergRoutesEndpointPinLaw", name := "pat", desc := "(ICCC)Ljava/lang/String;" } : Jvm.MethodName) [(Jvm.Cond.code ({ cls := "com/example/lakehouse_catalog/lakehousecatalog/iceberg/IcebergRoutesEndpointPinLaw", name := "pat", desc := "(ICCC)Ljava/lang/String;" } : Jvm.MethodName) method_3_code (4 : Nat) (Option.some (Jvm.ClassFile.FieldType.object "java/lang/String")))] ({ frames := 4, cells := 3, slots := 16, locals := 66 } : Room) #[(.int p1), (.int c0), (.int c1), (.int c2)] h0 (Q_pat Z zc vfm p1 c0 c1 c2 h0 n0) := by
  refine CW.of (L0 := #[vI p1, vI c0, vI c1, vI c2]) (plainFor_of_name pn_8) (fun m => by first | (simp [entryFrame, mkF, argsToLocals, Value.category]; done) | rfl) ?_
  intro p e s m below meth c s₁ hx hby hml hret hlk hZ hown hnm X0 e0 hS0 hk0 CV0 hh0
  have hEL := hEL_ (a0 := a0) hw
  have hwS := hwS_ hw
  have N0 := Fr.nil n0
  have KP0 := Keep.refl h0 []
  have hSt_ := hSt
  obtain ⟨S_cs, n_cs, S_fm, r_fm⟩ := hSt_
  show Go p e below _ (s₁.setTop (mkF m 0 #[vI p1, vI c0, vI c1, vI c2] []))
  refine Go.step (fun _ k => XS.iloadN X0.here hx rfl (hb hby d_method_3_code_0) rfl  k) ?_
  show Go p e below _ (s₁.setTop (mkF m 1 #[vI p1, vI c0, vI c1, vI c2] [(.int p1)]))
  by_cases u0 : p1 = (0 : Int32)
  · skip
    refine Go.step (fun _ k => XS.ifNo X0.here hx rfl (hb hby d_method_3_code_1) rfl ((if0 _ _).trans (teq u0).2) k) ?_
    show Go p e below _ (s₁.setTop (mkF m 4 #[vI p1, vI c0, vI c1, vI c2] []))
    obtain ⟨T_323, h_323, X_323, e_323, E_323, A_323, D_323, Un_323, st_323⟩ := newO X0 hx hZ hown (wd_4 hw) (wd_5 hw) (wd_6 hw) e0 (g := (mkF m 4 #[vI p1, vI c0, vI c1, vI c2] [])) rfl (hb hby d_method_3_code_4) (by decide) (by decide)
    obtain ⟨b323, q_323⟩ : ∃ z, z = h0.size := ⟨_, rfl⟩
    rw [← q_323] at A_323 D_323 Un_323 st_323
    refine Go.step st_323 ?_
    have C_323 := CHr.ext E_323 CV0
    have CR_323 := CHr.trans (CHr.refl CV0) C_323
    have le_323 : h0.size ≤ h_323.size := E_323.1
    have KP_323 := KP0.ext E_323
    have O_323 := hO.ext E_323
    have ge_323 : h0.size ≤ b323 := Nat.le_of_eq q_323.symm
    have sz_b323 : h0.size ≤ b323 := Nat.le_trans (Nat.le_refl _) ge_323
    have g_b323 : n0 ≤ b323 := Nat.le_trans Z0 sz_b323
    have F_323_20 : Fld Z h_323 b323 "java/lang/String" "value" "[B" .null := D_323 (Or.inr (wd_20 hw)) (ty := (.array .byte)) pf_0
    have F_323_21 : Fld Z h_323 b323 "java/lang/String" "coder" "B" (.int (0 : Int32)) := D_323 (Or.inr (wd_21 hw)) (ty := .byte) pf_1
    have Sf_b323 := Safe.ext E_323 CV0 (Safe.new ge_323)
    show Go p e below _ (T_323.setTop (mkF m 7 #[vI p1, vI c0, vI c1, vI c2] [(.ref b323)]))
    refine Go.step (fun _ k => XS.dup X_323.here hx rfl (hb hby d_method_3_code_7) rfl rfl k) ?_
    refine Go.step (fun _ k => XS.iconst X_323.here hx rfl (hb hby d_method_3_code_8) k) ?_
    show Go p e below _ (T_323.setTop (mkF m 9 #[vI p1, vI c0, vI c1, vI c2] [(.int (3 : Int32)), (.ref b323), (.ref b323)]))
    obtain ⟨T_324, h_324, k_324, X_324, e_324, E_324, A_324, st_324⟩ := newP X_323 hx hZ (aty := .char) (wd_7 hw) e_323 (g := (mkF m 9 #[vI p1, vI c0, vI c1, vI c2] [(.int (3 : Int32)), (.ref b323), (.ref b323)])) rfl (hb hby d_method_3_code_9) rfl (by decide) (cap := 3) (by decide) (by decide) (by decide) (by decide)
    obtain ⟨b324, q_324⟩ : ∃ z, z = h_323.size := ⟨_, rfl⟩
    rw [← q_324] at A_324 st_324
    refine Go.step st_324 ?_
    have C_324 := CHr.ext E_324 C_323.1
    have CR_324 := CHr.trans CR_323 C_324
    have le_324 : h_323.size ≤ h_324.size := E_324.1
    have KP_324 := KP_323.ext E_324
    have O_324 := O_323.ext E_324
    have ge_324 : h_323.size ≤ b324 := Nat.le_of_eq q_324.symm
    have sz_b324 : h0.size ≤ b324 := Nat.le_trans le_323 ge_324
    have g_b324 : n0 ≤ b324 := Nat.le_trans Z0 sz_b324
    have V_324 : Arv Z h_324 b324 k_324 .char (3 : Int32) [(.int (0 : Int32)), (.int (0 : Int32)), (.int (0 : Int32))] (.int (0 : Int32)) := (Arv.new A_324 (by decide)).pad (pad_rep [] (.int (0 : Int32)) 3)
    have Sf_b324 := Safe.ext E_324 C_323.1 (Safe.new ge_324)
    show Go p e below _ (T_324.setTop (mkF m 11 #[vI p1, vI c0, vI c1, vI c2] [(.ref b324), (.ref b323), (.ref b323)]))
    refine Go.step (fun _ k => XS.dup X_324.here hx rfl (hb hby d_method_3_code_11) rfl rfl k) ?_
    refine Go.step (fun _ k => XS.iconst X_324.here hx rfl (hb hby d_method_3_code_12) k) ?_
    refine Go.step (fun _ k => XS.bipush X_324.here hx rfl (hb hby d_method_3_code_13) k) ?_
    show Go p e below _ (T_324.setTop (mkF m 15 #[vI p1, vI c0, vI c1, vI c2] [(.int (47 : Int32)), (.int (0 : Int32)), (.ref b324), (.ref b324), (.ref b323), (.ref b323)]))
    have cp326 := V_324
    obtain ⟨cl_325, Ar_325, ck_325, Sz_325, Ng_325, Hs_325, Gs_325⟩ := cp326
    have hin_325 : ¬ ((0 : Int32) < 0 ∨ cl_325.slots.size ≤ ((0 : Int32)).toNatClampNeg) := inb_of Sz_325 ⟨by decide, by decide⟩
    obtain ⟨T_325, h_325, X_325, e_325, W_325, st_325⟩ := stC X_324 hx hZ e_324 Ar_325 (j := (0 : Int32)) hin_325 (g := (mkF m 15 #[vI p1, vI c0, vI c1, vI c2] [(.int (47 : Int32)), (.int (0 : Int32)), (.ref b324), (.ref b324), (.ref b323), (.ref b323)])) rfl rfl (hb hby d_method_3_code_15)
    refine Go.step st_325 ?_
    have N_325 := Fr.snoc X_325 N0 g_b324
    have C_325 := CHr.wr W_325 (Safe.arv hZ.alike V_324 (by decide)) C_324.1
    have CR_325 := CHr.trans CR_324 C_325
    have le_325 : h_324.size ≤ h_325.size := Nat.le_of_eq W_325.size.symm
    have KP_325 := KP_324.wr W_325 (Or.inr sz_b324)
    have O_325 := O_324.wr W_325 g_b324
    have V_325 : Arv Z h_325 b324 k_324 .char (3 : Int32) [(.int (47 : Int32)), (.int (0 : Int32)), (.int (0 : Int32))] (.int (0 : Int32)) := by
      have q := Arv.set Ar_325 ck_325 Sz_325 Ng_325 Hs_325 Gs_325 (fits_nar_char _) W_325 0 rfl (Nat.le_of_ble_eq_true rfl)
      rw [show nar .char (47 : Int32) = (47 : Int32) from by decide] at q; exact q
    show Go p e below _ (T_325.setTop (mkF m 16 #[vI p1, vI c0, vI c1, vI c2] [(.ref b324), (.ref b323), (.ref b323)]))
    refine Go.step (fun _ k => XS.dup X_325.here hx rfl (hb hby d_method_3_code_16) rfl rfl k) ?_
    refine Go.step (fun _ k => XS.iconst X_325.here hx rfl (hb hby d_method_3_code_17) k) ?_
    refine Go.step (fun _ k => XS.bipush X_325.here hx rfl (hb hby d_method_3_code_18) k) ?_
    show Go p e below _ (T_325.setTop (mkF m 20 #[vI p1, vI c0, vI c1, vI c2] [(.int (118 : Int32)), (.int (1 : Int32)), (.ref b324), (.ref b324), (.ref b323), (.ref b323)]))
    have cp328 := V_325
    obtain ⟨cl_327, Ar_327, ck_327, Sz_327, Ng_327, Hs_327, Gs_327⟩ := cp328
    have hin_327 : ¬ ((1 : Int32) < 0 ∨ cl_327.slots.size ≤ ((1 : Int32)).toNatClampNeg) := inb_of Sz_327 ⟨by decide, by decide⟩
    obtain ⟨T_327, h_327, X_327, e_327, W_327, st_327⟩ := stC X_325 hx hZ e_325 Ar_327 (j := (1 : Int32)) hin_327 (g := (mkF m 20 #[vI p1, vI c0, vI c1, vI c2] [(.int (118 : Int32)), (.int (1 : Int32)), (.ref b324), (.ref b324), (.ref b323), (.ref b323)])) rfl rfl (hb hby d_method_3_code_20)
    refine Go.step st_327 ?_
    have N_327 := Fr.snoc X_327 N_325 g_b324
    have C_327 := CHr.wr W_327 (Safe.arv hZ.alike V_325 (by decide)) C_325.1
    have CR_327 := CHr.trans CR_325 C_327
    have le_327 : h_325.size ≤ h_327.size := Nat.le_of_eq W_327.size.symm
    have KP_327 := KP_325.wr W_327 (Or.inr sz_b324)
    have O_327 := O_325.wr W_327 g_b324
    have V_327 : Arv Z h_327 b324 k_324 .char (3 : Int32) [(.int (47 : Int32)), (.int (118 : Int32)), (.int (0 : Int32))] (.int (0 : Int32)) := by
      have q := Arv.set Ar_327 ck_327 Sz_327 Ng_327 Hs_327 Gs_327 (fits_nar_char _) W_327 1 rfl (Nat.le_of_ble_eq_true rfl)
      rw [show nar .char (118 : Int32) = (118 : Int32) from by decide] at q; exact q
    show Go p e below _ (T_327.setTop (mkF m 21 #[vI p1, vI c0, vI c1, vI c2] [(.ref b324), (.ref b323), (.ref b323)]))
    refine Go.step (fun _ k => XS.dup X_327.here hx rfl (hb hby d_method_3_code_21) rfl rfl k) ?_
    refine Go.step (fun _ k => XS.iconst X_327.here hx rfl (hb hby d_method_3_code_22) k) ?_
    refine Go.step (fun _ k => XS.bipush X_327.here hx rfl (hb hby d_method_3_code_23) k) ?_
    show Go p e below _ (T_327.setTop (mkF m 25 #[vI p1, vI c0, vI c1, vI c2] [(.int (49 : Int32)), (.int (2 : Int32)), (.ref b324), (.ref b324), (.ref b323), (.ref b323)]))
    have cp330 := V_327
    obtain ⟨cl_329, Ar_329, ck_329, Sz_329, Ng_329, Hs_329, Gs_329⟩ := cp330
    have hin_329 : ¬ ((2 : Int32) < 0 ∨ cl_329.slots.size ≤ ((2 : Int32)).toNatClampNeg) := inb_of Sz_329 ⟨by decide, by decide⟩
    obtain ⟨T_329, h_329, X_329, e_329, W_329, st_329⟩ := stC X_327 hx hZ e_327 Ar_329 (j := (2 : Int32)) hin_329 (g := (mkF m 25 #[vI p1, vI c0, vI c1, vI c2] [(.int (49 : Int32)), (.int (2 : Int32)), (.ref b324), (.ref b324), (.ref b323), (.ref b323)])) rfl rfl (hb hby d_method_3_code_25)
    refine Go.step st_329 ?_
    have N_329 := Fr.snoc X_329 N_327 g_b324
    have C_329 := CHr.wr W_329 (Safe.arv hZ.alike V_327 (by decide)) C_327.1
    have CR_329 := CHr.trans CR_327 C_329
    have le_329 : h_327.size ≤ h_329.size := Nat.le_of_eq W_329.size.symm
    have KP_329 := KP_327.wr W_329 (Or.inr sz_b324)
    have O_329 := O_327.wr W_329 g_b324
    have V_329 : Arv Z h_329 b324 k_324 .char (3 : Int32) [(.int (47 : Int32)), (.int (118 : Int32)), (.int (49 : Int32))] (.int (0 : Int32)) := by
      have q := Arv.set Ar_329 ck_329 Sz_329 Ng_329 Hs_329 Gs_329 (fits_nar_char _) W_329 2 rfl (Nat.le_of_ble_eq_true rfl)
      rw [show nar .char (49 : Int32) = (49 : Int32) from by decide] at q; exact q
    show Go p e below _ (T_329.setTop (mkF m 26 #[vI p1, vI c0, vI c1, vI c2] [(.ref b324), (.ref b323), (.ref b323)]))
    have f331 : Exa Z h_329 b323 "java/lang/String" := ((((A_323.ext E_324).wr W_325).wr W_327).wr W_329)
    have f332 : Fld Z h_329 b323 "java/lang/String" "value" "[B" .null := ((((F_323_20.ext E_324).other W_325 (Or.inl (Nat.ne_of_lt (Nat.lt_of_lt_of_le A_323.lt (Nat.le_trans (Nat.le_refl _) ge_324))))).other W_327 (Or.inl (Nat.ne_of_lt (Nat.lt_of_lt_of_le A_323.lt (Nat.le_trans (Nat.le_refl _) ge_324))))).other W_329 (Or.inl (Nat.ne_of_lt (Nat.lt_of_lt_of_le A_323.lt (Nat.le_trans (Nat.le_refl _) ge_324)))))
    have f333 : Fld Z h_329 b323 "java/lang/String" "coder" "B" (.int (0 : Int32)) := ((((F_323_21.ext E_324).other W_325 (Or.inl (Nat.ne_of_lt (Nat.lt_of_lt_of_le A_323.lt (Nat.le_trans (Nat.le_refl _) ge_324))))).other W_327 (Or.inl (Nat.ne_of_lt (Nat.lt_of_lt_of_le A_323.lt (Nat.le_trans (Nat.le_refl _) ge_324))))).other W_329 (Or.inl (Nat.ne_of_lt (Nat.lt_of_lt_of_le A_323.lt (Nat.le_trans (Nat.le_refl _) ge_324)))))
    have hp334 : ∀ c ∈ ([(47 : Int32), (118 : Int32), (49 : Int32)] : List Int32), ¬ c < 0 ∧ ¬ (255 : Int32) < c := (latc (by decide) (latc (by decide) (latc (by decide) lat0)))
    obtain ⟨v_335, T_335, L_335, X_335, hQ_335, st_335⟩ := goC X_329 hx hZ (y := Y_33) hown rfl (wd_8 hw) (wd_9 hw) (wd_10 hw) (by decide) (StrChars.Road.backV (W := 1) (s := s.setVm s.vm) hZ (sw_words hw) (kI := 4) (wd_5 hw) (cs := ([(47 : Int32), (118 : Int32), (49 : Int32)] : List Int32)) (bs := ([(47 : Int32), (118 : Int32), (49 : Int32)] : List Int32).map (fun c => c.toInt8.toInt32)) (n := 3) g_b323 (Nat.le_trans Z0 KP_329.1) f331 f332 f333 V_329 (S_cs.ext O_329.2) n_cs rfl rfl (by decide) (by decide) hp334 rfl (by decide) (by decide)) e_329 (g := (mkF m 26 #[vI p1, vI c0, vI c1, vI c2] [(.ref b324), (.ref b323), (.ref b323)])) rfl (by rw [hml]; rfl) (a := b323) (argsL := [(.ref b324)]) (rest := [(.ref b323)]) rfl (lenOf pd_27 rfl) rfl (by show 2 * 0 + _ ≤ _; exact Nat.le_of_eq rfl) (hb hby d_method_3_code_26) (by decide) (by decide)
    obtain ⟨rfl, Nq_335, K_335, Ex_335, Fc_335, t_335, kb_335, -, gt_335, -, Fv_335, Av_335⟩ := hQ_335
    have N_335 := Fr.app N_329 Nq_335
    have C_335 := CHr.keep K_335 (sfS (CHr.safe (CHr.trans (CHr.trans (CHr.trans C_324 C_325) C_327) C_329) A_323.lt Sf_b323) sf0) C_329.1
    have CR_335 := CHr.trans CR_329 C_335
    have le_335 : h_329.size ≤ T_335.heap.size := K_335.1
    have KP_335 := KP_329.trans K_335 (allS (Or.inr sz_b323) all0)
    have O_335 := O_329.keep K_335 (allS g_b323 all0)
    have Sx_335 : Str Z (T_335.heap).size (T_335.heap) b323 ([(47 : Int32), (118 : Int32), (49 : Int32)] : List Int32) := ⟨t_335, kb_335, Ex_335.lt, Av_335.lt, Ex_335, Fv_335, Fc_335, Av_335, hp334, Nat.le_of_ble_eq_true rfl⟩
    refine Go.step st_335 ?_
    show Go p e below _ (T_335.setTop (mkF m 29 #[vI p1, vI c0, vI c1, vI c2] [(.ref b323)]))
    exact Go.retVW X_335 rfl hS0 (Nat.le_trans hk0 (Nat.le_trans le_323 (Nat.le_trans le_324 (Nat.le_trans le_325 (Nat.le_trans le_327 (Nat.le_trans le_329 le_335)))))) hZ hEL hh0 CR_335 hx hlk hret rfl (Or.inr (Or.inr (Or.inr (Or.inr ⟨rfl, rfl, rfl⟩)))) (hb hby d_method_3_code_29) (by decide) (by decide) (by exact ⟨b323, rfl, N_335, KP_335, sz_b323, (by rw [pats, if_pos u0]; exact Sx_335)⟩)
  · skip
    refine Go.step (fun _ k => XS.ifYes X0.here hx rfl (pc0 := 1) (pc' := 30) rfl (hb hby d_method_3_code_1) rfl ((if0 _ _).trans (feq u0).2) (by decide) (by decide) k) ?_
    show Go p e below _ (s₁.setTop (mkF m 30 #[vI p1, vI c0, vI c1, vI c2] []))
    refine Go.step (fun _ k => XS.iloadN X0.here hx rfl (hb hby d_method_3_code_30) rfl  k) ?_
    refine Go.step (fun _ k => XS.iconst X0.here hx rfl (hb hby d_method_3_code_31) k) ?_
    show Go p e below _ (s₁.setTop (mkF m 32 #[vI p1, vI c0, vI c1, vI c2] [(.int (1 : Int32)), (.int p1)]))
    by_cases u1 : p1 = (1 : Int32)
    · skip
      refine Go.step (fun _ k => XS.icmpNo X0.here hx rfl (hb hby d_method_3_code_32) rfl (teq u1).2 k) ?_
      show Go p e below _ (s₁.setTop (mkF m 35 #[vI p1, vI c0, vI c1, vI c2] []))
      obtain ⟨T_336, h_336, X_336, e_336, E_336, A_336, D_336, Un_336, st_336⟩ := newO X0 hx hZ hown (wd_4 hw) (wd_5 hw) (wd_6 hw) e0 (g := (mkF m 35 #[vI p1, vI c0, vI c1, vI c2] [])) rfl (hb hby d_method_3_code_35) (by decide) (by decide)
      obtain ⟨b336, q_336⟩ : ∃ z, z = h0.size := ⟨_, rfl⟩
      rw [← q_336] at A_336 D_336 Un_336 st_336
      refine Go.step st_336 ?_
      have C_336 := CHr.ext E_336 CV0
      have CR_336 := CHr.trans (CHr.refl CV0) C_336
      have le_336 : h0.size ≤ h_336.size := E_336.1
      have KP_336 := KP0.ext E_336
      have O_336 := hO.ext E_336
      have ge_336 : h0.size ≤ b336 := Nat.le_of_eq q_336.symm
      have sz_b336 : h0.size ≤ b336 := Nat.le_trans (Nat.le_refl _) ge_336
      have g_b336 : n0 ≤ b336 := Nat.le_trans Z0 sz_b336
      have F_336_20 : Fld Z h_336 b336 "java/lang/String" "value" "[B" .null := D_336 (Or.inr (wd_20 hw)) (ty := (.array .byte)) pf_0
      have F_336_21 : Fld Z h_336 b336 "java/lang/String" "coder" "B" (.int (0 : Int32)) := D_336 (Or.inr (wd_21 hw)) (ty := .byte) pf_1
      have Sf_b336 := Safe.ext E_336 CV0 (Safe.new ge_336)
      show Go p e below _ (T_336.setTop (mkF m 38 #[vI p1, vI c0, vI c1, vI c2] [(.ref b336)]))
      refine Go.step (fun _ k => XS.dup X_336.here hx rfl (hb hby d_method_3_code_38) rfl rfl k) ?_
      refine Go.step (fun _ k => XS.iconst X_336.here hx rfl (hb hby d_method_3_code_39) k) ?_
      show Go p e below _ (T_336.setTop (mkF m 40 #[vI p1, vI c0, vI c1, vI c2] [(.int (4 : Int32)), (.ref b336), (.ref b336)]))
      obtain ⟨T_337, h_337, k_337, X_337, e_337, E_337, A_337, st_337⟩ := newP X_336 hx hZ (aty := .char) (wd_7 hw) e_336 (g := (mkF m 40 #[vI p1, vI c0, vI c1, vI c2] [(.int (4 : Int32)), (.ref b336), (.ref b336)])) rfl (hb hby d_method_3_code_40) rfl (by decide) (cap := 4) (by decide) (by decide) (by decide) (by decide)
      obtain ⟨b337, q_337⟩ : ∃ z, z = h_336.size := ⟨_, rfl⟩
      rw [← q_337] at A_337 st_337
      refine Go.step st_337 ?_
      have C_337 := CHr.ext E_337 C_336.1
      have CR_337 := CHr.trans CR_336 C_337
      have le_337 : h_336.size ≤ h_337.size := E_337.1
      have KP_337 := KP_336.ext E_337
      have O_337 := O_336.ext E_337
      have ge_337 : h_336.size ≤ b337 := Nat.le_of_eq q_337.symm
      have sz_b337 : h0.size ≤ b337 := Nat.le_trans le_336 ge_337
      have g_b337 : n0 ≤ b337 := Nat.le_trans Z0 sz_b337
      have V_337 : Arv Z h_337 b337 k_337 .char (4 : Int32) [(.int (0 : Int32)), (.int (0 : Int32)), (.int (0 : Int32)), (.int (0 : Int32))] (.int (0 : Int32)) := (Arv.new A_337 (by decide)).pad (pad_rep [] (.int (0 : Int32)) 4)
      have Sf_b337 := Safe.ext E_337 C_336.1 (Safe.new ge_337)
      show Go p e below _ (T_337.setTop (mkF m 42 #[vI p1, vI c0, vI c1, vI c2] [(.ref b337), (.ref b336), (.ref b336)]))
      refine Go.step (fun _ k => XS.dup X_337.here hx rfl (hb hby d_method_3_code_42) rfl rfl k) ?_
      refine Go.step (fun _ k => XS.iconst X_337.here hx rfl (hb hby d_method_3_code_43) k) ?_
      refine Go.step (fun _ k => XS.bipush X_337.here hx rfl (hb hby d_method_3_code_44) k) ?_
      show Go p e below _ (T_337.setTop (mkF m 46 #[vI p1, vI c0, vI c1, vI c2] [(.int (47 : Int32)), (.int (0 : Int32)), (.ref b337), (.ref b337), (.ref b336), (.ref b336)]))
      have cp339 := V_337
      obtain ⟨cl_338, Ar_338, ck_338, Sz_338, Ng_338, Hs_338, Gs_338⟩ := cp339
      have hin_338 : ¬ ((0 : Int32) < 0 ∨ cl_338.slots.size ≤ ((0 : Int32)).toNatClampNeg) := inb_of Sz_338 ⟨by decide, by decide⟩
      obtain ⟨T_338, h_338, X_338, e_338, W_338, st_338⟩ := stC X_337 hx hZ e_337 Ar_338 (j := (0 : Int32)) hin_338 (g := (mkF m 46 #[vI p1, vI c0, vI c1, vI c2] [(.int (47 : Int32)), (.int (0 : Int32)), (.ref b337), (.ref b337), (.ref b336), (.ref b336)])) rfl rfl (hb hby d_method_3_code_46)
      refine Go.step st_338 ?_
      have N_338 := Fr.snoc X_338 N0 g_b337
      have C_338 := CHr.wr W_338 (Safe.arv hZ.alike V_337 (by decide)) C_337.1
      have CR_338 := CHr.trans CR_337 C_338
      have le_338 : h_337.size ≤ h_338.size := Nat.le_of_eq W_338.size.symm
      have KP_338 := KP_337.wr W_338 (Or.inr sz_b337)
      have O_338 := O_337.wr W_338 g_b337
      have V_338 : Arv Z h_338 b337 k_337 .char (4 : Int32) [(.int (47 : Int32)), (.int (0 : Int32)), (.int (0 : Int32)), (.int (0 : Int32))] (.int (0 : Int32)) := by
        have q := Arv.set Ar_338 ck_338 Sz_338 Ng_338 Hs_338 Gs_338 (fits_nar_char _) W_338 0 rfl (Nat.le_of_ble_eq_true rfl)
        rw [show nar .char (47 : Int32) = (47 : Int32) from by decide] at q; exact q
      show Go p e below _ (T_338.setTop (mkF m 47 #[vI p1, vI c0, vI c1, vI c2] [(.ref b337), (.ref b336), (.ref b336)]))
      refine Go.step (fun _ k => XS.dup X_338.here hx rfl (hb hby d_method_3_code_47) rfl rfl k) ?_
      refine Go.step (fun _ k => XS.iconst X_338.here hx rfl (hb hby d_method_3_code_48) k) ?_
      refine Go.step (fun _ k => XS.bipush X_338.here hx rfl (hb hby d_method_3_code_49) k) ?_
      show Go p e below _ (T_338.setTop (mkF m 51 #[vI p1, vI c0, vI c1, vI c2] [(.int (118 : Int32)), (.int (1 : Int32)), (.ref b337), (.ref b337), (.ref b336), (.ref b336)]))
      have cp341 := V_338
      obtain ⟨cl_340, Ar_340, ck_340, Sz_340, Ng_340, Hs_340, Gs_340⟩ := cp341
      have hin_340 : ¬ ((1 : Int32) < 0 ∨ cl_340.slots.size ≤ ((1 : Int32)).toNatClampNeg) := inb_of Sz_340 ⟨by decide, by decide⟩
      obtain ⟨T_340, h_340, X_340, e_340, W_340, st_340⟩ := stC X_338 hx hZ e_338 Ar_340 (j := (1 : Int32)) hin_340 (g := (mkF m 51 #[vI p1, vI c0, vI c1, vI c2] [(.int (118 : Int32)), (.int (1 : Int32)), (.ref b337), (.ref b337), (.ref b336), (.ref b336)])) rfl rfl (hb hby d_method_3_code_51)
      refine Go.step st_340 ?_
      have N_340 := Fr.snoc X_340 N_338 g_b337
      have C_340 := CHr.wr W_340 (Safe.arv hZ.alike V_338 (by decide)) C_338.1
      have CR_340 := CHr.trans CR_338 C_340
      have le_340 : h_338.size ≤ h_340.size := Nat.le_of_eq W_340.size.symm
      have KP_340 := KP_338.wr W_340 (Or.inr sz_b337)
      have O_340 := O_338.wr W_340 g_b337
      have V_340 : Arv Z h_340 b337 k_337 .char (4 : Int32) [(.int (47 : Int32)), (.int (118 : Int32)), (.int (0 : Int32)), (.int (0 : Int32))] (.int (0 : Int32)) := by
        have q := Arv.set Ar_340 ck_340 Sz_340 Ng_340 Hs_340 Gs_340 (fits_nar_char _) W_340 1 rfl (Nat.le_of_ble_eq_true rfl)
        rw [show nar .char (118 : Int32) = (118 : Int32) from by decide] at q; exact q
      show Go p e below _ (T_340.setTop (mkF m 52 #[vI p1, vI c0, vI c1, vI c2] [(.ref b337), (.ref b336), (.ref b336)]))
      refine Go.step (fun _ k => XS.dup X_340.here hx rfl (hb hby d_method_3_code_52) rfl rfl k) ?_
      refine Go.step (fun _ k => XS.iconst X_340.here hx rfl (hb hby d_method_3_code_53) k) ?_
      refine Go.step (fun _ k => XS.bipush X_340.here hx rfl (hb hby d_method_3_code_54) k) ?_
      show Go p e below _ (T_340.setTop (mkF m 56 #[vI p1, vI c0, vI c1, vI c2] [(.int (49 : Int32)), (.int (2 : Int32)), (.ref b337), (.ref b337), (.ref b336), (.ref b336)]))
      have cp343 := V_340
      obtain ⟨cl_342, Ar_342, ck_342, Sz_342, Ng_342, Hs_342, Gs_342⟩ := cp343
      have hin_342 : ¬ ((2 : Int32) < 0 ∨ cl_342.slots.size ≤ ((2 : Int32)).toNatClampNeg) := inb_of Sz_342 ⟨by decide, by decide⟩
      obtain ⟨T_342, h_342, X_342, e_342, W_342, st_342⟩ := stC X_340 hx hZ e_340 Ar_342 (j := (2 : Int32)) hin_342 (g := (mkF m 56 #[vI p1, vI c0, vI c1, vI c2] [(.int (49 : Int32)), (.int (2 : Int32)), (.ref b337), (.ref b337), (.ref b336), (.ref b336)])) rfl rfl (hb hby d_method_3_code_56)
      refine Go.step st_342 ?_
      have N_342 := Fr.snoc X_342 N_340 g_b337
      have C_342 := CHr.wr W_342 (Safe.arv hZ.alike V_340 (by decide)) C_340.1
      have CR_342 := CHr.trans CR_340 C_342
      have le_342 : h_340.size ≤ h_342.size := Nat.le_of_eq W_342.size.symm
      have KP_342 := KP_340.wr W_342 (Or.inr sz_b337)
      have O_342 := O_340.wr W_342 g_b337
      have V_342 : Arv Z h_342 b337 k_337 .char (4 : Int32) [(.int (47 : Int32)), (.int (118 : Int32)), (.int (49 : Int32)), (.int (0 : Int32))] (.int (0 : Int32)) := by
        have q := Arv.set Ar_342 ck_342 Sz_342 Ng_342 Hs_342 Gs_342 (fits_nar_char _) W_342 2 rfl (Nat.le_of_ble_eq_true rfl)
        rw [show nar .char (49 : Int32) = (49 : Int32) from by decide] at q; exact q
      show Go p e below _ (T_342.setTop (mkF m 57 #[vI p1, vI c0, vI c1, vI c2] [(.ref b337), (.ref b336), (.ref b336)]))
      refine Go.step (fun _ k => XS.dup X_342.here hx rfl (hb hby d_method_3_code_57) rfl rfl k) ?_
      refine Go.step (fun _ k => XS.iconst X_342.here hx rfl (hb hby d_method_3_code_58) k) ?_
      refine Go.step (fun _ k => XS.iloadN X_342.here hx rfl (hb hby d_method_3_code_59) rfl  k) ?_
      show Go p e below _ (T_342.setTop (mkF m 60 #[vI p1, vI c0, vI c1, vI c2] [(.int c0), (.int (3 : Int32)), (.ref b337), (.ref b337), (.ref b336), (.ref b336)]))
      have cp345 := V_342
      obtain ⟨cl_344, Ar_344, ck_344, Sz_344, Ng_344, Hs_344, Gs_344⟩ := cp345
      have hin_344 : ¬ ((3 : Int32) < 0 ∨ cl_344.slots.size ≤ ((3 : Int32)).toNatClampNeg) := inb_of Sz_344 ⟨by decide, by decide⟩
      obtain ⟨T_344, h_344, X_344, e_344, W_344, st_344⟩ := stC X_342 hx hZ e_342 Ar_344 (j := (3 : Int32)) hin_344 (g := (mkF m 60 #[vI p1, vI c0, vI c1, vI c2] [(.int c0), (.int (3 : Int32)), (.ref b337), (.ref b337), (.ref b336), (.ref b336)])) rfl rfl (hb hby d_method_3_code_60)
      refine Go.step st_344 ?_
      have N_344 := Fr.snoc X_344 N_342 g_b337
      have C_344 := CHr.wr W_344 (Safe.arv hZ.alike V_342 (by decide)) C_342.1
      have CR_344 := CHr.trans CR_342 C_344
      have le_344 : h_342.size ≤ h_344.size := Nat.le_of_eq W_344.size.symm
      have KP_344 := KP_342.wr W_344 (Or.inr sz_b337)
      have O_344 := O_342.wr W_344 g_b337
      have V_344 : Arv Z h_344 b337 k_337 .char (4 : Int32) [(.int (47 : Int32)), (.int (118 : Int32)), (.int (49 : Int32)), (.int c0)] (.int (0 : Int32)) := by
        have q := Arv.set Ar_344 ck_344 Sz_344 Ng_344 Hs_344 Gs_344 (fits_nar_char _) W_344 3 rfl (Nat.le_of_ble_eq_true rfl)
        rw [nar_lat l_c0] at q; exact q
      show Go p e below _ (T_344.setTop (mkF m 61 #[vI p1, vI c0, vI c1, vI c2] [(.ref b337), (.ref b336), (.ref b336)]))
      have f346 : Exa Z h_344 b336 "java/lang/String" := (((((A_336.ext E_337).wr W_338).wr W_340).wr W_342).wr W_344)
      have f347 : Fld Z h_344 b336 "java/lang/String" "value" "[B" .null := (((((F_336_20.ext E_337).other W_338 (Or.inl (Nat.ne_of_lt (Nat.lt_of_lt_of_le A_336.lt (Nat.le_trans (Nat.le_refl _) ge_337))))).other W_340 (Or.inl (Nat.ne_of_lt (Nat.lt_of_lt_of_le A_336.lt (Nat.le_trans (Nat.le_refl _) ge_337))))).other W_342 (Or.inl (Nat.ne_of_lt (Nat.lt_of_lt_of_le A_336.lt (Nat.le_trans (Nat.le_refl _) ge_337))))).other W_344 (Or.inl (Nat.ne_of_lt (Nat.lt_of_lt_of_le A_336.lt (Nat.le_trans (Nat.le_refl _) ge_337)))))
      have f348 : Fld Z h_344 b336 "java/lang/String" "coder" "B" (.int (0 : Int32)) := (((((F_336_21.ext E_337).other W_338 (Or.inl (Nat.ne_of_lt (Nat.lt_of_lt_of_le A_336.lt (Nat.le_trans (Nat.le_refl _) ge_337))))).other W_340 (Or.inl (Nat.ne_of_lt (Nat.lt_of_lt_of_le A_336.lt (Nat.le_trans (Nat.le_refl _) ge_337))))).other W_342 (Or.inl (Nat.ne_of_lt (Nat.lt_of_lt_of_le A_336.lt (Nat.le_trans (Nat.le_refl _) ge_337))))).other W_344 (Or.inl (Nat.ne_of_lt (Nat.lt_of_lt_of_le A_336.lt (Nat.le_trans (Nat.le_refl _) ge_337)))))
      have hp349 : ∀ c ∈ ([(47 : Int32), (118 : Int32), (49 : Int32), c0] : List Int32), ¬ c < 0 ∧ ¬ (255 : Int32) < c := (latc (by decide) (latc (by decide) (latc (by decide) (latc l_c0 lat0))))
      obtain ⟨v_350, T_350, L_350, X_350, hQ_350, st_350⟩ := goC X_344 hx hZ (y := Y_33) hown rfl (wd_8 hw) (wd_9 hw) (wd_10 hw) (by decide) (StrChars.Road.backV (W := 1) (s := s.setVm s.vm) hZ (sw_words hw) (kI := 4) (wd_5 hw) (cs := ([(47 : Int32), (118 : Int32), (49 : Int32), c0] : List Int32)) (bs := ([(47 : Int32), (118 : Int32), (49 : Int32), c0] : List Int32).map (fun c => c.toInt8.toInt32)) (n := 4) g_b336 (Nat.le_trans Z0 KP_344.1) f346 f347 f348 V_344 (S_cs.ext O_344.2) n_cs rfl rfl (by decide) (by decide) hp349 rfl (by decide) (by decide)) e_344 (g := (mkF m 61 #[vI p1, vI c0, vI c1, vI c2] [(.ref b337), (.ref b336), (.ref b336)])) rfl (by rw [hml]; rfl) (a := b336) (argsL := [(.ref b337)]) (rest := [(.ref b336)]) rfl (lenOf pd_27 rfl) rfl (by show 2 * 0 + _ ≤ _; exact Nat.le_of_eq rfl) (hb hby d_method_3_code_61) (by decide) (by decide)
      obtain ⟨rfl, Nq_350, K_350, Ex_350, Fc_350, t_350, kb_350, -, gt_350, -, Fv_350, Av_350⟩ := hQ_350
      have N_350 := Fr.app N_344 Nq_350
      have C_350 := CHr.keep K_350 (sfS (CHr.safe (CHr.trans (CHr.trans (CHr.trans (CHr.trans C_337 C_338) C_340) C_342) C_344) A_336.lt Sf_b336) sf0) C_344.1
      have CR_350 := CHr.trans CR_344 C_350
      have le_350 : h_344.size ≤ T_350.heap.size := K_350.1
      have KP_350 := KP_344.trans K_350 (allS (Or.inr sz_b336) all0)
      have O_350 := O_344.keep K_350 (allS g_b336 all0)
      have Sx_350 : Str Z (T_350.heap).size (T_350.heap) b336 ([(47 : Int32), (118 : Int32), (49 : Int32), c0] : List Int32) := ⟨t_350, kb_350, Ex_350.lt, Av_350.lt, Ex_350, Fv_350, Fc_350, Av_350, hp349, Nat.le_of_ble_eq_true rfl⟩
      refine Go.step st_350 ?_
      show Go p e below _ (T_350.setTop (mkF m 64 #[vI p1, vI c0, vI c1, vI c2] [(.ref b336)]))
      exact Go.retVW X_350 rfl hS0 (Nat.le_trans hk0 (Nat.le_trans le_336 (Nat.le_trans le_337 (Nat.le_trans le_338 (Nat.le_trans le_340 (Nat.le_trans le_342 (Nat.le_trans le_344 le_350))))))) hZ hEL hh0 CR_350 hx hlk hret rfl (Or.inr (Or.inr (Or.inr (Or.inr ⟨rfl, rfl, rfl⟩)))) (hb hby d_method_3_code_64) (by decide) (by decide) (by exact ⟨b336, rfl, N_350, KP_350, sz_b336, (by rw [pats, if_neg u0, if_pos u1]; exact Sx_350)⟩)
    · skip
      refine Go.step (fun _ k => XS.icmpYes X0.here hx rfl (pc0 := 32) (pc' := 65) rfl (hb hby d_method_3_code_32) rfl (feq u1).2 (by decide) (by decide) k) ?_
      show Go p e below _ (s₁.setTop (mkF m 65 #[vI p1, vI c0, vI c1, vI c2] []))
      refine Go.step (fun _ k => XS.iloadN X0.here hx rfl (hb hby d_method_3_code_65) rfl  k) ?_
      refine Go.step (fun _ k => XS.iconst X0.here hx rfl (hb hby d_method_3_code_66) k) ?_
      show Go p e below _ (s₁.setTop (mkF m 67 #[vI p1, vI c0, vI c1, vI c2] [(.int (2 : Int32)), (.int p1)]))
      by_cases u2 : p1 = (2 : Int32)
      · skip
        refine Go.step (fun _ k => XS.icmpNo X0.here hx rfl (hb hby d_method_3_code_67) rfl (teq u2).2 k) ?_
        show Go p e below _ (s₁.setTop (mkF m 70 #[vI p1, vI c0, vI c1, vI c2] []))
        obtain ⟨T_351, h_351, X_351, e_351, E_351, A_351, D_351, Un_351, st_351⟩ := newO X0 hx hZ hown (wd_4 hw) (wd_5 hw) (wd_6 hw) e0 (g := (mkF m 70 #[vI p1, vI c0, vI c1, vI c2] [])) rfl (hb hby d_method_3_code_70) (by decide) (by decide)
        obtain ⟨b351, q_351⟩ : ∃ z, z = h0.size := ⟨_, rfl⟩
        rw [← q_351] at A_351 D_351 Un_351 st_351
        refine Go.step st_351 ?_
        have C_351 := CHr.ext E_351 CV0
        have CR_351 := CHr.trans (CHr.refl CV0) C_351
        have le_351 : h0.size ≤ h_351.size := E_351.1
        have KP_351 := KP0.ext E_351
        have O_351 := hO.ext E_351
        have ge_351 : h0.size ≤ b351 := Nat.le_of_eq q_351.symm
        have sz_b351 : h0.size ≤ b351 := Nat.le_trans (Nat.le_refl _) ge_351
        have g_b351 : n0 ≤ b351 := Nat.le_trans Z0 sz_b351
        have F_351_20 : Fld Z h_351 b351 "java/lang/String" "value" "[B" .null := D_351 (Or.inr (wd_20 hw)) (ty := (.array .byte)) pf_0
        have F_351_21 : Fld Z h_351 b351 "java/lang/String" "coder" "B" (.int (0 : Int32)) := D_351 (Or.inr (wd_21 hw)) (ty := .byte) pf_1
        have Sf_b351 := Safe.ext E_351 CV0 (Safe.new ge_351)
        show Go p e below _ (T_351.setTop (mkF m 73 #[vI p1, vI c0, vI c1, vI c2] [(.ref b351)]))
        refine Go.step (fun _ k => XS.dup X_351.here hx rfl (hb hby d_method_3_code_73) rfl rfl k) ?_
        refine Go.step (fun _ k => XS.iconst X_351.here hx rfl (hb hby d_method_3_code_74) k) ?_
        show Go p e below _ (T_351.setTop (mkF m 75 #[vI p1, vI c0, vI c1, vI c2] [(.int (5 : Int32)), (.ref b351), (.ref b351)]))
        obtain ⟨T_352, h_352, k_352, X_352, e_352, E_352, A_352, st_352⟩ := newP X_351 hx hZ (aty := .char) (wd_7 hw) e_351 (g := (mkF m 75 #[vI p1, vI c0, vI c1, vI c2] [(.int (5 : Int32)), (.ref b351), (.ref b351)])) rfl (hb hby d_method_3_code_75) rfl (by decide) (cap := 5) (by decide) (by decide) (by decide) (by decide)
        obtain ⟨b352, q_352⟩ : ∃ z, z = h_351.size := ⟨_, rfl⟩
        rw [← q_352] at A_352 st_352
        refine Go.step st_352 ?_
        have C_352 := CHr.ext E_352 C_351.1
        have CR_352 := CHr.trans CR_351 C_352
        have le_352 : h_351.size ≤ h_352.size := E_352.1
        have KP_352 := KP_351.ext E_352
        have O_352 := O_351.ext E_352
        have ge_352 : h_351.size ≤ b352 := Nat.le_of_eq q_352.symm
        have sz_b352 : h0.size ≤ b352 := Nat.le_trans le_351 ge_352
        have g_b352 : n0 ≤ b352 := Nat.le_trans Z0 sz_b352
        have V_352 : Arv Z h_352 b352 k_352 .char (5 : Int32) [(.int (0 : Int32)), (.int (0 : Int32)), (.int (0 : Int32)), (.int (0 : Int32)), (.int (0 : Int32))] (.int (0 : Int32)) := (Arv.new A_352 (by decide)).pad (pad_rep [] (.int (0 : Int32)) 5)
        have Sf_b352 := Safe.ext E_352 C_351.1 (Safe.new ge_352)
        show Go p e below _ (T_352.setTop (mkF m 77 #[vI p1, vI c0, vI c1, vI c2] [(.ref b352), (.ref b351), (.ref b351)]))
        refine Go.step (fun _ k => XS.dup X_352.here hx rfl (hb hby d_method_3_code_77) rfl rfl k) ?_
        refine Go.step (fun _ k => XS.iconst X_352.here hx rfl (hb hby d_method_3_code_78) k) ?_
        refine Go.step (fun _ k => XS.bipush X_352.here hx rfl (hb hby d_method_3_code_79) k) ?_
        show Go p e below _ (T_352.setTop (mkF m 81 #[vI p1, vI c0, vI c1, vI c2] [(.int (47 : Int32)), (.int (0 : Int32)), (.ref b352), (.ref b352), (.ref b351), (.ref b351)]))
        have cp354 := V_352
        obtain ⟨cl_353, Ar_353, ck_353, Sz_353, Ng_353, Hs_353, Gs_353⟩ := cp354
        have hin_353 : ¬ ((0 : Int32) < 0 ∨ cl_353.slots.size ≤ ((0 : Int32)).toNatClampNeg) := inb_of Sz_353 ⟨by decide, by decide⟩
        obtain ⟨T_353, h_353, X_353, e_353, W_353, st_353⟩ := stC X_352 hx hZ e_352 Ar_353 (j := (0 : Int32)) hin_353 (g := (mkF m 81 #[vI p1, vI c0, vI c1, vI c2] [(.int (47 : Int32)), (.int (0 : Int32)), (.ref b352), (.ref b352), (.ref b351), (.ref b351)])) rfl rfl (hb hby d_method_3_code_81)
        refine Go.step st_353 ?_
        have N_353 := Fr.snoc X_353 N0 g_b352
        have C_353 := CHr.wr W_353 (Safe.arv hZ.alike V_352 (by decide)) C_352.1
        have CR_353 := CHr.trans CR_352 C_353
        have le_353 : h_352.size ≤ h_353.size := Nat.le_of_eq W_353.size.symm
        have KP_353 := KP_352.wr W_353 (Or.inr sz_b352)
        have O_353 := O_352.wr W_353 g_b352
        have V_353 : Arv Z h_353 b352 k_352 .char (5 : Int32) [(.int (47 : Int32)), (.int (0 : Int32)), (.int (0 : Int32)), (.int (0 : Int32)), (.int (0 : Int32))] (.int (0 : Int32)) := by
          have q := Arv.set Ar_353 ck_353 Sz_353 Ng_353 Hs_353 Gs_353 (fits_nar_char _) W_353 0 rfl (Nat.le_of_ble_eq_true rfl)
          rw [show nar .char (47 : Int32) = (47 : Int32) from by decide] at q; exact q
        show Go p e below _ (T_353.setTop (mkF m 82 #[vI p1, vI c0, vI c1, vI c2] [(.ref b352), (.ref b351), (.ref b351)]))
        refine Go.step (fun _ k => XS.dup X_353.here hx rfl (hb hby d_method_3_code_82) rfl rfl k) ?_
        refine Go.step (fun _ k => XS.iconst X_353.here hx rfl (hb hby d_method_3_code_83) k) ?_
        refine Go.step (fun _ k => XS.bipush X_353.here hx rfl (hb hby d_method_3_code_84) k) ?_
        show Go p e below _ (T_353.setTop (mkF m 86 #[vI p1, vI c0, vI c1, vI c2] [(.int (118 : Int32)), (.int (1 : Int32)), (.ref b352), (.ref b352), (.ref b351), (.ref b351)]))
        have cp356 := V_353
        obtain ⟨cl_355, Ar_355, ck_355, Sz_355, Ng_355, Hs_355, Gs_355⟩ := cp356
        have hin_355 : ¬ ((1 : Int32) < 0 ∨ cl_355.slots.size ≤ ((1 : Int32)).toNatClampNeg) := inb_of Sz_355 ⟨by decide, by decide⟩
        obtain ⟨T_355, h_355, X_355, e_355, W_355, st_355⟩ := stC X_353 hx hZ e_353 Ar_355 (j := (1 : Int32)) hin_355 (g := (mkF m 86 #[vI p1, vI c0, vI c1, vI c2] [(.int (118 : Int32)), (.int (1 : Int32)), (.ref b352), (.ref b352), (.ref b351), (.ref b351)])) rfl rfl (hb hby d_method_3_code_86)
        refine Go.step st_355 ?_
        have N_355 := Fr.snoc X_355 N_353 g_b352
        have C_355 := CHr.wr W_355 (Safe.arv hZ.alike V_353 (by decide)) C_353.1
        have CR_355 := CHr.trans CR_353 C_355
        have le_355 : h_353.size ≤ h_355.size := Nat.le_of_eq W_355.size.symm
        have KP_355 := KP_353.wr W_355 (Or.inr sz_b352)
        have O_355 := O_353.wr W_355 g_b352
        have V_355 : Arv Z h_355 b352 k_352 .char (5 : Int32) [(.int (47 : Int32)), (.int (118 : Int32)), (.int (0 : Int32)), (.int (0 : Int32)), (.int (0 : Int32))] (.int (0 : Int32)) := by
          have q := Arv.set Ar_355 ck_355 Sz_355 Ng_355 Hs_355 Gs_355 (fits_nar_char _) W_355 1 rfl (Nat.le_of_ble_eq_true rfl)
          rw [show nar .char (118 : Int32) = (118 : Int32) from by decide] at q; exact q
        show Go p e below _ (T_355.setTop (mkF m 87 #[vI p1, vI c0, vI c1, vI c2] [(.ref b352), (.ref b351), (.ref b351)]))
        refine Go.step (fun _ k => XS.dup X_355.here hx rfl (hb hby d_method_3_code_87) rfl rfl k) ?_
        refine Go.step (fun _ k => XS.iconst X_355.here hx rfl (hb hby d_method_3_code_88) k) ?_
        refine Go.step (fun _ k => XS.bipush X_355.here hx rfl (hb hby d_method_3_code_89) k) ?_
        show Go p e below _ (T_355.setTop (mkF m 91 #[vI p1, vI c0, vI c1, vI c2] [(.int (49 : Int32)), (.int (2 : Int32)), (.ref b352), (.ref b352), (.ref b351), (.ref b351)]))
        have cp358 := V_355
        obtain ⟨cl_357, Ar_357, ck_357, Sz_357, Ng_357, Hs_357, Gs_357⟩ := cp358
        have hin_357 : ¬ ((2 : Int32) < 0 ∨ cl_357.slots.size ≤ ((2 : Int32)).toNatClampNeg) := inb_of Sz_357 ⟨by decide, by decide⟩
        obtain ⟨T_357, h_357, X_357, e_357, W_357, st_357⟩ := stC X_355 hx hZ e_355 Ar_357 (j := (2 : Int32)) hin_357 (g := (mkF m 91 #[vI p1, vI c0, vI c1, vI c2] [(.int (49 : Int32)), (.int (2 : Int32)), (.ref b352), (.ref b352), (.ref b351), (.ref b351)])) rfl rfl (hb hby d_method_3_code_91)
        refine Go.step st_357 ?_
        have N_357 := Fr.snoc X_357 N_355 g_b352
        have C_357 := CHr.wr W_357 (Safe.arv hZ.alike V_355 (by decide)) C_355.1
        have CR_357 := CHr.trans CR_355 C_357
        have le_357 : h_355.size ≤ h_357.size := Nat.le_of_eq W_357.size.symm
        have KP_357 := KP_355.wr W_357 (Or.inr sz_b352)
        have O_357 := O_355.wr W_357 g_b352
        have V_357 : Arv Z h_357 b352 k_352 .char (5 : Int32) [(.int (47 : Int32)), (.int (118 : Int32)), (.int (49 : Int32)), (.int (0 : Int32)), (.int (0 : Int32))] (.int (0 : Int32)) := by
          have q := Arv.set Ar_357 ck_357 Sz_357 Ng_357 Hs_357 Gs_357 (fits_nar_char _) W_357 2 rfl (Nat.le_of_ble_eq_true rfl)
          rw [show nar .char (49 : Int32) = (49 : Int32) from by decide] at q; exact q
        show Go p e below _ (T_357.setTop (mkF m 92 #[vI p1, vI c0, vI c1, vI c2] [(.ref b352), (.ref b351), (.ref b351)]))
        refine Go.step (fun _ k => XS.dup X_357.here hx rfl (hb hby d_method_3_code_92) rfl rfl k) ?_
        refine Go.step (fun _ k => XS.iconst X_357.here hx rfl (hb hby d_method_3_code_93) k) ?_
        refine Go.step (fun _ k => XS.iloadN X_357.here hx rfl (hb hby d_method_3_code_94) rfl  k) ?_
        show Go p e below _ (T_357.setTop (mkF m 95 #[vI p1, vI c0, vI c1, vI c2] [(.int c0), (.int (3 : Int32)), (.ref b352), (.ref b352), (.ref b351), (.ref b351)]))
        have cp360 := V_357
        obtain ⟨cl_359, Ar_359, ck_359, Sz_359, Ng_359, Hs_359, Gs_359⟩ := cp360
        have hin_359 : ¬ ((3 : Int32) < 0 ∨ cl_359.slots.size ≤ ((3 : Int32)).toNatClampNeg) := inb_of Sz_359 ⟨by decide, by decide⟩
        obtain ⟨T_359, h_359, X_359, e_359, W_359, st_359⟩ := stC X_357 hx hZ e_357 Ar_359 (j := (3 : Int32)) hin_359 (g := (mkF m 95 #[vI p1, vI c0, vI c1, vI c2] [(.int c0), (.int (3 : Int32)), (.ref b352), (.ref b352), (.ref b351), (.ref b351)])) rfl rfl (hb hby d_method_3_code_95)
        refine Go.step st_359 ?_
        have N_359 := Fr.snoc X_359 N_357 g_b352
        have C_359 := CHr.wr W_359 (Safe.arv hZ.alike V_357 (by decide)) C_357.1
        have CR_359 := CHr.trans CR_357 C_359
        have le_359 : h_357.size ≤ h_359.size := Nat.le_of_eq W_359.size.symm
        have KP_359 := KP_357.wr W_359 (Or.inr sz_b352)
        have O_359 := O_357.wr W_359 g_b352
        have V_359 : Arv Z h_359 b352 k_352 .char (5 : Int32) [(.int (47 : Int32)), (.int (118 : Int32)), (.int (49 : Int32)), (.int c0), (.int (0 : Int32))] (.int (0 : Int32)) := by
          have q := Arv.set Ar_359 ck_359 Sz_359 Ng_359 Hs_359 Gs_359 (fits_nar_char _) W_359 3 rfl (Nat.le_of_ble_eq_true rfl)
          rw [nar_lat l_c0] at q; exact q
        show Go p e below _ (T_359.setTop (mkF m 96 #[vI p1, vI c0, vI c1, vI c2] [(.ref b352), (.ref b351), (.ref b351)]))
        refine Go.step (fun _ k => XS.dup X_359.here hx rfl (hb hby d_method_3_code_96) rfl rfl k) ?_
        refine Go.step (fun _ k => XS.iconst X_359.here hx rfl (hb hby d_method_3_code_97) k) ?_
        refine Go.step (fun _ k => XS.iloadN X_359.here hx rfl (hb hby d_method_3_code_98) rfl  k) ?_
        show Go p e below _ (T_359.setTop (mkF m 99 #[vI p1, vI c0, vI c1, vI c2] [(.int c1), (.int (4 : Int32)), (.ref b352), (.ref b352), (.ref b351), (.ref b351)]))
        have cp362 := V_359
        obtain ⟨cl_361, Ar_361, ck_361, Sz_361, Ng_361, Hs_361, Gs_361⟩ := cp362
        have hin_361 : ¬ ((4 : Int32) < 0 ∨ cl_361.slots.size ≤ ((4 : Int32)).toNatClampNeg) := inb_of Sz_361 ⟨by decide, by decide⟩
        obtain ⟨T_361, h_361, X_361, e_361, W_361, st_361⟩ := stC X_359 hx hZ e_359 Ar_361 (j := (4 : Int32)) hin_361 (g := (mkF m 99 #[vI p1, vI c0, vI c1, vI c2] [(.int c1), (.int (4 : Int32)), (.ref b352), (.ref b352), (.ref b351), (.ref b351)])) rfl rfl (hb hby d_method_3_code_99)
        refine Go.step st_361 ?_
        have N_361 := Fr.snoc X_361 N_359 g_b352
        have C_361 := CHr.wr W_361 (Safe.arv hZ.alike V_359 (by decide)) C_359.1
        have CR_361 := CHr.trans CR_359 C_361
        have le_361 : h_359.size ≤ h_361.size := Nat.le_of_eq W_361.size.symm
        have KP_361 := KP_359.wr W_361 (Or.inr sz_b352)
        have O_361 := O_359.wr W_361 g_b352
        have V_361 : Arv Z h_361 b352 k_352 .char (5 : Int32) [(.int (47 : Int32)), (.int (118 : Int32)), (.int (49 : Int32)), (.int c0), (.int c1)] (.int (0 : Int32)) := by
          have q := Arv.set Ar_361 ck_361 Sz_361 Ng_361 Hs_361 Gs_361 (fits_nar_char _) W_361 4 rfl (Nat.le_of_ble_eq_true rfl)
          rw [nar_lat l_c1] at q; exact q
        show Go p e below _ (T_361.setTop (mkF m 100 #[vI p1, vI c0, vI c1, vI c2] [(.ref b352), (.ref b351), (.ref b351)]))
        have f363 : Exa Z h_361 b351 "java/lang/String" := ((((((A_351.ext E_352).wr W_353).wr W_355).wr W_357).wr W_359).wr W_361)
        have f364 : Fld Z h_361 b351 "java/lang/String" "value" "[B" .null := ((((((F_351_20.ext E_352).other W_353 (Or.inl (Nat.ne_of_lt (Nat.lt_of_lt_of_le A_351.lt (Nat.le_trans (Nat.le_refl _) ge_352))))).other W_355 (Or.inl (Nat.ne_of_lt (Nat.lt_of_lt_of_le A_351.lt (Nat.le_trans (Nat.le_refl _) ge_352))))).other W_357 (Or.inl (Nat.ne_of_lt (Nat.lt_of_lt_of_le A_351.lt (Nat.le_trans (Nat.le_refl _) ge_352))))).other W_359 (Or.inl (Nat.ne_of_lt (Nat.lt_of_lt_of_le A_351.lt (Nat.le_trans (Nat.le_refl _) ge_352))))).other W_361 (Or.inl (Nat.ne_of_lt (Nat.lt_of_lt_of_le A_351.lt (Nat.le_trans (Nat.le_refl _) ge_352)))))
        have f365 : Fld Z h_361 b351 "java/lang/String" "coder" "B" (.int (0 : Int32)) := ((((((F_351_21.ext E_352).other W_353 (Or.inl (Nat.ne_of_lt (Nat.lt_of_lt_of_le A_351.lt (Nat.le_trans (Nat.le_refl _) ge_352))))).other W_355 (Or.inl (Nat.ne_of_lt (Nat.lt_of_lt_of_le A_351.lt (Nat.le_trans (Nat.le_refl _) ge_352))))).other W_357 (Or.inl (Nat.ne_of_lt (Nat.lt_of_lt_of_le A_351.lt (Nat.le_trans (Nat.le_refl _) ge_352))))).other W_359 (Or.inl (Nat.ne_of_lt (Nat.lt_of_lt_of_le A_351.lt (Nat.le_trans (Nat.le_refl _) ge_352))))).other W_361 (Or.inl (Nat.ne_of_lt (Nat.lt_of_lt_of_le A_351.lt (Nat.le_trans (Nat.le_refl _) ge_352)))))
        have hp366 : ∀ c ∈ ([(47 : Int32), (118 : Int32), (49 : Int32), c0, c1] : List Int32), ¬ c < 0 ∧ ¬ (255 : Int32) < c := (latc (by decide) (latc (by decide) (latc (by decide) (latc l_c0 (latc l_c1 lat0)))))
        obtain ⟨v_367, T_367, L_367, X_367, hQ_367, st_367⟩ := goC X_361 hx hZ (y := Y_33) hown rfl (wd_8 hw) (wd_9 hw) (wd_10 hw) (by decide) (StrChars.Road.backV (W := 1) (s := s.setVm s.vm) hZ (sw_words hw) (kI := 4) (wd_5 hw) (cs := ([(47 : Int32), (118 : Int32), (49 : Int32), c0, c1] : List Int32)) (bs := ([(47 : Int32), (118 : Int32), (49 : Int32), c0, c1] : List Int32).map (fun c => c.toInt8.toInt32)) (n := 5) g_b351 (Nat.le_trans Z0 KP_361.1) f363 f364 f365 V_361 (S_cs.ext O_361.2) n_cs rfl rfl (by decide) (by decide) hp366 rfl (by decide) (by decide)) e_361 (g := (mkF m 100 #[vI p1, vI c0, vI c1, vI c2] [(.ref b352), (.ref b351), (.ref b351)])) rfl (by rw [hml]; rfl) (a := b351) (argsL := [(.ref b352)]) (rest := [(.ref b351)]) rfl (lenOf pd_27 rfl) rfl (by show 2 * 0 + _ ≤ _; exact Nat.le_of_eq rfl) (hb hby d_method_3_code_100) (by decide) (by decide)
        obtain ⟨rfl, Nq_367, K_367, Ex_367, Fc_367, t_367, kb_367, -, gt_367, -, Fv_367, Av_367⟩ := hQ_367
        have N_367 := Fr.app N_361 Nq_367
        have C_367 := CHr.keep K_367 (sfS (CHr.safe (CHr.trans (CHr.trans (CHr.trans (CHr.trans (CHr.trans C_352 C_353) C_355) C_357) C_359) C_361) A_351.lt Sf_b351) sf0) C_361.1
        have CR_367 := CHr.trans CR_361 C_367
        have le_367 : h_361.size ≤ T_367.heap.size := K_367.1
        have KP_367 := KP_361.trans K_367 (allS (Or.inr sz_b351) all0)
        have O_367 := O_361.keep K_367 (allS g_b351 all0)
        have Sx_367 : Str Z (T_367.heap).size (T_367.heap) b351 ([(47 : Int32), (118 : Int32), (49 : Int32), c0, c1] : List Int32) := ⟨t_367, kb_367, Ex_367.lt, Av_367.lt, Ex_367, Fv_367, Fc_367, Av_367, hp366, Nat.le_of_ble_eq_true rfl⟩
        refine Go.step st_367 ?_
        show Go p e below _ (T_367.setTop (mkF m 103 #[vI p1, vI c0, vI c1, vI c2] [(.ref b351)]))
        exact Go.retVW X_367 rfl hS0 (Nat.le_trans hk0 (Nat.le_trans le_351 (Nat.le_trans le_352 (Nat.le_trans le_353 (Nat.le_trans le_355 (Nat.le_trans le_357 (Nat.le_trans le_359 (Nat.le_trans le_361 le_367)))))))) hZ hEL hh0 CR_367 hx hlk hret rfl (Or.inr (Or.inr (Or.inr (Or.inr ⟨rfl, rfl, rfl⟩)))) (hb hby d_method_3_code_103) (by decide) (by decide) (by exact ⟨b351, rfl, N_367, KP_367, sz_b351, (by rw [pats, if_neg u0, if_neg u1, if_pos u2]; exact Sx_367)⟩)
      · skip
        refine Go.step (fun _ k => XS.icmpYes X0.here hx rfl (pc0 := 67) (pc' := 104) rfl (hb hby d_method_3_code_67) rfl (feq u2).2 (by decide) (by decide) k) ?_
        show Go p e below _ (s₁.setTop (mkF m 104 #[vI p1, vI c0, vI c1, vI c2] []))
        obtain ⟨T_368, h_368, X_368, e_368, E_368, A_368, D_368, Un_368, st_368⟩ := newO X0 hx hZ hown (wd_4 hw) (wd_5 hw) (wd_6 hw) e0 (g := (mkF m 104 #[vI p1, vI c0, vI c1, vI c2] [])) rfl (hb hby d_method_3_code_104) (by decide) (by decide)
        obtain ⟨b368, q_368⟩ : ∃ z, z = h0.size := ⟨_, rfl⟩
        rw [← q_368] at A_368 D_368 Un_368 st_368
        refine Go.step st_368 ?_
        have C_368 := CHr.ext E_368 CV0
        have CR_368 := CHr.trans (CHr.refl CV0) C_368
        have le_368 : h0.size ≤ h_368.size := E_368.1
        have KP_368 := KP0.ext E_368
        have O_368 := hO.ext E_368
        have ge_368 : h0.size ≤ b368 := Nat.le_of_eq q_368.symm
        have sz_b368 : h0.size ≤ b368 := Nat.le_trans (Nat.le_refl _) ge_368
        have g_b368 : n0 ≤ b368 := Nat.le_trans Z0 sz_b368
        have F_368_20 : Fld Z h_368 b368 "java/lang/String" "value" "[B" .null := D_368 (Or.inr (wd_20 hw)) (ty := (.array .byte)) pf_0
        have F_368_21 : Fld Z h_368 b368 "java/lang/String" "coder" "B" (.int (0 : Int32)) := D_368 (Or.inr (wd_21 hw)) (ty := .byte) pf_1
        have Sf_b368 := Safe.ext E_368 CV0 (Safe.new ge_368)
        show Go p e below _ (T_368.setTop (mkF m 107 #[vI p1, vI c0, vI c1, vI c2] [(.ref b368)]))
        refine Go.step (fun _ k => XS.dup X_368.here hx rfl (hb hby d_method_3_code_107) rfl rfl k) ?_
        refine Go.step (fun _ k => XS.bipush X_368.here hx rfl (hb hby d_method_3_code_108) k) ?_
        show Go p e below _ (T_368.setTop (mkF m 110 #[vI p1, vI c0, vI c1, vI c2] [(.int (6 : Int32)), (.ref b368), (.ref b368)]))
        obtain ⟨T_369, h_369, k_369, X_369, e_369, E_369, A_369, st_369⟩ := newP X_368 hx hZ (aty := .char) (wd_7 hw) e_368 (g := (mkF m 110 #[vI p1, vI c0, vI c1, vI c2] [(.int (6 : Int32)), (.ref b368), (.ref b368)])) rfl (hb hby d_method_3_code_110) rfl (by decide) (cap := 6) (by decide) (by decide) (by decide) (by decide)
        obtain ⟨b369, q_369⟩ : ∃ z, z = h_368.size := ⟨_, rfl⟩
        rw [← q_369] at A_369 st_369
        refine Go.step st_369 ?_
        have C_369 := CHr.ext E_369 C_368.1
        have CR_369 := CHr.trans CR_368 C_369
        have le_369 : h_368.size ≤ h_369.size := E_369.1
        have KP_369 := KP_368.ext E_369
        have O_369 := O_368.ext E_369
        have ge_369 : h_368.size ≤ b369 := Nat.le_of_eq q_369.symm
        have sz_b369 : h0.size ≤ b369 := Nat.le_trans le_368 ge_369
        have g_b369 : n0 ≤ b369 := Nat.le_trans Z0 sz_b369
        have V_369 : Arv Z h_369 b369 k_369 .char (6 : Int32) [(.int (0 : Int32)), (.int (0 : Int32)), (.int (0 : Int32)), (.int (0 : Int32)), (.int (0 : Int32)), (.int (0 : Int32))] (.int (0 : Int32)) := (Arv.new A_369 (by decide)).pad (pad_rep [] (.int (0 : Int32)) 6)
        have Sf_b369 := Safe.ext E_369 C_368.1 (Safe.new ge_369)
        show Go p e below _ (T_369.setTop (mkF m 112 #[vI p1, vI c0, vI c1, vI c2] [(.ref b369), (.ref b368), (.ref b368)]))
        refine Go.step (fun _ k => XS.dup X_369.here hx rfl (hb hby d_method_3_code_112) rfl rfl k) ?_
        refine Go.step (fun _ k => XS.iconst X_369.here hx rfl (hb hby d_method_3_code_113) k) ?_
        refine Go.step (fun _ k => XS.bipush X_369.here hx rfl (hb hby d_method_3_code_114) k) ?_
        show Go p e below _ (T_369.setTop (mkF m 116 #[vI p1, vI c0, vI c1, vI c2] [(.int (47 : Int32)), (.int (0 : Int32)), (.ref b369), (.ref b369), (.ref b368), (.ref b368)]))
        have cp371 := V_369
        obtain ⟨cl_370, Ar_370, ck_370, Sz_370, Ng_370, Hs_370, Gs_370⟩ := cp371
        have hin_370 : ¬ ((0 : Int32) < 0 ∨ cl_370.slots.size ≤ ((0 : Int32)).toNatClampNeg) := inb_of Sz_370 ⟨by decide, by decide⟩
        obtain ⟨T_370, h_370, X_370, e_370, W_370, st_370⟩ := stC X_369 hx hZ e_369 Ar_370 (j := (0 : Int32)) hin_370 (g := (mkF m 116 #[vI p1, vI c0, vI c1, vI c2] [(.int (47 : Int32)), (.int (0 : Int32)), (.ref b369), (.ref b369), (.ref b368), (.ref b368)])) rfl rfl (hb hby d_method_3_code_116)
        refine Go.step st_370 ?_
        have N_370 := Fr.snoc X_370 N0 g_b369
        have C_370 := CHr.wr W_370 (Safe.arv hZ.alike V_369 (by decide)) C_369.1
        have CR_370 := CHr.trans CR_369 C_370
        have le_370 : h_369.size ≤ h_370.size := Nat.le_of_eq W_370.size.symm
        have KP_370 := KP_369.wr W_370 (Or.inr sz_b369)
        have O_370 := O_369.wr W_370 g_b369
        have V_370 : Arv Z h_370 b369 k_369 .char (6 : Int32) [(.int (47 : Int32)), (.int (0 : Int32)), (.int (0 : Int32)), (.int (0 : Int32)), (.int (0 : Int32)), (.int (0 : Int32))] (.int (0 : Int32)) := by
          have q := Arv.set Ar_370 ck_370 Sz_370 Ng_370 Hs_370 Gs_370 (fits_nar_char _) W_370 0 rfl (Nat.le_of_ble_eq_true rfl)
          rw [show nar .char (47 : Int32) = (47 : Int32) from by decide] at q; exact q
        show Go p e below _ (T_370.setTop (mkF m 117 #[vI p1, vI c0, vI c1, vI c2] [(.ref b369), (.ref b368), (.ref b368)]))
        refine Go.step (fun _ k => XS.dup X_370.here hx rfl (hb hby d_method_3_code_117) rfl rfl k) ?_
        refine Go.step (fun _ k => XS.iconst X_370.here hx rfl (hb hby d_method_3_code_118) k) ?_
        refine Go.step (fun _ k => XS.bipush X_370.here hx rfl (hb hby d_method_3_code_119) k) ?_
        show Go p e below _ (T_370.setTop (mkF m 121 #[vI p1, vI c0, vI c1, vI c2] [(.int (118 : Int32)), (.int (1 : Int32)), (.ref b369), (.ref b369), (.ref b368), (.ref b368)]))
        have cp373 := V_370
        obtain ⟨cl_372, Ar_372, ck_372, Sz_372, Ng_372, Hs_372, Gs_372⟩ := cp373
        have hin_372 : ¬ ((1 : Int32) < 0 ∨ cl_372.slots.size ≤ ((1 : Int32)).toNatClampNeg) := inb_of Sz_372 ⟨by decide, by decide⟩
        obtain ⟨T_372, h_372, X_372, e_372, W_372, st_372⟩ := stC X_370 hx hZ e_370 Ar_372 (j := (1 : Int32)) hin_372 (g := (mkF m 121 #[vI p1, vI c0, vI c1, vI c2] [(.int (118 : Int32)), (.int (1 : Int32)), (.ref b369), (.ref b369), (.ref b368), (.ref b368)])) rfl rfl (hb hby d_method_3_code_121)
        refine Go.step st_372 ?_
        have N_372 := Fr.snoc X_372 N_370 g_b369
        have C_372 := CHr.wr W_372 (Safe.arv hZ.alike V_370 (by decide)) C_370.1
        have CR_372 := CHr.trans CR_370 C_372
        have le_372 : h_370.size ≤ h_372.size := Nat.le_of_eq W_372.size.symm
        have KP_372 := KP_370.wr W_372 (Or.inr sz_b369)
        have O_372 := O_370.wr W_372 g_b369
        have V_372 : Arv Z h_372 b369 k_369 .char (6 : Int32) [(.int (47 : Int32)), (.int (118 : Int32)), (.int (0 : Int32)), (.int (0 : Int32)), (.int (0 : Int32)), (.int (0 : Int32))] (.int (0 : Int32)) := by
          have q := Arv.set Ar_372 ck_372 Sz_372 Ng_372 Hs_372 Gs_372 (fits_nar_char _) W_372 1 rfl (Nat.le_of_ble_eq_true rfl)
          rw [show nar .char (118 : Int32) = (118 : Int32) from by decide] at q; exact q
        show Go p e below _ (T_372.setTop (mkF m 122 #[vI p1, vI c0, vI c1, vI c2] [(.ref b369), (.ref b368), (.ref b368)]))
        refine Go.step (fun _ k => XS.dup X_372.here hx rfl (hb hby d_method_3_code_122) rfl rfl k) ?_
        refine Go.step (fun _ k => XS.iconst X_372.here hx rfl (hb hby d_method_3_code_123) k) ?_
        refine Go.step (fun _ k => XS.bipush X_372.here hx rfl (hb hby d_method_3_code_124) k) ?_
        show Go p e below _ (T_372.setTop (mkF m 126 #[vI p1, vI c0, vI c1, vI c2] [(.int (49 : Int32)), (.int (2 : Int32)), (.ref b369), (.ref b369), (.ref b368), (.ref b368)]))
        have cp375 := V_372
        obtain ⟨cl_374, Ar_374, ck_374, Sz_374, Ng_374, Hs_374, Gs_374⟩ := cp375
        have hin_374 : ¬ ((2 : Int32) < 0 ∨ cl_374.slots.size ≤ ((2 : Int32)).toNatClampNeg) := inb_of Sz_374 ⟨by decide, by decide⟩
        obtain ⟨T_374, h_374, X_374, e_374, W_374, st_374⟩ := stC X_372 hx hZ e_372 Ar_374 (j := (2 : Int32)) hin_374 (g := (mkF m 126 #[vI p1, vI c0, vI c1, vI c2] [(.int (49 : Int32)), (.int (2 : Int32)), (.ref b369), (.ref b369), (.ref b368), (.ref b368)])) rfl rfl (hb hby d_method_3_code_126)
        refine Go.step st_374 ?_
        have N_374 := Fr.snoc X_374 N_372 g_b369
        have C_374 := CHr.wr W_374 (Safe.arv hZ.alike V_372 (by decide)) C_372.1
        have CR_374 := CHr.trans CR_372 C_374
        have le_374 : h_372.size ≤ h_374.size := Nat.le_of_eq W_374.size.symm
        have KP_374 := KP_372.wr W_374 (Or.inr sz_b369)
        have O_374 := O_372.wr W_374 g_b369
        have V_374 : Arv Z h_374 b369 k_369 .char (6 : Int32) [(.int (47 : Int32)), (.int (118 : Int32)), (.int (49 : Int32)), (.int (0 : Int32)), (.int (0 : Int32)), (.int (0 : Int32))] (.int (0 : Int32)) := by
          have q := Arv.set Ar_374 ck_374 Sz_374 Ng_374 Hs_374 Gs_374 (fits_nar_char _) W_374 2 rfl (Nat.le_of_ble_eq_true rfl)
          rw [show nar .char (49 : Int32) = (49 : Int32) from by decide] at q; exact q
        show Go p e below _ (T_374.setTop (mkF m 127 #[vI p1, vI c0, vI c1, vI c2] [(.ref b369), (.ref b368), (.ref b368)]))
        refine Go.step (fun _ k => XS.dup X_374.here hx rfl (hb hby d_method_3_code_127) rfl rfl k) ?_
        refine Go.step (fun _ k => XS.iconst X_374.here hx rfl (hb hby d_method_3_code_128) k) ?_
        refine Go.step (fun _ k => XS.iloadN X_374.here hx rfl (hb hby d_method_3_code_129) rfl  k) ?_
        show Go p e below _ (T_374.setTop (mkF m 130 #[vI p1, vI c0, vI c1, vI c2] [(.int c0), (.int (3 : Int32)), (.ref b369), (.ref b369), (.ref b368), (.ref b368)]))
        have cp377 := V_374
        obtain ⟨cl_376, Ar_376, ck_376, Sz_376, Ng_376, Hs_376, Gs_376⟩ := cp377
        have hin_376 : ¬ ((3 : Int32) < 0 ∨ cl_376.slots.size ≤ ((3 : Int32)).toNatClampNeg) := inb_of Sz_376 ⟨by decide, by decide⟩
        obtain ⟨T_376, h_376, X_376, e_376, W_376, st_376⟩ := stC X_374 hx hZ e_374 Ar_376 (j := (3 : Int32)) hin_376 (g := (mkF m 130 #[vI p1, vI c0, vI c1, vI c2] [(.int c0), (.int (3 : Int32)), (.ref b369), (.ref b369), (.ref b368), (.ref b368)])) rfl rfl (hb hby d_method_3_code_130)
        refine Go.step st_376 ?_
        have N_376 := Fr.snoc X_376 N_374 g_b369
        have C_376 := CHr.wr W_376 (Safe.arv hZ.alike V_374 (by decide)) C_374.1
        have CR_376 := CHr.trans CR_374 C_376
        have le_376 : h_374.size ≤ h_376.size := Nat.le_of_eq W_376.size.symm
        have KP_376 := KP_374.wr W_376 (Or.inr sz_b369)
        have O_376 := O_374.wr W_376 g_b369
        have V_376 : Arv Z h_376 b369 k_369 .char (6 : Int32) [(.int (47 : Int32)), (.int (118 : Int32)), (.int (49 : Int32)), (.int c0), (.int (0 : Int32)), (.int (0 : Int32))] (.int (0 : Int32)) := by
          have q := Arv.set Ar_376 ck_376 Sz_376 Ng_376 Hs_376 Gs_376 (fits_nar_char _) W_376 3 rfl (Nat.le_of_ble_eq_true rfl)
          rw [nar_lat l_c0] at q; exact q
        show Go p e below _ (T_376.setTop (mkF m 131 #[vI p1, vI c0, vI c1, vI c2] [(.ref b369), (.ref b368), (.ref b368)]))
        refine Go.step (fun _ k => XS.dup X_376.here hx rfl (hb hby d_method_3_code_131) rfl rfl k) ?_
        refine Go.step (fun _ k => XS.iconst X_376.here hx rfl (hb hby d_method_3_code_132) k) ?_
        refine Go.step (fun _ k => XS.iloadN X_376.here hx rfl (hb hby d_method_3_code_133) rfl  k) ?_
        show Go p e below _ (T_376.setTop (mkF m 134 #[vI p1, vI c0, vI c1, vI c2] [(.int c1), (.int (4 : Int32)), (.ref b369), (.ref b369), (.ref b368), (.ref b368)]))
        have cp379 := V_376
        obtain ⟨cl_378, Ar_378, ck_378, Sz_378, Ng_378, Hs_378, Gs_378⟩ := cp379
        have hin_378 : ¬ ((4 : Int32) < 0 ∨ cl_378.slots.size ≤ ((4 : Int32)).toNatClampNeg) := inb_of Sz_378 ⟨by decide, by decide⟩
        obtain ⟨T_378, h_378, X_378, e_378, W_378, st_378⟩ := stC X_376 hx hZ e_376 Ar_378 (j := (4 : Int32)) hin_378 (g := (mkF m 134 #[vI p1, vI c0, vI c1, vI c2] [(.int c1), (.int (4 : Int32)), (.ref b369), (.ref b369), (.ref b368), (.ref b368)])) rfl rfl (hb hby d_method_3_code_134)
        refine Go.step st_378 ?_
        have N_378 := Fr.snoc X_378 N_376 g_b369
        have C_378 := CHr.wr W_378 (Safe.arv hZ.alike V_376 (by decide)) C_376.1
        have CR_378 := CHr.trans CR_376 C_378
        have le_378 : h_376.size ≤ h_378.size := Nat.le_of_eq W_378.size.symm
        have KP_378 := KP_376.wr W_378 (Or.inr sz_b369)
        have O_378 := O_376.wr W_378 g_b369
        have V_378 : Arv Z h_378 b369 k_369 .char (6 : Int32) [(.int (47 : Int32)), (.int (118 : Int32)), (.int (49 : Int32)), (.int c0), (.int c1), (.int (0 : Int32))] (.int (0 : Int32)) := by
          have q := Arv.set Ar_378 ck_378 Sz_378 Ng_378 Hs_378 Gs_378 (fits_nar_char _) W_378 4 rfl (Nat.le_of_ble_eq_true rfl)
          rw [nar_lat l_c1] at q; exact q
        show Go p e below _ (T_378.setTop (mkF m 135 #[vI p1, vI c0, vI c1, vI c2] [(.ref b369), (.ref b368), (.ref b368)]))
        refine Go.step (fun _ k => XS.dup X_378.here hx rfl (hb hby d_method_3_code_135) rfl rfl k) ?_
        refine Go.step (fun _ k => XS.iconst X_378.here hx rfl (hb hby d_method_3_code_136) k) ?_
        refine Go.step (fun _ k => XS.iloadN X_378.here hx rfl (hb hby d_method_3_code_137) rfl  k) ?_
        show Go p e below _ (T_378.setTop (mkF m 138 #[vI p1, vI c0, vI c1, vI c2] [(.int c2), (.int (5 : Int32)), (.ref b369), (.ref b369), (.ref b368), (.ref b368)]))
        have cp381 := V_378
        obtain ⟨cl_380, Ar_380, ck_380, Sz_380, Ng_380, Hs_380, Gs_380⟩ := cp381
        have hin_380 : ¬ ((5 : Int32) < 0 ∨ cl_380.slots.size ≤ ((5 : Int32)).toNatClampNeg) := inb_of Sz_380 ⟨by decide, by decide⟩
        obtain ⟨T_380, h_380, X_380, e_380, W_380, st_380⟩ := stC X_378 hx hZ e_378 Ar_380 (j := (5 : Int32)) hin_380 (g := (mkF m 138 #[vI p1, vI c0, vI c1, vI c2] [(.int c2), (.int (5 : Int32)), (.ref b369), (.ref b369), (.ref b368), (.ref b368)])) rfl rfl (hb hby d_method_3_code_138)
        refine Go.step st_380 ?_
        have N_380 := Fr.snoc X_380 N_378 g_b369
        have C_380 := CHr.wr W_380 (Safe.arv hZ.alike V_378 (by decide)) C_378.1
        have CR_380 := CHr.trans CR_378 C_380
        have le_380 : h_378.size ≤ h_380.size := Nat.le_of_eq W_380.size.symm
        have KP_380 := KP_378.wr W_380 (Or.inr sz_b369)
        have O_380 := O_378.wr W_380 g_b369
        have V_380 : Arv Z h_380 b369 k_369 .char (6 : Int32) [(.int (47 : Int32)), (.int (118 : Int32)), (.int (49 : Int32)), (.int c0), (.int c1), (.int c2)] (.int (0 : Int32)) := by
          have q := Arv.set Ar_380 ck_380 Sz_380 Ng_380 Hs_380 Gs_380 (fits_nar_char _) W_380 5 rfl (Nat.le_of_ble_eq_true rfl)
          rw [nar_lat l_c2] at q; exact q
        show Go p e below _ (T_380.setTop (mkF m 139 #[vI p1, vI c0, vI c1, vI c2] [(.ref b369), (.ref b368), (.ref b368)]))
        have f382 : Exa Z h_380 b368 "java/lang/String" := (((((((A_368.ext E_369).wr W_370).wr W_372).wr W_374).wr W_376).wr W_378).wr W_380)
        have f383 : Fld Z h_380 b368 "java/lang/String" "value" "[B" .null := (((((((F_368_20.ext E_369).other W_370 (Or.inl (Nat.ne_of_lt (Nat.lt_of_lt_of_le A_368.lt (Nat.le_trans (Nat.le_refl _) ge_369))))).other W_372 (Or.inl (Nat.ne_of_lt (Nat.lt_of_lt_of_le A_368.lt (Nat.le_trans (Nat.le_refl _) ge_369))))).other W_374 (Or.inl (Nat.ne_of_lt (Nat.lt_of_lt_of_le A_368.lt (Nat.le_trans (Nat.le_refl _) ge_369))))).other W_376 (Or.inl (Nat.ne_of_lt (Nat.lt_of_lt_of_le A_368.lt (Nat.le_trans (Nat.le_refl _) ge_369))))).other W_378 (Or.inl (Nat.ne_of_lt (Nat.lt_of_lt_of_le A_368.lt (Nat.le_trans (Nat.le_refl _) ge_369))))).other W_380 (Or.inl (Nat.ne_of_lt (Nat.lt_of_lt_of_le A_368.lt (Nat.le_trans (Nat.le_refl _) ge_369)))))
        have f384 : Fld Z h_380 b368 "java/lang/String" "coder" "B" (.int (0 : Int32)) := (((((((F_368_21.ext E_369).other W_370 (Or.inl (Nat.ne_of_lt (Nat.lt_of_lt_of_le A_368.lt (Nat.le_trans (Nat.le_refl _) ge_369))))).other W_372 (Or.inl (Nat.ne_of_lt (Nat.lt_of_lt_of_le A_368.lt (Nat.le_trans (Nat.le_refl _) ge_369))))).other W_374 (Or.inl (Nat.ne_of_lt (Nat.lt_of_lt_of_le A_368.lt (Nat.le_trans (Nat.le_refl _) ge_369))))).other W_376 (Or.inl (Nat.ne_of_lt (Nat.lt_of_lt_of_le A_368.lt (Nat.le_trans (Nat.le_refl _) ge_369))))).other W_378 (Or.inl (Nat.ne_of_lt (Nat.lt_of_lt_of_le A_368.lt (Nat.le_trans (Nat.le_refl _) ge_369))))).other W_380 (Or.inl (Nat.ne_of_lt (Nat.lt_of_lt_of_le A_368.lt (Nat.le_trans (Nat.le_refl _) ge_369)))))
        have hp385 : ∀ c ∈ ([(47 : Int32), (118 : Int32), (49 : Int32), c0, c1, c2] : List Int32), ¬ c < 0 ∧ ¬ (255 : Int32) < c := (latc (by decide) (latc (by decide) (latc (by decide) (latc l_c0 (latc l_c1 (latc l_c2 lat0))))))
        obtain ⟨v_386, T_386, L_386, X_386, hQ_386, st_386⟩ := goC X_380 hx hZ (y := Y_33) hown rfl (wd_8 hw) (wd_9 hw) (wd_10 hw) (by decide) (StrChars.Road.backV (W := 1) (s := s.setVm s.vm) hZ (sw_words hw) (kI := 4) (wd_5 hw) (cs := ([(47 : Int32), (118 : Int32), (49 : Int32), c0, c1, c2] : List Int32)) (bs := ([(47 : Int32), (118 : Int32), (49 : Int32), c0, c1, c2] : List Int32).map (fun c => c.toInt8.toInt32)) (n := 6) g_b368 (Nat.le_trans Z0 KP_380.1) f382 f383 f384 V_380 (S_cs.ext O_380.2) n_cs rfl rfl (by decide) (by decide) hp385 rfl (by decide) (by decide)) e_380 (g := (mkF m 139 #[vI p1, vI c0, vI c1, vI c2] [(.ref b369), (.ref b368), (.ref b368)])) rfl (by rw [hml]; rfl) (a := b368) (argsL := [(.ref b369)]) (rest := [(.ref b368)]) rfl (lenOf pd_27 rfl) rfl (by show 2 * 0 + _ ≤ _; exact Nat.le_of_eq rfl) (hb hby d_method_3_code_139) (by decide) (by decide)
        obtain ⟨rfl, Nq_386, K_386, Ex_386, Fc_386, t_386, kb_386, -, gt_386, -, Fv_386, Av_386⟩ := hQ_386
        have N_386 := Fr.app N_380 Nq_386
        have C_386 := CHr.keep K_386 (sfS (CHr.safe (CHr.trans (CHr.trans (CHr.trans (CHr.trans (CHr.trans (CHr.trans C_369 C_370) C_372) C_374) C_376) C_378) C_380) A_368.lt Sf_b368) sf0) C_380.1
        have CR_386 := CHr.trans CR_380 C_386
        have le_386 : h_380.size ≤ T_386.heap.size := K_386.1
        have KP_386 := KP_380.trans K_386 (allS (Or.inr sz_b368) all0)
        have O_386 := O_380.keep K_386 (allS g_b368 all0)
        have Sx_386 : Str Z (T_386.heap).size (T_386.heap) b368 ([(47 : Int32), (118 : Int32), (49 : Int32), c0, c1, c2] : List Int32) := ⟨t_386, kb_386, Ex_386.lt, Av_386.lt, Ex_386, Fv_386, Fc_386, Av_386, hp385, Nat.le_of_ble_eq_true rfl⟩
        refine Go.step st_386 ?_
        show Go p e below _ (T_386.setTop (mkF m 142 #[vI p1, vI c0, vI c1, vI c2] [(.ref b368)]))
        exact Go.retVW X_386 rfl hS0 (Nat.le_trans hk0 (Nat.le_trans le_368 (Nat.le_trans le_369 (Nat.le_trans le_370 (Nat.le_trans le_372 (Nat.le_trans le_374 (Nat.le_trans le_376 (Nat.le_trans le_378 (Nat.le_trans le_380 le_386))))))))) hZ hEL hh0 CR_386 hx hlk hret rfl (Or.inr (Or.inr (Or.inr (Or.inr ⟨rfl, rfl, rfl⟩)))) (hb hby d_method_3_code_142) (by decide) (by decide) (by exact ⟨b368, rfl, N_386, KP_386, sz_b368, (by rw [pats, if_neg u0, if_neg u1, if_neg u2]; exact Sx_386)⟩)
--@E
theorem range4 (x : Int32) : (x &&& (3 : Int32)) = 0 ∨ (x &&& (3 : Int32)) = 1 ∨ (x &&& (3 : Int32)) = 2 ∨ (x &&& (3 : Int32)) = 3 := by
  have h := c_mask x 3 2 (by decide) (by decide)
  have q : (x &&& (3 : Int32)).toInt = 0 ∨ (x &&& (3 : Int32)).toInt = 1 ∨ (x &&& (3 : Int32)).toInt = 2 ∨ (x &&& (3 : Int32)).toInt = 3 := by omega
  rcases q with q | q | q | q
  · exact Or.inl (Int32.toInt_inj.mp q)
  · exact Or.inr (Or.inl (Int32.toInt_inj.mp q))
  · exact Or.inr (Or.inr (Or.inl (Int32.toInt_inj.mp q)))
  · exact Or.inr (Or.inr (Or.inr (Int32.toInt_inj.mp q)))
def rsl (n m0 m1 m2 t t0 t1 t2 : Int32) : List Int32 := (((((mks n m0 m1 m2) ++ ([(32 : Int32)] : List Int32)) ++ ([(47 : Int32), (118 : Int32), (49 : Int32)] : List Int32)) ++ ([(47 : Int32), (123 : Int32), (112 : Int32), (114 : Int32), (101 : Int32), (102 : Int32), (105 : Int32), (120 : Int32), (125 : Int32)] : List Int32)) ++ ((pats t t0 t1 t2).drop 3))
abbrev midl : List Int32 := ([(32 : Int32), (47 : Int32), (118 : Int32), (49 : Int32), (47 : Int32), (123 : Int32), (112 : Int32), (114 : Int32), (101 : Int32), (102 : Int32), (105 : Int32), (120 : Int32), (125 : Int32)] : List Int32)
theorem rsl_eq (n m0 m1 m2 t t0 t1 t2 : Int32) : rsl n m0 m1 m2 t t0 t1 t2 = mks n m0 m1 m2 ++ midl ++ mks t t0 t1 t2 := by
  have e : (pats t t0 t1 t2).drop 3 = mks t t0 t1 t2 := by
    unfold pats mks
    split
    · rfl
    split
    · rfl
    split
    · rfl
    · rfl
  unfold rsl
  rw [e]
  simp [midl]
theorem mks_len {n c0 c1 c2 : Int32} (h : n = 0 ∨ n = 1 ∨ n = 2 ∨ n = 3) : (mks n c0 c1 c2).length = n.toNatClampNeg := by
  rcases h with rfl | rfl | rfl | rfl <;> rfl
theorem mks_get {n c0 c1 c2 : Int32} (h : n = 0 ∨ n = 1 ∨ n = 2 ∨ n = 3) : ∀ i, i < n.toNatClampNeg → (mks n c0 c1 c2).getD i 0 = ([c0, c1, c2] : List Int32).getD i 0 := by
  rcases h with rfl | rfl | rfl | rfl
  · intro i hi; exact absurd hi (Nat.not_lt_zero _)
  · intro i hi
    match i, hi with
    | 0, _ => rfl
  · intro i hi
    match i, hi with
    | 0, _ => rfl
    | 1, _ => rfl
  · intro i hi; rfl
theorem clamp4 {n : Int32} (h : n = 0 ∨ n = 1 ∨ n = 2 ∨ n = 3) : n = Int32.ofNat n.toNatClampNeg ∧ n.toNatClampNeg ≤ 3 := by
  rcases h with rfl | rfl | rfl | rfl <;> exact ⟨rfl, by decide⟩
theorem getD_l {xs ys : List Int32} {i : Nat} (h : i < xs.length) : (xs ++ ys).getD i 0 = xs.getD i 0 := by
  rw [List.getD_eq_getElem?_getD, List.getD_eq_getElem?_getD, List.getElem?_append_left h]
theorem getD_r {xs ys : List Int32} {i : Nat} : (xs ++ ys).getD (xs.length + i) 0 = ys.getD i 0 := by
  rw [List.getD_eq_getElem?_getD, List.getD_eq_getElem?_getD, List.getElem?_append_right (by omega), Nat.add_sub_cancel_left]
section Rs
variable {n m0 m1 m2 t t0 t1 t2 : Int32}
theorem rs_len (hn : n = 0 ∨ n = 1 ∨ n = 2 ∨ n = 3) (ht : t = 0 ∨ t = 1 ∨ t = 2 ∨ t = 3) : (rsl n m0 m1 m2 t t0 t1 t2).length = n.toNatClampNeg + 13 + t.toNatClampNeg := by
  rw [rsl_eq, List.length_append, List.length_append, mks_len hn, mks_len ht]; rfl
theorem rs_len32 (hn : n = 0 ∨ n = 1 ∨ n = 2 ∨ n = 3) (ht : t = 0 ∨ t = 1 ∨ t = 2 ∨ t = 3) : Int32.ofNat (rsl n m0 m1 m2 t t0 t1 t2).length = n + (13 : Int32) + t := by
  rw [rs_len hn ht, ← ofn_add, ← ofn_add, ← (clamp4 hn).1, ← (clamp4 ht).1]; rfl
theorem rs_hd (hn : n = 0 ∨ n = 1 ∨ n = 2 ∨ n = 3) : ∀ i, i < n.toNatClampNeg → (rsl n m0 m1 m2 t t0 t1 t2).getD i 0 = ([m0, m1, m2] : List Int32).getD i 0 := fun i hi => by
  rw [rsl_eq, List.append_assoc, getD_l (by rw [mks_len hn]; exact hi)]; exact mks_get hn i hi
theorem rs_md (hn : n = 0 ∨ n = 1 ∨ n = 2 ∨ n = 3) : ∀ j, j < 13 → (rsl n m0 m1 m2 t t0 t1 t2).getD (n.toNatClampNeg + j) 0 = midl.getD j 0 := fun j hj => by
  rw [rsl_eq, List.append_assoc, ← mks_len (c0 := m0) (c1 := m1) (c2 := m2) hn, getD_r, getD_l hj]
theorem rs_tl (hn : n = 0 ∨ n = 1 ∨ n = 2 ∨ n = 3) (ht : t = 0 ∨ t = 1 ∨ t = 2 ∨ t = 3) : ∀ i, i < t.toNatClampNeg → (rsl n m0 m1 m2 t t0 t1 t2).getD (n.toNatClampNeg + 13 + i) 0 = ([t0, t1, t2] : List Int32).getD i 0 := fun i hi => by
  have e : n.toNatClampNeg + 13 = (mks n m0 m1 m2 ++ midl).length := by rw [List.length_append, mks_len hn]; rfl
  rw [rsl_eq, e, getD_r]; exact mks_get ht i hi
end Rs
--@C head
set_option maxRecDepth 65536 in
set_option maxHeartbeats 40000000 in
theorem sg_head (l : Launch) (Z : State) (a0 : Array Value) (hw : ∀ d ∈ tables_1, d.before a0 Z = true) (zc : Int32) (vfm : Value) (s0 : Slot) (s1 : Slot) (s6 : Slot) (s7 : Slot) (s8 : Slot) (s9 : Slot) (s10 : Slot) (s11 : Slot) (s14 : Slot) (s15 : Slot) (n1 : Int32) (c0 : Int32) (c1 : Int32) (c2 : Int32) (r1 : Addr) (rs : List Int32) (h0 : Heap) (n0 : Nat) (Z0 : n0 ≤ h0.size) (S_r1 : Str Z h0.size h0 r1 rs) (hn1 : (n1 = 0 ∨ n1 = 1 ∨ n1 = 2 ∨ n1 = 3)) (hd : (∀ i, i < n1.toNatClampNeg → rs.getD i 0 = ([c0, c1, c2] : List Int32).getD i 0)) (hle : (n1.toNatClampNeg ≤ rs.length)) (hSt : St Z zc vfm) (hO : Old Z n0 h0)
    {p : Program} {e : Env} {s : State} {m : MethodId} {args : Array Value} {below : List Frame} {meth : Method} {c : Code} {T : State} {locs : List Loc} {cells slots : Nat} {Qf : Outcome → State → Prop}
    (hx : p.tables.exec = Jvm.exec) (hby : c.code = code) (hml : c.maxLocals = maxLocals) (hZ : Z.Warmed39 s.vm) (hown : s.vm.findClass "com/example/lakehouse_catalog/lakehousecatalog/iceberg/IcebergRoutesEndpointPinLaw" = some m.cls) (X0 : Stand p l e room_1 s m args below meth c T locs cells slots) (e0 : T.heap = h0) (N0 : Fr n0 locs) (hc : cells + 0 ≤ room_1.cells) (hs : slots + 0 ≤ room_1.slots)
    (hgo : ∀ (T' : State) (L : List Loc), Stand p l e room_1 s m args below meth c T' L (cells + 0) (slots + 0) → (Fr n0 L ∧ Keep h0 T'.heap []) → Go p e below Qf (T'.setTop (mkF m 209 #[s0, s1, .val (.int n1), .val (.int c0), .val (.int c1), .val (.int c2), s6, s7, s8, s9, s10, s11, .val (.ref r1), .val (.int (1 : Int32)), s14, s15] []))) :
    Go p e below Qf (T.setTop (mkF m 127 #[s0, s1, .val (.int n1), .val (.int c0), .val (.int c1), .val (.int c2), s6, s7, s8, s9, s10, s11, .val (.ref r1), .val (.int (1 : Int32)), s14, s15] [])) := by
  have KP0 := Keep.refl h0 []
  have hSt_ := hSt
  obtain ⟨S_cs, n_cs, S_fm, r_fm⟩ := hSt_
  show Go p e below _ (T.setTop (mkF m 127 #[s0, s1, vI n1, vI c0, vI c1, vI c2, s6, s7, s8, s9, s10, s11, vR r1, vI 1, s14, s15] []))
  rcases hn1 with rfl | rfl | rfl | rfl
  · skip
    show Go p e below _ (T.setTop (mkF m 127 #[s0, s1, vI 0, vI c0, vI c1, vI c2, s6, s7, s8, s9, s10, s11, vR r1, vI 1, s14, s15] []))
    refine Go.step (fun _ k => XS.iloadN X0.here hx rfl (hb hby at_127) rfl  k) ?_
    show Go p e below _ (T.setTop (mkF m 128 #[s0, s1, vI 0, vI c0, vI c1, vI c2, s6, s7, s8, s9, s10, s11, vR r1, vI 1, s14, s15] [(.int (0 : Int32))]))
    refine Go.step (fun _ k => XS.ifYes X0.here hx rfl (pc0 := 128) (pc' := 153) rfl (hb hby at_128) rfl ((if0 _ _).trans (flt ((by decide) : ¬ ((0 : Int32) < (0 : Int32)))).2.2.2) (by decide) (by decide) k) ?_
    show Go p e below _ (T.setTop (mkF m 153 #[s0, s1, vI 0, vI c0, vI c1, vI c2, s6, s7, s8, s9, s10, s11, vR r1, vI 1, s14, s15] []))
    refine Go.step (fun _ k => XS.iloadN X0.here hx rfl (hb hby at_153) rfl  k) ?_
    refine Go.step (fun _ k => XS.iconst X0.here hx rfl (hb hby at_154) k) ?_
    show Go p e below _ (T.setTop (mkF m 155 #[s0, s1, vI 0, vI c0, vI c1, vI c2, s6, s7, s8, s9, s10, s11, vR r1, vI 1, s14, s15] [(.int (1 : Int32)), (.int (0 : Int32))]))
    refine Go.step (fun _ k => XS.icmpYes X0.here hx rfl (pc0 := 155) (pc' := 181) rfl (hb hby at_155) rfl (flt ((by decide) : ¬ ((1 : Int32) < (0 : Int32)))).2.2.2 (by decide) (by decide) k) ?_
    show Go p e below _ (T.setTop (mkF m 181 #[s0, s1, vI 0, vI c0, vI c1, vI c2, s6, s7, s8, s9, s10, s11, vR r1, vI 1, s14, s15] []))
    refine Go.step (fun _ k => XS.iloadN X0.here hx rfl (hb hby at_181) rfl  k) ?_
    refine Go.step (fun _ k => XS.iconst X0.here hx rfl (hb hby at_182) k) ?_
    show Go p e below _ (T.setTop (mkF m 183 #[s0, s1, vI 0, vI c0, vI c1, vI c2, s6, s7, s8, s9, s10, s11, vR r1, vI 1, s14, s15] [(.int (2 : Int32)), (.int (0 : Int32))]))
    refine Go.step (fun _ k => XS.icmpYes X0.here hx rfl (pc0 := 183) (pc' := 209) rfl (hb hby at_183) rfl (flt ((by decide) : ¬ ((2 : Int32) < (0 : Int32)))).2.2.2 (by decide) (by decide) k) ?_
    show Go p e below _ (T.setTop (mkF m 209 #[s0, s1, vI 0, vI c0, vI c1, vI c2, s6, s7, s8, s9, s10, s11, vR r1, vI 1, s14, s15] []))
    exact hgo _ _ X0 (by rw [e0]; exact ⟨N0, KP0⟩)
  · skip
    show Go p e below _ (T.setTop (mkF m 127 #[s0, s1, vI 1, vI c0, vI c1, vI c2, s6, s7, s8, s9, s10, s11, vR r1, vI 1, s14, s15] []))
    refine Go.step (fun _ k => XS.iloadN X0.here hx rfl (hb hby at_127) rfl  k) ?_
    show Go p e below _ (T.setTop (mkF m 128 #[s0, s1, vI 1, vI c0, vI c1, vI c2, s6, s7, s8, s9, s10, s11, vR r1, vI 1, s14, s15] [(.int (1 : Int32))]))
    refine Go.step (fun _ k => XS.ifNo X0.here hx rfl (hb hby at_128) rfl ((if0 _ _).trans (tlt ((by decide) : (0 : Int32) < (1 : Int32))).2.2.2) k) ?_
    show Go p e below _ (T.setTop (mkF m 131 #[s0, s1, vI 1, vI c0, vI c1, vI c2, s6, s7, s8, s9, s10, s11, vR r1, vI 1, s14, s15] []))
    refine Go.step (fun _ k => XS.iload X0.here hx rfl (hb hby at_131) rfl  k) ?_
    show Go p e below _ (T.setTop (mkF m 133 #[s0, s1, vI 1, vI c0, vI c1, vI c2, s6, s7, s8, s9, s10, s11, vR r1, vI 1, s14, s15] [(.int (1 : Int32))]))
    refine Go.step (fun _ k => XS.ifNo X0.here hx rfl (hb hby at_133) rfl ((if0 _ _).trans (feq ((by decide) : ¬ ((1 : Int32) = (0 : Int32)))).1) k) ?_
    show Go p e below _ (T.setTop (mkF m 136 #[s0, s1, vI 1, vI c0, vI c1, vI c2, s6, s7, s8, s9, s10, s11, vR r1, vI 1, s14, s15] []))
    refine Go.step (fun _ k => XS.aload X0.here hx rfl (hb hby at_136) rfl rfl k) ?_
    refine Go.step (fun _ k => XS.iconst X0.here hx rfl (hb hby at_138) k) ?_
    show Go p e below _ (T.setTop (mkF m 139 #[s0, s1, vI 1, vI c0, vI c1, vI c2, s6, s7, s8, s9, s10, s11, vR r1, vI 1, s14, s15] [(.int (0 : Int32)), (.ref r1)]))
    have cp387 := S_r1
    obtain ⟨t388, kb388, -, -, Ex388, Fv388, Fc388, Av388, hl388, hn388⟩ := cp387
    obtain ⟨v_389, T_389, L_389, X_389, hQ_389, st_389⟩ := goV X0 hx hZ (y := Y_34) (z := Y_34) (kc := 0) (ks := 0) (QQ := fun v h' L => v = some (.int (rs.getD 0 0)) ∧ L = [] ∧ h' = h0) hown (wd_188 hw) (wd_189 hw) (notFace_of_selects (args := #[]) (mvT hZ (wd_191 hw))) (wd_191 hw) (wd_190 hw) (by decide) (StrChars.Road.chN (W := 0) hZ (sw_wordsChN hw) (kI := 4) (wd_5 hw) (i := 0) (j := (0 : Int32)) Ex388 Fv388 Fc388 Av388 (StrChars.Road.codOf rfl (fun c hc => (hl388 c hc).2)) (up255 hl388) (S_cs.ext hO.2) n_cs (S_fm.ext hO.2) r_fm hn388 (Nat.lt_of_lt_of_le (by decide) hle) rfl (by decide) (by decide)) e0 Ex388 (g := (mkF m 139 #[s0, s1, vI 1, vI c0, vI c1, vI c2, s6, s7, s8, s9, s10, s11, vR r1, vI 1, s14, s15] [(.int (0 : Int32)), (.ref r1)])) rfl (by rw [hml]; rfl) (argsL := [(.int (0 : Int32))]) (rest := []) rfl (lenOf pd_28 rfl) rfl (by show 2 * 0 + _ ≤ _; exact Nat.le_of_eq rfl) (hb hby at_139) (by (try dsimp only); omega) (by (try dsimp only); omega)
    obtain ⟨rfl, rfl, e_389⟩ := hQ_389
    have N_389 := Fr.app N0 (Fr.nil n0)
    refine Go.step st_389 ?_
    show Go p e below _ (T_389.setTop (mkF m 142 #[s0, s1, vI 1, vI c0, vI c1, vI c2, s6, s7, s8, s9, s10, s11, vR r1, vI 1, s14, s15] [(.int (rs.getD 0 0))]))
    refine Go.step (fun _ k => XS.iloadN X_389.here hx rfl (hb hby at_142) rfl  k) ?_
    show Go p e below _ (T_389.setTop (mkF m 143 #[s0, s1, vI 1, vI c0, vI c1, vI c2, s6, s7, s8, s9, s10, s11, vR r1, vI 1, s14, s15] [(.int c0), (.int (rs.getD 0 0))]))
    refine Go.step (fun _ k => XS.icmpNo X_389.here hx rfl (hb hby at_143) rfl (teq ((hd 0 (by decide)) : (rs.getD 0 0) = c0)).2 k) ?_
    show Go p e below _ (T_389.setTop (mkF m 146 #[s0, s1, vI 1, vI c0, vI c1, vI c2, s6, s7, s8, s9, s10, s11, vR r1, vI 1, s14, s15] []))
    refine Go.step (fun _ k => XS.iconst X_389.here hx rfl (hb hby at_146) k) ?_
    show Go p e below _ (T_389.setTop (mkF m 147 #[s0, s1, vI 1, vI c0, vI c1, vI c2, s6, s7, s8, s9, s10, s11, vR r1, vI 1, s14, s15] [(.int (1 : Int32))]))
    refine Go.step (fun _ k => XS.goto X_389.here hx rfl (pc0 := 147) (pc' := 151) rfl (hb hby at_147) (by decide) (by decide) k) ?_
    show Go p e below _ (T_389.setTop (mkF m 151 #[s0, s1, vI 1, vI c0, vI c1, vI c2, s6, s7, s8, s9, s10, s11, vR r1, vI 1, s14, s15] [(.int (1 : Int32))]))
    refine Go.step (fun _ k => XS.istore X_389.here hx rfl (hb hby at_151) rfl (l' := #[s0, s1, vI 1, vI c0, vI c1, vI c2, s6, s7, s8, s9, s10, s11, vR r1, vI 1, s14, s15]) rfl k) ?_
    show Go p e below _ (T_389.setTop (mkF m 153 #[s0, s1, vI 1, vI c0, vI c1, vI c2, s6, s7, s8, s9, s10, s11, vR r1, vI 1, s14, s15] []))
    refine Go.step (fun _ k => XS.iloadN X_389.here hx rfl (hb hby at_153) rfl  k) ?_
    refine Go.step (fun _ k => XS.iconst X_389.here hx rfl (hb hby at_154) k) ?_
    show Go p e below _ (T_389.setTop (mkF m 155 #[s0, s1, vI 1, vI c0, vI c1, vI c2, s6, s7, s8, s9, s10, s11, vR r1, vI 1, s14, s15] [(.int (1 : Int32)), (.int (1 : Int32))]))
    refine Go.step (fun _ k => XS.icmpYes X_389.here hx rfl (pc0 := 155) (pc' := 181) rfl (hb hby at_155) rfl (flt ((by decide) : ¬ ((1 : Int32) < (1 : Int32)))).2.2.2 (by decide) (by decide) k) ?_
    show Go p e below _ (T_389.setTop (mkF m 181 #[s0, s1, vI 1, vI c0, vI c1, vI c2, s6, s7, s8, s9, s10, s11, vR r1, vI 1, s14, s15] []))
    refine Go.step (fun _ k => XS.iloadN X_389.here hx rfl (hb hby at_181) rfl  k) ?_
    refine Go.step (fun _ k => XS.iconst X_389.here hx rfl (hb hby at_182) k) ?_
    show Go p e below _ (T_389.setTop (mkF m 183 #[s0, s1, vI 1, vI c0, vI c1, vI c2, s6, s7, s8, s9, s10, s11, vR r1, vI 1, s14, s15] [(.int (2 : Int32)), (.int (1 : Int32))]))
    refine Go.step (fun _ k => XS.icmpYes X_389.here hx rfl (pc0 := 183) (pc' := 209) rfl (hb hby at_183) rfl (flt ((by decide) : ¬ ((2 : Int32) < (1 : Int32)))).2.2.2 (by decide) (by decide) k) ?_
    show Go p e below _ (T_389.setTop (mkF m 209 #[s0, s1, vI 1, vI c0, vI c1, vI c2, s6, s7, s8, s9, s10, s11, vR r1, vI 1, s14, s15] []))
    exact hgo _ _ X_389 (by rw [e_389]; exact ⟨N_389, KP0⟩)
  · skip
    show Go p e below _ (T.setTop (mkF m 127 #[s0, s1, vI 2, vI c0, vI c1, vI c2, s6, s7, s8, s9, s10, s11, vR r1, vI 1, s14, s15] []))
    refine Go.step (fun _ k => XS.iloadN X0.here hx rfl (hb hby at_127) rfl  k) ?_
    show Go p e below _ (T.setTop (mkF m 128 #[s0, s1, vI 2, vI c0, vI c1, vI c2, s6, s7, s8, s9, s10, s11, vR r1, vI 1, s14, s15] [(.int (2 : Int32))]))
    refine Go.step (fun _ k => XS.ifNo X0.here hx rfl (hb hby at_128) rfl ((if0 _ _).trans (tlt ((by decide) : (0 : Int32) < (2 : Int32))).2.2.2) k) ?_
    show Go p e below _ (T.setTop (mkF m 131 #[s0, s1, vI 2, vI c0, vI c1, vI c2, s6, s7, s8, s9, s10, s11, vR r1, vI 1, s14, s15] []))
    refine Go.step (fun _ k => XS.iload X0.here hx rfl (hb hby at_131) rfl  k) ?_
    show Go p e below _ (T.setTop (mkF m 133 #[s0, s1, vI 2, vI c0, vI c1, vI c2, s6, s7, s8, s9, s10, s11, vR r1, vI 1, s14, s15] [(.int (1 : Int32))]))
    refine Go.step (fun _ k => XS.ifNo X0.here hx rfl (hb hby at_133) rfl ((if0 _ _).trans (feq ((by decide) : ¬ ((1 : Int32) = (0 : Int32)))).1) k) ?_
    show Go p e below _ (T.setTop (mkF m 136 #[s0, s1, vI 2, vI c0, vI c1, vI c2, s6, s7, s8, s9, s10, s11, vR r1, vI 1, s14, s15] []))
    refine Go.step (fun _ k => XS.aload X0.here hx rfl (hb hby at_136) rfl rfl k) ?_
    refine Go.step (fun _ k => XS.iconst X0.here hx rfl (hb hby at_138) k) ?_
    show Go p e below _ (T.setTop (mkF m 139 #[s0, s1, vI 2, vI c0, vI c1, vI c2, s6, s7, s8, s9, s10, s11, vR r1, vI 1, s14, s15] [(.int (0 : Int32)), (.ref r1)]))
    have cp390 := S_r1
    obtain ⟨t391, kb391, -, -, Ex391, Fv391, Fc391, Av391, hl391, hn391⟩ := cp390
    obtain ⟨v_392, T_392, L_392, X_392, hQ_392, st_392⟩ := goV X0 hx hZ (y := Y_34) (z := Y_34) (kc := 0) (ks := 0) (QQ := fun v h' L => v = some (.int (rs.getD 0 0)) ∧ L = [] ∧ h' = h0) hown (wd_188 hw) (wd_189 hw) (notFace_of_selects (args := #[]) (mvT hZ (wd_191 hw))) (wd_191 hw) (wd_190 hw) (by decide) (StrChars.Road.chN (W := 0) hZ (sw_wordsChN hw) (kI := 4) (wd_5 hw) (i := 0) (j := (0 : Int32)) Ex391 Fv391 Fc391 Av391 (StrChars.Road.codOf rfl (fun c hc => (hl391 c hc).2)) (up255 hl391) (S_cs.ext hO.2) n_cs (S_fm.ext hO.2) r_fm hn391 (Nat.lt_of_lt_of_le (by decide) hle) rfl (by decide) (by decide)) e0 Ex391 (g := (mkF m 139 #[s0, s1, vI 2, vI c0, vI c1, vI c2, s6, s7, s8, s9, s10, s11, vR r1, vI 1, s14, s15] [(.int (0 : Int32)), (.ref r1)])) rfl (by rw [hml]; rfl) (argsL := [(.int (0 : Int32))]) (rest := []) rfl (lenOf pd_28 rfl) rfl (by show 2 * 0 + _ ≤ _; exact Nat.le_of_eq rfl) (hb hby at_139) (by (try dsimp only); omega) (by (try dsimp only); omega)
    obtain ⟨rfl, rfl, e_392⟩ := hQ_392
    have N_392 := Fr.app N0 (Fr.nil n0)
    refine Go.step st_392 ?_
    show Go p e below _ (T_392.setTop (mkF m 142 #[s0, s1, vI 2, vI c0, vI c1, vI c2, s6, s7, s8, s9, s10, s11, vR r1, vI 1, s14, s15] [(.int (rs.getD 0 0))]))
    refine Go.step (fun _ k => XS.iloadN X_392.here hx rfl (hb hby at_142) rfl  k) ?_
    show Go p e below _ (T_392.setTop (mkF m 143 #[s0, s1, vI 2, vI c0, vI c1, vI c2, s6, s7, s8, s9, s10, s11, vR r1, vI 1, s14, s15] [(.int c0), (.int (rs.getD 0 0))]))
    refine Go.step (fun _ k => XS.icmpNo X_392.here hx rfl (hb hby at_143) rfl (teq ((hd 0 (by decide)) : (rs.getD 0 0) = c0)).2 k) ?_
    show Go p e below _ (T_392.setTop (mkF m 146 #[s0, s1, vI 2, vI c0, vI c1, vI c2, s6, s7, s8, s9, s10, s11, vR r1, vI 1, s14, s15] []))
    refine Go.step (fun _ k => XS.iconst X_392.here hx rfl (hb hby at_146) k) ?_
    show Go p e below _ (T_392.setTop (mkF m 147 #[s0, s1, vI 2, vI c0, vI c1, vI c2, s6, s7, s8, s9, s10, s11, vR r1, vI 1, s14, s15] [(.int (1 : Int32))]))
    refine Go.step (fun _ k => XS.goto X_392.here hx rfl (pc0 := 147) (pc' := 151) rfl (hb hby at_147) (by decide) (by decide) k) ?_
    show Go p e below _ (T_392.setTop (mkF m 151 #[s0, s1, vI 2, vI c0, vI c1, vI c2, s6, s7, s8, s9, s10, s11, vR r1, vI 1, s14, s15] [(.int (1 : Int32))]))
    refine Go.step (fun _ k => XS.istore X_392.here hx rfl (hb hby at_151) rfl (l' := #[s0, s1, vI 2, vI c0, vI c1, vI c2, s6, s7, s8, s9, s10, s11, vR r1, vI 1, s14, s15]) rfl k) ?_
    show Go p e below _ (T_392.setTop (mkF m 153 #[s0, s1, vI 2, vI c0, vI c1, vI c2, s6, s7, s8, s9, s10, s11, vR r1, vI 1, s14, s15] []))
    refine Go.step (fun _ k => XS.iloadN X_392.here hx rfl (hb hby at_153) rfl  k) ?_
    refine Go.step (fun _ k => XS.iconst X_392.here hx rfl (hb hby at_154) k) ?_
    show Go p e below _ (T_392.setTop (mkF m 155 #[s0, s1, vI 2, vI c0, vI c1, vI c2, s6, s7, s8, s9, s10, s11, vR r1, vI 1, s14, s15] [(.int (1 : Int32)), (.int (2 : Int32))]))
    refine Go.step (fun _ k => XS.icmpNo X_392.here hx rfl (hb hby at_155) rfl (tlt ((by decide) : (1 : Int32) < (2 : Int32))).2.2.2 k) ?_
    show Go p e below _ (T_392.setTop (mkF m 158 #[s0, s1, vI 2, vI c0, vI c1, vI c2, s6, s7, s8, s9, s10, s11, vR r1, vI 1, s14, s15] []))
    refine Go.step (fun _ k => XS.iload X_392.here hx rfl (hb hby at_158) rfl  k) ?_
    show Go p e below _ (T_392.setTop (mkF m 160 #[s0, s1, vI 2, vI c0, vI c1, vI c2, s6, s7, s8, s9, s10, s11, vR r1, vI 1, s14, s15] [(.int (1 : Int32))]))
    refine Go.step (fun _ k => XS.ifNo X_392.here hx rfl (hb hby at_160) rfl ((if0 _ _).trans (feq ((by decide) : ¬ ((1 : Int32) = (0 : Int32)))).1) k) ?_
    show Go p e below _ (T_392.setTop (mkF m 163 #[s0, s1, vI 2, vI c0, vI c1, vI c2, s6, s7, s8, s9, s10, s11, vR r1, vI 1, s14, s15] []))
    refine Go.step (fun _ k => XS.aload X_392.here hx rfl (hb hby at_163) rfl rfl k) ?_
    refine Go.step (fun _ k => XS.iconst X_392.here hx rfl (hb hby at_165) k) ?_
    show Go p e below _ (T_392.setTop (mkF m 166 #[s0, s1, vI 2, vI c0, vI c1, vI c2, s6, s7, s8, s9, s10, s11, vR r1, vI 1, s14, s15] [(.int (1 : Int32)), (.ref r1)]))
    have cp393 := S_r1
    obtain ⟨t394, kb394, -, -, Ex394, Fv394, Fc394, Av394, hl394, hn394⟩ := cp393
    obtain ⟨v_395, T_395, L_395, X_395, hQ_395, st_395⟩ := goV X_392 hx hZ (y := Y_34) (z := Y_34) (kc := 0) (ks := 0) (QQ := fun v h' L => v = some (.int (rs.getD 1 0)) ∧ L = [] ∧ h' = h0) hown (wd_188 hw) (wd_189 hw) (notFace_of_selects (args := #[]) (mvT hZ (wd_191 hw))) (wd_191 hw) (wd_190 hw) (by decide) (StrChars.Road.chN (W := 0) hZ (sw_wordsChN hw) (kI := 4) (wd_5 hw) (i := 1) (j := (1 : Int32)) Ex394 Fv394 Fc394 Av394 (StrChars.Road.codOf rfl (fun c hc => (hl394 c hc).2)) (up255 hl394) (S_cs.ext hO.2) n_cs (S_fm.ext hO.2) r_fm hn394 (Nat.lt_of_lt_of_le (by decide) hle) rfl (by decide) (by decide)) e_392 Ex394 (g := (mkF m 166 #[s0, s1, vI 2, vI c0, vI c1, vI c2, s6, s7, s8, s9, s10, s11, vR r1, vI 1, s14, s15] [(.int (1 : Int32)), (.ref r1)])) rfl (by rw [hml]; rfl) (argsL := [(.int (1 : Int32))]) (rest := []) rfl (lenOf pd_28 rfl) rfl (by show 2 * 0 + _ ≤ _; exact Nat.le_of_eq rfl) (hb hby at_166) (by (try dsimp only); omega) (by (try dsimp only); omega)
    obtain ⟨rfl, rfl, e_395⟩ := hQ_395
    have N_395 := Fr.app N_392 (Fr.nil n0)
    refine Go.step st_395 ?_
    show Go p e below _ (T_395.setTop (mkF m 169 #[s0, s1, vI 2, vI c0, vI c1, vI c2, s6, s7, s8, s9, s10, s11, vR r1, vI 1, s14, s15] [(.int (rs.getD 1 0))]))
    refine Go.step (fun _ k => XS.iload X_395.here hx rfl (hb hby at_169) rfl  k) ?_
    show Go p e below _ (T_395.setTop (mkF m 171 #[s0, s1, vI 2, vI c0, vI c1, vI c2, s6, s7, s8, s9, s10, s11, vR r1, vI 1, s14, s15] [(.int c1), (.int (rs.getD 1 0))]))
    refine Go.step (fun _ k => XS.icmpNo X_395.here hx rfl (hb hby at_171) rfl (teq ((hd 1 (by decide)) : (rs.getD 1 0) = c1)).2 k) ?_
    show Go p e below _ (T_395.setTop (mkF m 174 #[s0, s1, vI 2, vI c0, vI c1, vI c2, s6, s7, s8, s9, s10, s11, vR r1, vI 1, s14, s15] []))
    refine Go.step (fun _ k => XS.iconst X_395.here hx rfl (hb hby at_174) k) ?_
    show Go p e below _ (T_395.setTop (mkF m 175 #[s0, s1, vI 2, vI c0, vI c1, vI c2, s6, s7, s8, s9, s10, s11, vR r1, vI 1, s14, s15] [(.int (1 : Int32))]))
    refine Go.step (fun _ k => XS.goto X_395.here hx rfl (pc0 := 175) (pc' := 179) rfl (hb hby at_175) (by decide) (by decide) k) ?_
    show Go p e below _ (T_395.setTop (mkF m 179 #[s0, s1, vI 2, vI c0, vI c1, vI c2, s6, s7, s8, s9, s10, s11, vR r1, vI 1, s14, s15] [(.int (1 : Int32))]))
    refine Go.step (fun _ k => XS.istore X_395.here hx rfl (hb hby at_179) rfl (l' := #[s0, s1, vI 2, vI c0, vI c1, vI c2, s6, s7, s8, s9, s10, s11, vR r1, vI 1, s14, s15]) rfl k) ?_
    show Go p e below _ (T_395.setTop (mkF m 181 #[s0, s1, vI 2, vI c0, vI c1, vI c2, s6, s7, s8, s9, s10, s11, vR r1, vI 1, s14, s15] []))
    refine Go.step (fun _ k => XS.iloadN X_395.here hx rfl (hb hby at_181) rfl  k) ?_
    refine Go.step (fun _ k => XS.iconst X_395.here hx rfl (hb hby at_182) k) ?_
    show Go p e below _ (T_395.setTop (mkF m 183 #[s0, s1, vI 2, vI c0, vI c1, vI c2, s6, s7, s8, s9, s10, s11, vR r1, vI 1, s14, s15] [(.int (2 : Int32)), (.int (2 : Int32))]))
    refine Go.step (fun _ k => XS.icmpYes X_395.here hx rfl (pc0 := 183) (pc' := 209) rfl (hb hby at_183) rfl (flt ((by decide) : ¬ ((2 : Int32) < (2 : Int32)))).2.2.2 (by decide) (by decide) k) ?_
    show Go p e below _ (T_395.setTop (mkF m 209 #[s0, s1, vI 2, vI c0, vI c1, vI c2, s6, s7, s8, s9, s10, s11, vR r1, vI 1, s14, s15] []))
    exact hgo _ _ X_395 (by rw [e_395]; exact ⟨N_395, KP0⟩)
  · skip
    show Go p e below _ (T.setTop (mkF m 127 #[s0, s1, vI 3, vI c0, vI c1, vI c2, s6, s7, s8, s9, s10, s11, vR r1, vI 1, s14, s15] []))
    refine Go.step (fun _ k => XS.iloadN X0.here hx rfl (hb hby at_127) rfl  k) ?_
    show Go p e below _ (T.setTop (mkF m 128 #[s0, s1, vI 3, vI c0, vI c1, vI c2, s6, s7, s8, s9, s10, s11, vR r1, vI 1, s14, s15] [(.int (3 : Int32))]))
    refine Go.step (fun _ k => XS.ifNo X0.here hx rfl (hb hby at_128) rfl ((if0 _ _).trans (tlt ((by decide) : (0 : Int32) < (3 : Int32))).2.2.2) k) ?_
    show Go p e below _ (T.setTop (mkF m 131 #[s0, s1, vI 3, vI c0, vI c1, vI c2, s6, s7, s8, s9, s10, s11, vR r1, vI 1, s14, s15] []))
    refine Go.step (fun _ k => XS.iload X0.here hx rfl (hb hby at_131) rfl  k) ?_
    show Go p e below _ (T.setTop (mkF m 133 #[s0, s1, vI 3, vI c0, vI c1, vI c2, s6, s7, s8, s9, s10, s11, vR r1, vI 1, s14, s15] [(.int (1 : Int32))]))
    refine Go.step (fun _ k => XS.ifNo X0.here hx rfl (hb hby at_133) rfl ((if0 _ _).trans (feq ((by decide) : ¬ ((1 : Int32) = (0 : Int32)))).1) k) ?_
    show Go p e below _ (T.setTop (mkF m 136 #[s0, s1, vI 3, vI c0, vI c1, vI c2, s6, s7, s8, s9, s10, s11, vR r1, vI 1, s14, s15] []))
    refine Go.step (fun _ k => XS.aload X0.here hx rfl (hb hby at_136) rfl rfl k) ?_
    refine Go.step (fun _ k => XS.iconst X0.here hx rfl (hb hby at_138) k) ?_
    show Go p e below _ (T.setTop (mkF m 139 #[s0, s1, vI 3, vI c0, vI c1, vI c2, s6, s7, s8, s9, s10, s11, vR r1, vI 1, s14, s15] [(.int (0 : Int32)), (.ref r1)]))
    have cp396 := S_r1
    obtain ⟨t397, kb397, -, -, Ex397, Fv397, Fc397, Av397, hl397, hn397⟩ := cp396
    obtain ⟨v_398, T_398, L_398, X_398, hQ_398, st_398⟩ := goV X0 hx hZ (y := Y_34) (z := Y_34) (kc := 0) (ks := 0) (QQ := fun v h' L => v = some (.int (rs.getD 0 0)) ∧ L = [] ∧ h' = h0) hown (wd_188 hw) (wd_189 hw) (notFace_of_selects (args := #[]) (mvT hZ (wd_191 hw))) (wd_191 hw) (wd_190 hw) (by decide) (StrChars.Road.chN (W := 0) hZ (sw_wordsChN hw) (kI := 4) (wd_5 hw) (i := 0) (j := (0 : Int32)) Ex397 Fv397 Fc397 Av397 (StrChars.Road.codOf rfl (fun c hc => (hl397 c hc).2)) (up255 hl397) (S_cs.ext hO.2) n_cs (S_fm.ext hO.2) r_fm hn397 (Nat.lt_of_lt_of_le (by decide) hle) rfl (by decide) (by decide)) e0 Ex397 (g := (mkF m 139 #[s0, s1, vI 3, vI c0, vI c1, vI c2, s6, s7, s8, s9, s10, s11, vR r1, vI 1, s14, s15] [(.int (0 : Int32)), (.ref r1)])) rfl (by rw [hml]; rfl) (argsL := [(.int (0 : Int32))]) (rest := []) rfl (lenOf pd_28 rfl) rfl (by show 2 * 0 + _ ≤ _; exact Nat.le_of_eq rfl) (hb hby at_139) (by (try dsimp only); omega) (by (try dsimp only); omega)
    obtain ⟨rfl, rfl, e_398⟩ := hQ_398
    have N_398 := Fr.app N0 (Fr.nil n0)
    refine Go.step st_398 ?_
    show Go p e below _ (T_398.setTop (mkF m 142 #[s0, s1, vI 3, vI c0, vI c1, vI c2, s6, s7, s8, s9, s10, s11, vR r1, vI 1, s14, s15] [(.int (rs.getD 0 0))]))
    refine Go.step (fun _ k => XS.iloadN X_398.here hx rfl (hb hby at_142) rfl  k) ?_
    show Go p e below _ (T_398.setTop (mkF m 143 #[s0, s1, vI 3, vI c0, vI c1, vI c2, s6, s7, s8, s9, s10, s11, vR r1, vI 1, s14, s15] [(.int c0), (.int (rs.getD 0 0))]))
    refine Go.step (fun _ k => XS.icmpNo X_398.here hx rfl (hb hby at_143) rfl (teq ((hd 0 (by decide)) : (rs.getD 0 0) = c0)).2 k) ?_
    show Go p e below _ (T_398.setTop (mkF m 146 #[s0, s1, vI 3, vI c0, vI c1, vI c2, s6, s7, s8, s9, s10, s11, vR r1, vI 1, s14, s15] []))
    refine Go.step (fun _ k => XS.iconst X_398.here hx rfl (hb hby at_146) k) ?_
    show Go p e below _ (T_398.setTop (mkF m 147 #[s0, s1, vI 3, vI c0, vI c1, vI c2, s6, s7, s8, s9, s10, s11, vR r1, vI 1, s14, s15] [(.int (1 : Int32))]))
    refine Go.step (fun _ k => XS.goto X_398.here hx rfl (pc0 := 147) (pc' := 151) rfl (hb hby at_147) (by decide) (by decide) k) ?_
    show Go p e below _ (T_398.setTop (mkF m 151 #[s0, s1, vI 3, vI c0, vI c1, vI c2, s6, s7, s8, s9, s10, s11, vR r1, vI 1, s14, s15] [(.int (1 : Int32))]))
    refine Go.step (fun _ k => XS.istore X_398.here hx rfl (hb hby at_151) rfl (l' := #[s0, s1, vI 3, vI c0, vI c1, vI c2, s6, s7, s8, s9, s10, s11, vR r1, vI 1, s14, s15]) rfl k) ?_
    show Go p e below _ (T_398.setTop (mkF m 153 #[s0, s1, vI 3, vI c0, vI c1, vI c2, s6, s7, s8, s9, s10, s11, vR r1, vI 1, s14, s15] []))
    refine Go.step (fun _ k => XS.iloadN X_398.here hx rfl (hb hby at_153) rfl  k) ?_
    refine Go.step (fun _ k => XS.iconst X_398.here hx rfl (hb hby at_154) k) ?_
    show Go p e below _ (T_398.setTop (mkF m 155 #[s0, s1, vI 3, vI c0, vI c1, vI c2, s6, s7, s8, s9, s10, s11, vR r1, vI 1, s14, s15] [(.int (1 : Int32)), (.int (3 : Int32))]))
    refine Go.step (fun _ k => XS.icmpNo X_398.here hx rfl (hb hby at_155) rfl (tlt ((by decide) : (1 : Int32) < (3 : Int32))).2.2.2 k) ?_
    show Go p e below _ (T_398.setTop (mkF m 158 #[s0, s1, vI 3, vI c0, vI c1, vI c2, s6, s7, s8, s9, s10, s11, vR r1, vI 1, s14, s15] []))
    refine Go.step (fun _ k => XS.iload X_398.here hx rfl (hb hby at_158) rfl  k) ?_
    show Go p e below _ (T_398.setTop (mkF m 160 #[s0, s1, vI 3, vI c0, vI c1, vI c2, s6, s7, s8, s9, s10, s11, vR r1, vI 1, s14, s15] [(.int (1 : Int32))]))
    refine Go.step (fun _ k => XS.ifNo X_398.here hx rfl (hb hby at_160) rfl ((if0 _ _).trans (feq ((by decide) : ¬ ((1 : Int32) = (0 : Int32)))).1) k) ?_
    show Go p e below _ (T_398.setTop (mkF m 163 #[s0, s1, vI 3, vI c0, vI c1, vI c2, s6, s7, s8, s9, s10, s11, vR r1, vI 1, s14, s15] []))
    refine Go.step (fun _ k => XS.aload X_398.here hx rfl (hb hby at_163) rfl rfl k) ?_
    refine Go.step (fun _ k => XS.iconst X_398.here hx rfl (hb hby at_165) k) ?_
    show Go p e below _ (T_398.setTop (mkF m 166 #[s0, s1, vI 3, vI c0, vI c1, vI c2, s6, s7, s8, s9, s10, s11, vR r1, vI 1, s14, s15] [(.int (1 : Int32)), (.ref r1)]))
    have cp399 := S_r1
    obtain ⟨t400, kb400, -, -, Ex400, Fv400, Fc400, Av400, hl400, hn400⟩ := cp399
    obtain ⟨v_401, T_401, L_401, X_401, hQ_401, st_401⟩ := goV X_398 hx hZ (y := Y_34) (z := Y_34) (kc := 0) (ks := 0) (QQ := fun v h' L => v = some (.int (rs.getD 1 0)) ∧ L = [] ∧ h' = h0) hown (wd_188 hw) (wd_189 hw) (notFace_of_selects (args := #[]) (mvT hZ (wd_191 hw))) (wd_191 hw) (wd_190 hw) (by decide) (StrChars.Road.chN (W := 0) hZ (sw_wordsChN hw) (kI := 4) (wd_5 hw) (i := 1) (j := (1 : Int32)) Ex400 Fv400 Fc400 Av400 (StrChars.Road.codOf rfl (fun c hc => (hl400 c hc).2)) (up255 hl400) (S_cs.ext hO.2) n_cs (S_fm.ext hO.2) r_fm hn400 (Nat.lt_of_lt_of_le (by decide) hle) rfl (by decide) (by decide)) e_398 Ex400 (g := (mkF m 166 #[s0, s1, vI 3, vI c0, vI c1, vI c2, s6, s7, s8, s9, s10, s11, vR r1, vI 1, s14, s15] [(.int (1 : Int32)), (.ref r1)])) rfl (by rw [hml]; rfl) (argsL := [(.int (1 : Int32))]) (rest := []) rfl (lenOf pd_28 rfl) rfl (by show 2 * 0 + _ ≤ _; exact Nat.le_of_eq rfl) (hb hby at_166) (by (try dsimp only); omega) (by (try dsimp only); omega)
    obtain ⟨rfl, rfl, e_401⟩ := hQ_401
    have N_401 := Fr.app N_398 (Fr.nil n0)
    refine Go.step st_401 ?_
    show Go p e below _ (T_401.setTop (mkF m 169 #[s0, s1, vI 3, vI c0, vI c1, vI c2, s6, s7, s8, s9, s10, s11, vR r1, vI 1, s14, s15] [(.int (rs.getD 1 0))]))
    refine Go.step (fun _ k => XS.iload X_401.here hx rfl (hb hby at_169) rfl  k) ?_
    show Go p e below _ (T_401.setTop (mkF m 171 #[s0, s1, vI 3, vI c0, vI c1, vI c2, s6, s7, s8, s9, s10, s11, vR r1, vI 1, s14, s15] [(.int c1), (.int (rs.getD 1 0))]))
    refine Go.step (fun _ k => XS.icmpNo X_401.here hx rfl (hb hby at_171) rfl (teq ((hd 1 (by decide)) : (rs.getD 1 0) = c1)).2 k) ?_
    show Go p e below _ (T_401.setTop (mkF m 174 #[s0, s1, vI 3, vI c0, vI c1, vI c2, s6, s7, s8, s9, s10, s11, vR r1, vI 1, s14, s15] []))
    refine Go.step (fun _ k => XS.iconst X_401.here hx rfl (hb hby at_174) k) ?_
    show Go p e below _ (T_401.setTop (mkF m 175 #[s0, s1, vI 3, vI c0, vI c1, vI c2, s6, s7, s8, s9, s10, s11, vR r1, vI 1, s14, s15] [(.int (1 : Int32))]))
    refine Go.step (fun _ k => XS.goto X_401.here hx rfl (pc0 := 175) (pc' := 179) rfl (hb hby at_175) (by decide) (by decide) k) ?_
    show Go p e below _ (T_401.setTop (mkF m 179 #[s0, s1, vI 3, vI c0, vI c1, vI c2, s6, s7, s8, s9, s10, s11, vR r1, vI 1, s14, s15] [(.int (1 : Int32))]))
    refine Go.step (fun _ k => XS.istore X_401.here hx rfl (hb hby at_179) rfl (l' := #[s0, s1, vI 3, vI c0, vI c1, vI c2, s6, s7, s8, s9, s10, s11, vR r1, vI 1, s14, s15]) rfl k) ?_
    show Go p e below _ (T_401.setTop (mkF m 181 #[s0, s1, vI 3, vI c0, vI c1, vI c2, s6, s7, s8, s9, s10, s11, vR r1, vI 1, s14, s15] []))
    refine Go.step (fun _ k => XS.iloadN X_401.here hx rfl (hb hby at_181) rfl  k) ?_
    refine Go.step (fun _ k => XS.iconst X_401.here hx rfl (hb hby at_182) k) ?_
    show Go p e below _ (T_401.setTop (mkF m 183 #[s0, s1, vI 3, vI c0, vI c1, vI c2, s6, s7, s8, s9, s10, s11, vR r1, vI 1, s14, s15] [(.int (2 : Int32)), (.int (3 : Int32))]))
    refine Go.step (fun _ k => XS.icmpNo X_401.here hx rfl (hb hby at_183) rfl (tlt ((by decide) : (2 : Int32) < (3 : Int32))).2.2.2 k) ?_
    show Go p e below _ (T_401.setTop (mkF m 186 #[s0, s1, vI 3, vI c0, vI c1, vI c2, s6, s7, s8, s9, s10, s11, vR r1, vI 1, s14, s15] []))
    refine Go.step (fun _ k => XS.iload X_401.here hx rfl (hb hby at_186) rfl  k) ?_
    show Go p e below _ (T_401.setTop (mkF m 188 #[s0, s1, vI 3, vI c0, vI c1, vI c2, s6, s7, s8, s9, s10, s11, vR r1, vI 1, s14, s15] [(.int (1 : Int32))]))
    refine Go.step (fun _ k => XS.ifNo X_401.here hx rfl (hb hby at_188) rfl ((if0 _ _).trans (feq ((by decide) : ¬ ((1 : Int32) = (0 : Int32)))).1) k) ?_
    show Go p e below _ (T_401.setTop (mkF m 191 #[s0, s1, vI 3, vI c0, vI c1, vI c2, s6, s7, s8, s9, s10, s11, vR r1, vI 1, s14, s15] []))
    refine Go.step (fun _ k => XS.aload X_401.here hx rfl (hb hby at_191) rfl rfl k) ?_
    refine Go.step (fun _ k => XS.iconst X_401.here hx rfl (hb hby at_193) k) ?_
    show Go p e below _ (T_401.setTop (mkF m 194 #[s0, s1, vI 3, vI c0, vI c1, vI c2, s6, s7, s8, s9, s10, s11, vR r1, vI 1, s14, s15] [(.int (2 : Int32)), (.ref r1)]))
    have cp402 := S_r1
    obtain ⟨t403, kb403, -, -, Ex403, Fv403, Fc403, Av403, hl403, hn403⟩ := cp402
    obtain ⟨v_404, T_404, L_404, X_404, hQ_404, st_404⟩ := goV X_401 hx hZ (y := Y_34) (z := Y_34) (kc := 0) (ks := 0) (QQ := fun v h' L => v = some (.int (rs.getD 2 0)) ∧ L = [] ∧ h' = h0) hown (wd_188 hw) (wd_189 hw) (notFace_of_selects (args := #[]) (mvT hZ (wd_191 hw))) (wd_191 hw) (wd_190 hw) (by decide) (StrChars.Road.chN (W := 0) hZ (sw_wordsChN hw) (kI := 4) (wd_5 hw) (i := 2) (j := (2 : Int32)) Ex403 Fv403 Fc403 Av403 (StrChars.Road.codOf rfl (fun c hc => (hl403 c hc).2)) (up255 hl403) (S_cs.ext hO.2) n_cs (S_fm.ext hO.2) r_fm hn403 (Nat.lt_of_lt_of_le (by decide) hle) rfl (by decide) (by decide)) e_401 Ex403 (g := (mkF m 194 #[s0, s1, vI 3, vI c0, vI c1, vI c2, s6, s7, s8, s9, s10, s11, vR r1, vI 1, s14, s15] [(.int (2 : Int32)), (.ref r1)])) rfl (by rw [hml]; rfl) (argsL := [(.int (2 : Int32))]) (rest := []) rfl (lenOf pd_28 rfl) rfl (by show 2 * 0 + _ ≤ _; exact Nat.le_of_eq rfl) (hb hby at_194) (by (try dsimp only); omega) (by (try dsimp only); omega)
    obtain ⟨rfl, rfl, e_404⟩ := hQ_404
    have N_404 := Fr.app N_401 (Fr.nil n0)
    refine Go.step st_404 ?_
    show Go p e below _ (T_404.setTop (mkF m 197 #[s0, s1, vI 3, vI c0, vI c1, vI c2, s6, s7, s8, s9, s10, s11, vR r1, vI 1, s14, s15] [(.int (rs.getD 2 0))]))
    refine Go.step (fun _ k => XS.iload X_404.here hx rfl (hb hby at_197) rfl  k) ?_
    show Go p e below _ (T_404.setTop (mkF m 199 #[s0, s1, vI 3, vI c0, vI c1, vI c2, s6, s7, s8, s9, s10, s11, vR r1, vI 1, s14, s15] [(.int c2), (.int (rs.getD 2 0))]))
    refine Go.step (fun _ k => XS.icmpNo X_404.here hx rfl (hb hby at_199) rfl (teq ((hd 2 (by decide)) : (rs.getD 2 0) = c2)).2 k) ?_
    show Go p e below _ (T_404.setTop (mkF m 202 #[s0, s1, vI 3, vI c0, vI c1, vI c2, s6, s7, s8, s9, s10, s11, vR r1, vI 1, s14, s15] []))
    refine Go.step (fun _ k => XS.iconst X_404.here hx rfl (hb hby at_202) k) ?_
    show Go p e below _ (T_404.setTop (mkF m 203 #[s0, s1, vI 3, vI c0, vI c1, vI c2, s6, s7, s8, s9, s10, s11, vR r1, vI 1, s14, s15] [(.int (1 : Int32))]))
    refine Go.step (fun _ k => XS.goto X_404.here hx rfl (pc0 := 203) (pc' := 207) rfl (hb hby at_203) (by decide) (by decide) k) ?_
    show Go p e below _ (T_404.setTop (mkF m 207 #[s0, s1, vI 3, vI c0, vI c1, vI c2, s6, s7, s8, s9, s10, s11, vR r1, vI 1, s14, s15] [(.int (1 : Int32))]))
    refine Go.step (fun _ k => XS.istore X_404.here hx rfl (hb hby at_207) rfl (l' := #[s0, s1, vI 3, vI c0, vI c1, vI c2, s6, s7, s8, s9, s10, s11, vR r1, vI 1, s14, s15]) rfl k) ?_
    show Go p e below _ (T_404.setTop (mkF m 209 #[s0, s1, vI 3, vI c0, vI c1, vI c2, s6, s7, s8, s9, s10, s11, vR r1, vI 1, s14, s15] []))
    exact hgo _ _ X_404 (by rw [e_404]; exact ⟨N_404, KP0⟩)
--@E
--@C mid
set_option maxRecDepth 65536 in
set_option maxHeartbeats 40000000 in
theorem sg_mid (l : Launch) (Z : State) (a0 : Array Value) (hw : ∀ d ∈ tables_1, d.before a0 Z = true) (zc : Int32) (vfm : Value) (s0 : Slot) (s1 : Slot) (s3 : Slot) (s4 : Slot) (s5 : Slot) (s6 : Slot) (s7 : Slot) (s8 : Slot) (s9 : Slot) (s10 : Slot) (s11 : Slot) (s15 : Slot) (n1 : Int32) (kn : Nat) (r1 : Addr) (rs : List Int32) (h0 : Heap) (n0 : Nat) (Z0 : n0 ≤ h0.size) (S_r1 : Str Z h0.size h0 r1 rs) (hkn : (n1 = Int32.ofNat kn)) (hm : (∀ j, j < 13 → rs.getD (kn + j) 0 = midl.getD j 0)) (hle : (kn + 13 ≤ rs.length)) (hSt : St Z zc vfm) (hO : Old Z n0 h0)
    {p : Program} {e : Env} {s : State} {m : MethodId} {args : Array Value} {below : List Frame} {meth : Method} {c : Code} {T : State} {locs : List Loc} {cells slots : Nat} {Qf : Outcome → State → Prop}
    (hx : p.tables.exec = Jvm.exec) (hby : c.code = code) (hml : c.maxLocals = maxLocals) (hZ : Z.Warmed39 s.vm) (hown : s.vm.findClass "com/example/lakehouse_catalog/lakehousecatalog/iceberg/IcebergRoutesEndpointPinLaw" = some m.cls) (X0 : Stand p l e room_1 s m args below meth c T locs cells slots) (e0 : T.heap = h0) (N0 : Fr n0 locs) (hc : cells + 0 ≤ room_1.cells) (hs : slots + 0 ≤ room_1.slots)
    (hgo : ∀ (T' : State) (L : List Loc), Stand p l e room_1 s m args below meth c T' L (cells + 0) (slots + 0) → (Fr n0 L ∧ Keep h0 T'.heap []) → Go p e below Qf (T'.setTop (mkF m 555 #[s0, s1, .val (.int n1), s3, s4, s5, s6, s7, s8, s9, s10, s11, .val (.ref r1), .val (.int (1 : Int32)), .val (.int n1), s15] []))) :
    Go p e below Qf (T.setTop (mkF m 209 #[s0, s1, .val (.int n1), s3, s4, s5, s6, s7, s8, s9, s10, s11, .val (.ref r1), .val (.int (1 : Int32)), .unset, s15] [])) := by
  have KP0 := Keep.refl h0 []
  have hSt_ := hSt
  obtain ⟨S_cs, n_cs, S_fm, r_fm⟩ := hSt_
  show Go p e below _ (T.setTop (mkF m 209 #[s0, s1, vI n1, s3, s4, s5, s6, s7, s8, s9, s10, s11, vR r1, vI 1, vU, s15] []))
  refine Go.step (fun _ k => XS.iloadN X0.here hx rfl (hb hby at_209) rfl  k) ?_
  show Go p e below _ (T.setTop (mkF m 210 #[s0, s1, vI n1, s3, s4, s5, s6, s7, s8, s9, s10, s11, vR r1, vI 1, vU, s15] [(.int n1)]))
  refine Go.step (fun _ k => XS.istore X0.here hx rfl (hb hby at_210) rfl (l' := #[s0, s1, vI n1, s3, s4, s5, s6, s7, s8, s9, s10, s11, vR r1, vI 1, vI n1, s15]) rfl k) ?_
  show Go p e below _ (T.setTop (mkF m 212 #[s0, s1, vI n1, s3, s4, s5, s6, s7, s8, s9, s10, s11, vR r1, vI 1, vI n1, s15] []))
  refine Go.step (fun _ k => XS.iload X0.here hx rfl (hb hby at_212) rfl  k) ?_
  show Go p e below _ (T.setTop (mkF m 214 #[s0, s1, vI n1, s3, s4, s5, s6, s7, s8, s9, s10, s11, vR r1, vI 1, vI n1, s15] [(.int (1 : Int32))]))
  refine Go.step (fun _ k => XS.ifNo X0.here hx rfl (hb hby at_214) rfl ((if0 _ _).trans (feq ((by decide) : ¬ ((1 : Int32) = (0 : Int32)))).1) k) ?_
  show Go p e below _ (T.setTop (mkF m 217 #[s0, s1, vI n1, s3, s4, s5, s6, s7, s8, s9, s10, s11, vR r1, vI 1, vI n1, s15] []))
  refine Go.step (fun _ k => XS.aload X0.here hx rfl (hb hby at_217) rfl rfl k) ?_
  refine Go.step (fun _ k => XS.iload X0.here hx rfl (hb hby at_219) rfl  k) ?_
  show Go p e below _ (T.setTop (mkF m 221 #[s0, s1, vI n1, s3, s4, s5, s6, s7, s8, s9, s10, s11, vR r1, vI 1, vI n1, s15] [(.int n1), (.ref r1)]))
  have cp405 := S_r1
  obtain ⟨t406, kb406, -, -, Ex406, Fv406, Fc406, Av406, hl406, hn406⟩ := cp405
  obtain ⟨v_407, T_407, L_407, X_407, hQ_407, st_407⟩ := goV X0 hx hZ (y := Y_34) (z := Y_34) (kc := 0) (ks := 0) (QQ := fun v h' L => v = some (.int (rs.getD (kn + 0) 0)) ∧ L = [] ∧ h' = h0) hown (wd_188 hw) (wd_189 hw) (notFace_of_selects (args := #[]) (mvT hZ (wd_191 hw))) (wd_191 hw) (wd_190 hw) (by decide) (StrChars.Road.chN (W := 0) hZ (sw_wordsChN hw) (kI := 4) (wd_5 hw) (i := (kn + 0)) (j := n1) Ex406 Fv406 Fc406 Av406 (StrChars.Road.codOf rfl (fun c hc => (hl406 c hc).2)) (up255 hl406) (S_cs.ext hO.2) n_cs (S_fm.ext hO.2) r_fm hn406 (by omega) hkn (by decide) (by decide)) e0 Ex406 (g := (mkF m 221 #[s0, s1, vI n1, s3, s4, s5, s6, s7, s8, s9, s10, s11, vR r1, vI 1, vI n1, s15] [(.int n1), (.ref r1)])) rfl (by rw [hml]; rfl) (argsL := [(.int n1)]) (rest := []) rfl (lenOf pd_28 rfl) rfl (by show 2 * 0 + _ ≤ _; exact Nat.le_of_eq rfl) (hb hby at_221) (by (try dsimp only); omega) (by (try dsimp only); omega)
  obtain ⟨rfl, rfl, e_407⟩ := hQ_407
  have N_407 := Fr.app N0 (Fr.nil n0)
  refine Go.step st_407 ?_
  show Go p e below _ (T_407.setTop (mkF m 224 #[s0, s1, vI n1, s3, s4, s5, s6, s7, s8, s9, s10, s11, vR r1, vI 1, vI n1, s15] [(.int (rs.getD (kn + 0) 0))]))
  refine Go.step (fun _ k => XS.bipush X_407.here hx rfl (hb hby at_224) k) ?_
  show Go p e below _ (T_407.setTop (mkF m 226 #[s0, s1, vI n1, s3, s4, s5, s6, s7, s8, s9, s10, s11, vR r1, vI 1, vI n1, s15] [(.int (32 : Int32)), (.int (rs.getD (kn + 0) 0))]))
  refine Go.step (fun _ k => XS.icmpNo X_407.here hx rfl (hb hby at_226) rfl (teq ((hm 0 (by decide)) : (rs.getD (kn + 0) 0) = (32 : Int32))).2 k) ?_
  show Go p e below _ (T_407.setTop (mkF m 229 #[s0, s1, vI n1, s3, s4, s5, s6, s7, s8, s9, s10, s11, vR r1, vI 1, vI n1, s15] []))
  refine Go.step (fun _ k => XS.iconst X_407.here hx rfl (hb hby at_229) k) ?_
  show Go p e below _ (T_407.setTop (mkF m 230 #[s0, s1, vI n1, s3, s4, s5, s6, s7, s8, s9, s10, s11, vR r1, vI 1, vI n1, s15] [(.int (1 : Int32))]))
  refine Go.step (fun _ k => XS.goto X_407.here hx rfl (pc0 := 230) (pc' := 234) rfl (hb hby at_230) (by decide) (by decide) k) ?_
  show Go p e below _ (T_407.setTop (mkF m 234 #[s0, s1, vI n1, s3, s4, s5, s6, s7, s8, s9, s10, s11, vR r1, vI 1, vI n1, s15] [(.int (1 : Int32))]))
  refine Go.step (fun _ k => XS.istore X_407.here hx rfl (hb hby at_234) rfl (l' := #[s0, s1, vI n1, s3, s4, s5, s6, s7, s8, s9, s10, s11, vR r1, vI 1, vI n1, s15]) rfl k) ?_
  show Go p e below _ (T_407.setTop (mkF m 236 #[s0, s1, vI n1, s3, s4, s5, s6, s7, s8, s9, s10, s11, vR r1, vI 1, vI n1, s15] []))
  refine Go.step (fun _ k => XS.iload X_407.here hx rfl (hb hby at_236) rfl  k) ?_
  show Go p e below _ (T_407.setTop (mkF m 238 #[s0, s1, vI n1, s3, s4, s5, s6, s7, s8, s9, s10, s11, vR r1, vI 1, vI n1, s15] [(.int (1 : Int32))]))
  refine Go.step (fun _ k => XS.ifNo X_407.here hx rfl (hb hby at_238) rfl ((if0 _ _).trans (feq ((by decide) : ¬ ((1 : Int32) = (0 : Int32)))).1) k) ?_
  show Go p e below _ (T_407.setTop (mkF m 241 #[s0, s1, vI n1, s3, s4, s5, s6, s7, s8, s9, s10, s11, vR r1, vI 1, vI n1, s15] []))
  refine Go.step (fun _ k => XS.aload X_407.here hx rfl (hb hby at_241) rfl rfl k) ?_
  refine Go.step (fun _ k => XS.iload X_407.here hx rfl (hb hby at_243) rfl  k) ?_
  refine Go.step (fun _ k => XS.iconst X_407.here hx rfl (hb hby at_245) k) ?_
  show Go p e below _ (T_407.setTop (mkF m 246 #[s0, s1, vI n1, s3, s4, s5, s6, s7, s8, s9, s10, s11, vR r1, vI 1, vI n1, s15] [(.int (1 : Int32)), (.int n1), (.ref r1)]))
  refine Go.step (fun _ k => XS.iadd X_407.here hx rfl (hb hby at_246) rfl k) ?_
  show Go p e below _ (T_407.setTop (mkF m 247 #[s0, s1, vI n1, s3, s4, s5, s6, s7, s8, s9, s10, s11, vR r1, vI 1, vI n1, s15] [(.int (n1 + (1 : Int32))), (.ref r1)]))
  have cp408 := S_r1
  obtain ⟨t409, kb409, -, -, Ex409, Fv409, Fc409, Av409, hl409, hn409⟩ := cp408
  obtain ⟨v_410, T_410, L_410, X_410, hQ_410, st_410⟩ := goV X_407 hx hZ (y := Y_34) (z := Y_34) (kc := 0) (ks := 0) (QQ := fun v h' L => v = some (.int (rs.getD (kn + 1) 0)) ∧ L = [] ∧ h' = h0) hown (wd_188 hw) (wd_189 hw) (notFace_of_selects (args := #[]) (mvT hZ (wd_191 hw))) (wd_191 hw) (wd_190 hw) (by decide) (StrChars.Road.chN (W := 0) hZ (sw_wordsChN hw) (kI := 4) (wd_5 hw) (i := (kn + 1)) (j := (n1 + (1 : Int32))) Ex409 Fv409 Fc409 Av409 (StrChars.Road.codOf rfl (fun c hc => (hl409 c hc).2)) (up255 hl409) (S_cs.ext hO.2) n_cs (S_fm.ext hO.2) r_fm hn409 (by omega) (by rw [hkn]; exact ofn_add kn 1) (by decide) (by decide)) e_407 Ex409 (g := (mkF m 247 #[s0, s1, vI n1, s3, s4, s5, s6, s7, s8, s9, s10, s11, vR r1, vI 1, vI n1, s15] [(.int (n1 + (1 : Int32))), (.ref r1)])) rfl (by rw [hml]; rfl) (argsL := [(.int (n1 + (1 : Int32)))]) (rest := []) rfl (lenOf pd_28 rfl) rfl (by show 2 * 0 + _ ≤ _; exact Nat.le_of_eq rfl) (hb hby at_247) (by (try dsimp only); omega) (by (try dsimp only); omega)
  obtain ⟨rfl, rfl, e_410⟩ := hQ_410
  have N_410 := Fr.app N_407 (Fr.nil n0)
  refine Go.step st_410 ?_
  show Go p e below _ (T_410.setTop (mkF m 250 #[s0, s1, vI n1, s3, s4, s5, s6, s7, s8, s9, s10, s11, vR r1, vI 1, vI n1, s15] [(.int (rs.getD (kn + 1) 0))]))
  refine Go.step (fun _ k => XS.bipush X_410.here hx rfl (hb hby at_250) k) ?_
  show Go p e below _ (T_410.setTop (mkF m 252 #[s0, s1, vI n1, s3, s4, s5, s6, s7, s8, s9, s10, s11, vR r1, vI 1, vI n1, s15] [(.int (47 : Int32)), (.int (rs.getD (kn + 1) 0))]))
  refine Go.step (fun _ k => XS.icmpNo X_410.here hx rfl (hb hby at_252) rfl (teq ((hm 1 (by decide)) : (rs.getD (kn + 1) 0) = (47 : Int32))).2 k) ?_
  show Go p e below _ (T_410.setTop (mkF m 255 #[s0, s1, vI n1, s3, s4, s5, s6, s7, s8, s9, s10, s11, vR r1, vI 1, vI n1, s15] []))
  refine Go.step (fun _ k => XS.iconst X_410.here hx rfl (hb hby at_255) k) ?_
  show Go p e below _ (T_410.setTop (mkF m 256 #[s0, s1, vI n1, s3, s4, s5, s6, s7, s8, s9, s10, s11, vR r1, vI 1, vI n1, s15] [(.int (1 : Int32))]))
  refine Go.step (fun _ k => XS.goto X_410.here hx rfl (pc0 := 256) (pc' := 260) rfl (hb hby at_256) (by decide) (by decide) k) ?_
  show Go p e below _ (T_410.setTop (mkF m 260 #[s0, s1, vI n1, s3, s4, s5, s6, s7, s8, s9, s10, s11, vR r1, vI 1, vI n1, s15] [(.int (1 : Int32))]))
  refine Go.step (fun _ k => XS.istore X_410.here hx rfl (hb hby at_260) rfl (l' := #[s0, s1, vI n1, s3, s4, s5, s6, s7, s8, s9, s10, s11, vR r1, vI 1, vI n1, s15]) rfl k) ?_
  show Go p e below _ (T_410.setTop (mkF m 262 #[s0, s1, vI n1, s3, s4, s5, s6, s7, s8, s9, s10, s11, vR r1, vI 1, vI n1, s15] []))
  refine Go.step (fun _ k => XS.iload X_410.here hx rfl (hb hby at_262) rfl  k) ?_
  show Go p e below _ (T_410.setTop (mkF m 264 #[s0, s1, vI n1, s3, s4, s5, s6, s7, s8, s9, s10, s11, vR r1, vI 1, vI n1, s15] [(.int (1 : Int32))]))
  refine Go.step (fun _ k => XS.ifNo X_410.here hx rfl (hb hby at_264) rfl ((if0 _ _).trans (feq ((by decide) : ¬ ((1 : Int32) = (0 : Int32)))).1) k) ?_
  show Go p e below _ (T_410.setTop (mkF m 267 #[s0, s1, vI n1, s3, s4, s5, s6, s7, s8, s9, s10, s11, vR r1, vI 1, vI n1, s15] []))
  refine Go.step (fun _ k => XS.aload X_410.here hx rfl (hb hby at_267) rfl rfl k) ?_
  refine Go.step (fun _ k => XS.iload X_410.here hx rfl (hb hby at_269) rfl  k) ?_
  refine Go.step (fun _ k => XS.iconst X_410.here hx rfl (hb hby at_271) k) ?_
  show Go p e below _ (T_410.setTop (mkF m 272 #[s0, s1, vI n1, s3, s4, s5, s6, s7, s8, s9, s10, s11, vR r1, vI 1, vI n1, s15] [(.int (2 : Int32)), (.int n1), (.ref r1)]))
  refine Go.step (fun _ k => XS.iadd X_410.here hx rfl (hb hby at_272) rfl k) ?_
  show Go p e below _ (T_410.setTop (mkF m 273 #[s0, s1, vI n1, s3, s4, s5, s6, s7, s8, s9, s10, s11, vR r1, vI 1, vI n1, s15] [(.int (n1 + (2 : Int32))), (.ref r1)]))
  have cp411 := S_r1
  obtain ⟨t412, kb412, -, -, Ex412, Fv412, Fc412, Av412, hl412, hn412⟩ := cp411
  obtain ⟨v_413, T_413, L_413, X_413, hQ_413, st_413⟩ := goV X_410 hx hZ (y := Y_34) (z := Y_34) (kc := 0) (ks := 0) (QQ := fun v h' L => v = some (.int (rs.getD (kn + 2) 0)) ∧ L = [] ∧ h' = h0) hown (wd_188 hw) (wd_189 hw) (notFace_of_selects (args := #[]) (mvT hZ (wd_191 hw))) (wd_191 hw) (wd_190 hw) (by decide) (StrChars.Road.chN (W := 0) hZ (sw_wordsChN hw) (kI := 4) (wd_5 hw) (i := (kn + 2)) (j := (n1 + (2 : Int32))) Ex412 Fv412 Fc412 Av412 (StrChars.Road.codOf rfl (fun c hc => (hl412 c hc).2)) (up255 hl412) (S_cs.ext hO.2) n_cs (S_fm.ext hO.2) r_fm hn412 (by omega) (by rw [hkn]; exact ofn_add kn 2) (by decide) (by decide)) e_410 Ex412 (g := (mkF m 273 #[s0, s1, vI n1, s3, s4, s5, s6, s7, s8, s9, s10, s11, vR r1, vI 1, vI n1, s15] [(.int (n1 + (2 : Int32))), (.ref r1)])) rfl (by rw [hml]; rfl) (argsL := [(.int (n1 + (2 : Int32)))]) (rest := []) rfl (lenOf pd_28 rfl) rfl (by show 2 * 0 + _ ≤ _; exact Nat.le_of_eq rfl) (hb hby at_273) (by (try dsimp only); omega) (by (try dsimp only); omega)
  obtain ⟨rfl, rfl, e_413⟩ := hQ_413
  have N_413 := Fr.app N_410 (Fr.nil n0)
  refine Go.step st_413 ?_
  show Go p e below _ (T_413.setTop (mkF m 276 #[s0, s1, vI n1, s3, s4, s5, s6, s7, s8, s9, s10, s11, vR r1, vI 1, vI n1, s15] [(.int (rs.getD (kn + 2) 0))]))
  refine Go.step (fun _ k => XS.bipush X_413.here hx rfl (hb hby at_276) k) ?_
  show Go p e below _ (T_413.setTop (mkF m 278 #[s0, s1, vI n1, s3, s4, s5, s6, s7, s8, s9, s10, s11, vR r1, vI 1, vI n1, s15] [(.int (118 : Int32)), (.int (rs.getD (kn + 2) 0))]))
  refine Go.step (fun _ k => XS.icmpNo X_413.here hx rfl (hb hby at_278) rfl (teq ((hm 2 (by decide)) : (rs.getD (kn + 2) 0) = (118 : Int32))).2 k) ?_
  show Go p e below _ (T_413.setTop (mkF m 281 #[s0, s1, vI n1, s3, s4, s5, s6, s7, s8, s9, s10, s11, vR r1, vI 1, vI n1, s15] []))
  refine Go.step (fun _ k => XS.iconst X_413.here hx rfl (hb hby at_281) k) ?_
  show Go p e below _ (T_413.setTop (mkF m 282 #[s0, s1, vI n1, s3, s4, s5, s6, s7, s8, s9, s10, s11, vR r1, vI 1, vI n1, s15] [(.int (1 : Int32))]))
  refine Go.step (fun _ k => XS.goto X_413.here hx rfl (pc0 := 282) (pc' := 286) rfl (hb hby at_282) (by decide) (by decide) k) ?_
  show Go p e below _ (T_413.setTop (mkF m 286 #[s0, s1, vI n1, s3, s4, s5, s6, s7, s8, s9, s10, s11, vR r1, vI 1, vI n1, s15] [(.int (1 : Int32))]))
  refine Go.step (fun _ k => XS.istore X_413.here hx rfl (hb hby at_286) rfl (l' := #[s0, s1, vI n1, s3, s4, s5, s6, s7, s8, s9, s10, s11, vR r1, vI 1, vI n1, s15]) rfl k) ?_
  show Go p e below _ (T_413.setTop (mkF m 288 #[s0, s1, vI n1, s3, s4, s5, s6, s7, s8, s9, s10, s11, vR r1, vI 1, vI n1, s15] []))
  refine Go.step (fun _ k => XS.iload X_413.here hx rfl (hb hby at_288) rfl  k) ?_
  show Go p e below _ (T_413.setTop (mkF m 290 #[s0, s1, vI n1, s3, s4, s5, s6, s7, s8, s9, s10, s11, vR r1, vI 1, vI n1, s15] [(.int (1 : Int32))]))
  refine Go.step (fun _ k => XS.ifNo X_413.here hx rfl (hb hby at_290) rfl ((if0 _ _).trans (feq ((by decide) : ¬ ((1 : Int32) = (0 : Int32)))).1) k) ?_
  show Go p e below _ (T_413.setTop (mkF m 293 #[s0, s1, vI n1, s3, s4, s5, s6, s7, s8, s9, s10, s11, vR r1, vI 1, vI n1, s15] []))
  refine Go.step (fun _ k => XS.aload X_413.here hx rfl (hb hby at_293) rfl rfl k) ?_
  refine Go.step (fun _ k => XS.iload X_413.here hx rfl (hb hby at_295) rfl  k) ?_
  refine Go.step (fun _ k => XS.iconst X_413.here hx rfl (hb hby at_297) k) ?_
  show Go p e below _ (T_413.setTop (mkF m 298 #[s0, s1, vI n1, s3, s4, s5, s6, s7, s8, s9, s10, s11, vR r1, vI 1, vI n1, s15] [(.int (3 : Int32)), (.int n1), (.ref r1)]))
  refine Go.step (fun _ k => XS.iadd X_413.here hx rfl (hb hby at_298) rfl k) ?_
  show Go p e below _ (T_413.setTop (mkF m 299 #[s0, s1, vI n1, s3, s4, s5, s6, s7, s8, s9, s10, s11, vR r1, vI 1, vI n1, s15] [(.int (n1 + (3 : Int32))), (.ref r1)]))
  have cp414 := S_r1
  obtain ⟨t415, kb415, -, -, Ex415, Fv415, Fc415, Av415, hl415, hn415⟩ := cp414
  obtain ⟨v_416, T_416, L_416, X_416, hQ_416, st_416⟩ := goV X_413 hx hZ (y := Y_34) (z := Y_34) (kc := 0) (ks := 0) (QQ := fun v h' L => v = some (.int (rs.getD (kn + 3) 0)) ∧ L = [] ∧ h' = h0) hown (wd_188 hw) (wd_189 hw) (notFace_of_selects (args := #[]) (mvT hZ (wd_191 hw))) (wd_191 hw) (wd_190 hw) (by decide) (StrChars.Road.chN (W := 0) hZ (sw_wordsChN hw) (kI := 4) (wd_5 hw) (i := (kn + 3)) (j := (n1 + (3 : Int32))) Ex415 Fv415 Fc415 Av415 (StrChars.Road.codOf rfl (fun c hc => (hl415 c hc).2)) (up255 hl415) (S_cs.ext hO.2) n_cs (S_fm.ext hO.2) r_fm hn415 (by omega) (by rw [hkn]; exact ofn_add kn 3) (by decide) (by decide)) e_413 Ex415 (g := (mkF m 299 #[s0, s1, vI n1, s3, s4, s5, s6, s7, s8, s9, s10, s11, vR r1, vI 1, vI n1, s15] [(.int (n1 + (3 : Int32))), (.ref r1)])) rfl (by rw [hml]; rfl) (argsL := [(.int (n1 + (3 : Int32)))]) (rest := []) rfl (lenOf pd_28 rfl) rfl (by show 2 * 0 + _ ≤ _; exact Nat.le_of_eq rfl) (hb hby at_299) (by (try dsimp only); omega) (by (try dsimp only); omega)
  obtain ⟨rfl, rfl, e_416⟩ := hQ_416
  have N_416 := Fr.app N_413 (Fr.nil n0)
  refine Go.step st_416 ?_
  show Go p e below _ (T_416.setTop (mkF m 302 #[s0, s1, vI n1, s3, s4, s5, s6, s7, s8, s9, s10, s11, vR r1, vI 1, vI n1, s15] [(.int (rs.getD (kn + 3) 0))]))
  refine Go.step (fun _ k => XS.bipush X_416.here hx rfl (hb hby at_302) k) ?_
  show Go p e below _ (T_416.setTop (mkF m 304 #[s0, s1, vI n1, s3, s4, s5, s6, s7, s8, s9, s10, s11, vR r1, vI 1, vI n1, s15] [(.int (49 : Int32)), (.int (rs.getD (kn + 3) 0))]))
  refine Go.step (fun _ k => XS.icmpNo X_416.here hx rfl (hb hby at_304) rfl (teq ((hm 3 (by decide)) : (rs.getD (kn + 3) 0) = (49 : Int32))).2 k) ?_
  show Go p e below _ (T_416.setTop (mkF m 307 #[s0, s1, vI n1, s3, s4, s5, s6, s7, s8, s9, s10, s11, vR r1, vI 1, vI n1, s15] []))
  refine Go.step (fun _ k => XS.iconst X_416.here hx rfl (hb hby at_307) k) ?_
  show Go p e below _ (T_416.setTop (mkF m 308 #[s0, s1, vI n1, s3, s4, s5, s6, s7, s8, s9, s10, s11, vR r1, vI 1, vI n1, s15] [(.int (1 : Int32))]))
  refine Go.step (fun _ k => XS.goto X_416.here hx rfl (pc0 := 308) (pc' := 312) rfl (hb hby at_308) (by decide) (by decide) k) ?_
  show Go p e below _ (T_416.setTop (mkF m 312 #[s0, s1, vI n1, s3, s4, s5, s6, s7, s8, s9, s10, s11, vR r1, vI 1, vI n1, s15] [(.int (1 : Int32))]))
  refine Go.step (fun _ k => XS.istore X_416.here hx rfl (hb hby at_312) rfl (l' := #[s0, s1, vI n1, s3, s4, s5, s6, s7, s8, s9, s10, s11, vR r1, vI 1, vI n1, s15]) rfl k) ?_
  show Go p e below _ (T_416.setTop (mkF m 314 #[s0, s1, vI n1, s3, s4, s5, s6, s7, s8, s9, s10, s11, vR r1, vI 1, vI n1, s15] []))
  refine Go.step (fun _ k => XS.iload X_416.here hx rfl (hb hby at_314) rfl  k) ?_
  show Go p e below _ (T_416.setTop (mkF m 316 #[s0, s1, vI n1, s3, s4, s5, s6, s7, s8, s9, s10, s11, vR r1, vI 1, vI n1, s15] [(.int (1 : Int32))]))
  refine Go.step (fun _ k => XS.ifNo X_416.here hx rfl (hb hby at_316) rfl ((if0 _ _).trans (feq ((by decide) : ¬ ((1 : Int32) = (0 : Int32)))).1) k) ?_
  show Go p e below _ (T_416.setTop (mkF m 319 #[s0, s1, vI n1, s3, s4, s5, s6, s7, s8, s9, s10, s11, vR r1, vI 1, vI n1, s15] []))
  refine Go.step (fun _ k => XS.aload X_416.here hx rfl (hb hby at_319) rfl rfl k) ?_
  refine Go.step (fun _ k => XS.iload X_416.here hx rfl (hb hby at_321) rfl  k) ?_
  refine Go.step (fun _ k => XS.iconst X_416.here hx rfl (hb hby at_323) k) ?_
  show Go p e below _ (T_416.setTop (mkF m 324 #[s0, s1, vI n1, s3, s4, s5, s6, s7, s8, s9, s10, s11, vR r1, vI 1, vI n1, s15] [(.int (4 : Int32)), (.int n1), (.ref r1)]))
  refine Go.step (fun _ k => XS.iadd X_416.here hx rfl (hb hby at_324) rfl k) ?_
  show Go p e below _ (T_416.setTop (mkF m 325 #[s0, s1, vI n1, s3, s4, s5, s6, s7, s8, s9, s10, s11, vR r1, vI 1, vI n1, s15] [(.int (n1 + (4 : Int32))), (.ref r1)]))
  have cp417 := S_r1
  obtain ⟨t418, kb418, -, -, Ex418, Fv418, Fc418, Av418, hl418, hn418⟩ := cp417
  obtain ⟨v_419, T_419, L_419, X_419, hQ_419, st_419⟩ := goV X_416 hx hZ (y := Y_34) (z := Y_34) (kc := 0) (ks := 0) (QQ := fun v h' L => v = some (.int (rs.getD (kn + 4) 0)) ∧ L = [] ∧ h' = h0) hown (wd_188 hw) (wd_189 hw) (notFace_of_selects (args := #[]) (mvT hZ (wd_191 hw))) (wd_191 hw) (wd_190 hw) (by decide) (StrChars.Road.chN (W := 0) hZ (sw_wordsChN hw) (kI := 4) (wd_5 hw) (i := (kn + 4)) (j := (n1 + (4 : Int32))) Ex418 Fv418 Fc418 Av418 (StrChars.Road.codOf rfl (fun c hc => (hl418 c hc).2)) (up255 hl418) (S_cs.ext hO.2) n_cs (S_fm.ext hO.2) r_fm hn418 (by omega) (by rw [hkn]; exact ofn_add kn 4) (by decide) (by decide)) e_416 Ex418 (g := (mkF m 325 #[s0, s1, vI n1, s3, s4, s5, s6, s7, s8, s9, s10, s11, vR r1, vI 1, vI n1, s15] [(.int (n1 + (4 : Int32))), (.ref r1)])) rfl (by rw [hml]; rfl) (argsL := [(.int (n1 + (4 : Int32)))]) (rest := []) rfl (lenOf pd_28 rfl) rfl (by show 2 * 0 + _ ≤ _; exact Nat.le_of_eq rfl) (hb hby at_325) (by (try dsimp only); omega) (by (try dsimp only); omega)
  obtain ⟨rfl, rfl, e_419⟩ := hQ_419
  have N_419 := Fr.app N_416 (Fr.nil n0)
  refine Go.step st_419 ?_
  show Go p e below _ (T_419.setTop (mkF m 328 #[s0, s1, vI n1, s3, s4, s5, s6, s7, s8, s9, s10, s11, vR r1, vI 1, vI n1, s15] [(.int (rs.getD (kn + 4) 0))]))
  refine Go.step (fun _ k => XS.bipush X_419.here hx rfl (hb hby at_328) k) ?_
  show Go p e below _ (T_419.setTop (mkF m 330 #[s0, s1, vI n1, s3, s4, s5, s6, s7, s8, s9, s10, s11, vR r1, vI 1, vI n1, s15] [(.int (47 : Int32)), (.int (rs.getD (kn + 4) 0))]))
  refine Go.step (fun _ k => XS.icmpNo X_419.here hx rfl (hb hby at_330) rfl (teq ((hm 4 (by decide)) : (rs.getD (kn + 4) 0) = (47 : Int32))).2 k) ?_
  show Go p e below _ (T_419.setTop (mkF m 333 #[s0, s1, vI n1, s3, s4, s5, s6, s7, s8, s9, s10, s11, vR r1, vI 1, vI n1, s15] []))
  refine Go.step (fun _ k => XS.iconst X_419.here hx rfl (hb hby at_333) k) ?_
  show Go p e below _ (T_419.setTop (mkF m 334 #[s0, s1, vI n1, s3, s4, s5, s6, s7, s8, s9, s10, s11, vR r1, vI 1, vI n1, s15] [(.int (1 : Int32))]))
  refine Go.step (fun _ k => XS.goto X_419.here hx rfl (pc0 := 334) (pc' := 338) rfl (hb hby at_334) (by decide) (by decide) k) ?_
  show Go p e below _ (T_419.setTop (mkF m 338 #[s0, s1, vI n1, s3, s4, s5, s6, s7, s8, s9, s10, s11, vR r1, vI 1, vI n1, s15] [(.int (1 : Int32))]))
  refine Go.step (fun _ k => XS.istore X_419.here hx rfl (hb hby at_338) rfl (l' := #[s0, s1, vI n1, s3, s4, s5, s6, s7, s8, s9, s10, s11, vR r1, vI 1, vI n1, s15]) rfl k) ?_
  show Go p e below _ (T_419.setTop (mkF m 340 #[s0, s1, vI n1, s3, s4, s5, s6, s7, s8, s9, s10, s11, vR r1, vI 1, vI n1, s15] []))
  refine Go.step (fun _ k => XS.iload X_419.here hx rfl (hb hby at_340) rfl  k) ?_
  show Go p e below _ (T_419.setTop (mkF m 342 #[s0, s1, vI n1, s3, s4, s5, s6, s7, s8, s9, s10, s11, vR r1, vI 1, vI n1, s15] [(.int (1 : Int32))]))
  refine Go.step (fun _ k => XS.ifNo X_419.here hx rfl (hb hby at_342) rfl ((if0 _ _).trans (feq ((by decide) : ¬ ((1 : Int32) = (0 : Int32)))).1) k) ?_
  show Go p e below _ (T_419.setTop (mkF m 345 #[s0, s1, vI n1, s3, s4, s5, s6, s7, s8, s9, s10, s11, vR r1, vI 1, vI n1, s15] []))
  refine Go.step (fun _ k => XS.aload X_419.here hx rfl (hb hby at_345) rfl rfl k) ?_
  refine Go.step (fun _ k => XS.iload X_419.here hx rfl (hb hby at_347) rfl  k) ?_
  refine Go.step (fun _ k => XS.iconst X_419.here hx rfl (hb hby at_349) k) ?_
  show Go p e below _ (T_419.setTop (mkF m 350 #[s0, s1, vI n1, s3, s4, s5, s6, s7, s8, s9, s10, s11, vR r1, vI 1, vI n1, s15] [(.int (5 : Int32)), (.int n1), (.ref r1)]))
  refine Go.step (fun _ k => XS.iadd X_419.here hx rfl (hb hby at_350) rfl k) ?_
  show Go p e below _ (T_419.setTop (mkF m 351 #[s0, s1, vI n1, s3, s4, s5, s6, s7, s8, s9, s10, s11, vR r1, vI 1, vI n1, s15] [(.int (n1 + (5 : Int32))), (.ref r1)]))
  have cp420 := S_r1
  obtain ⟨t421, kb421, -, -, Ex421, Fv421, Fc421, Av421, hl421, hn421⟩ := cp420
  obtain ⟨v_422, T_422, L_422, X_422, hQ_422, st_422⟩ := goV X_419 hx hZ (y := Y_34) (z := Y_34) (kc := 0) (ks := 0) (QQ := fun v h' L => v = some (.int (rs.getD (kn + 5) 0)) ∧ L = [] ∧ h' = h0) hown (wd_188 hw) (wd_189 hw) (notFace_of_selects (args := #[]) (mvT hZ (wd_191 hw))) (wd_191 hw) (wd_190 hw) (by decide) (StrChars.Road.chN (W := 0) hZ (sw_wordsChN hw) (kI := 4) (wd_5 hw) (i := (kn + 5)) (j := (n1 + (5 : Int32))) Ex421 Fv421 Fc421 Av421 (StrChars.Road.codOf rfl (fun c hc => (hl421 c hc).2)) (up255 hl421) (S_cs.ext hO.2) n_cs (S_fm.ext hO.2) r_fm hn421 (by omega) (by rw [hkn]; exact ofn_add kn 5) (by decide) (by decide)) e_419 Ex421 (g := (mkF m 351 #[s0, s1, vI n1, s3, s4, s5, s6, s7, s8, s9, s10, s11, vR r1, vI 1, vI n1, s15] [(.int (n1 + (5 : Int32))), (.ref r1)])) rfl (by rw [hml]; rfl) (argsL := [(.int (n1 + (5 : Int32)))]) (rest := []) rfl (lenOf pd_28 rfl) rfl (by show 2 * 0 + _ ≤ _; exact Nat.le_of_eq rfl) (hb hby at_351) (by (try dsimp only); omega) (by (try dsimp only); omega)
  obtain ⟨rfl, rfl, e_422⟩ := hQ_422
  have N_422 := Fr.app N_419 (Fr.nil n0)
  refine Go.step st_422 ?_
  show Go p e below _ (T_422.setTop (mkF m 354 #[s0, s1, vI n1, s3, s4, s5, s6, s7, s8, s9, s10, s11, vR r1, vI 1, vI n1, s15] [(.int (rs.getD (kn + 5) 0))]))
  refine Go.step (fun _ k => XS.bipush X_422.here hx rfl (hb hby at_354) k) ?_
  show Go p e below _ (T_422.setTop (mkF m 356 #[s0, s1, vI n1, s3, s4, s5, s6, s7, s8, s9, s10, s11, vR r1, vI 1, vI n1, s15] [(.int (123 : Int32)), (.int (rs.getD (kn + 5) 0))]))
  refine Go.step (fun _ k => XS.icmpNo X_422.here hx rfl (hb hby at_356) rfl (teq ((hm 5 (by decide)) : (rs.getD (kn + 5) 0) = (123 : Int32))).2 k) ?_
  show Go p e below _ (T_422.setTop (mkF m 359 #[s0, s1, vI n1, s3, s4, s5, s6, s7, s8, s9, s10, s11, vR r1, vI 1, vI n1, s15] []))
  refine Go.step (fun _ k => XS.iconst X_422.here hx rfl (hb hby at_359) k) ?_
  show Go p e below _ (T_422.setTop (mkF m 360 #[s0, s1, vI n1, s3, s4, s5, s6, s7, s8, s9, s10, s11, vR r1, vI 1, vI n1, s15] [(.int (1 : Int32))]))
  refine Go.step (fun _ k => XS.goto X_422.here hx rfl (pc0 := 360) (pc' := 364) rfl (hb hby at_360) (by decide) (by decide) k) ?_
  show Go p e below _ (T_422.setTop (mkF m 364 #[s0, s1, vI n1, s3, s4, s5, s6, s7, s8, s9, s10, s11, vR r1, vI 1, vI n1, s15] [(.int (1 : Int32))]))
  refine Go.step (fun _ k => XS.istore X_422.here hx rfl (hb hby at_364) rfl (l' := #[s0, s1, vI n1, s3, s4, s5, s6, s7, s8, s9, s10, s11, vR r1, vI 1, vI n1, s15]) rfl k) ?_
  show Go p e below _ (T_422.setTop (mkF m 366 #[s0, s1, vI n1, s3, s4, s5, s6, s7, s8, s9, s10, s11, vR r1, vI 1, vI n1, s15] []))
  refine Go.step (fun _ k => XS.iload X_422.here hx rfl (hb hby at_366) rfl  k) ?_
  show Go p e below _ (T_422.setTop (mkF m 368 #[s0, s1, vI n1, s3, s4, s5, s6, s7, s8, s9, s10, s11, vR r1, vI 1, vI n1, s15] [(.int (1 : Int32))]))
  refine Go.step (fun _ k => XS.ifNo X_422.here hx rfl (hb hby at_368) rfl ((if0 _ _).trans (feq ((by decide) : ¬ ((1 : Int32) = (0 : Int32)))).1) k) ?_
  show Go p e below _ (T_422.setTop (mkF m 371 #[s0, s1, vI n1, s3, s4, s5, s6, s7, s8, s9, s10, s11, vR r1, vI 1, vI n1, s15] []))
  refine Go.step (fun _ k => XS.aload X_422.here hx rfl (hb hby at_371) rfl rfl k) ?_
  refine Go.step (fun _ k => XS.iload X_422.here hx rfl (hb hby at_373) rfl  k) ?_
  refine Go.step (fun _ k => XS.bipush X_422.here hx rfl (hb hby at_375) k) ?_
  show Go p e below _ (T_422.setTop (mkF m 377 #[s0, s1, vI n1, s3, s4, s5, s6, s7, s8, s9, s10, s11, vR r1, vI 1, vI n1, s15] [(.int (6 : Int32)), (.int n1), (.ref r1)]))
  refine Go.step (fun _ k => XS.iadd X_422.here hx rfl (hb hby at_377) rfl k) ?_
  show Go p e below _ (T_422.setTop (mkF m 378 #[s0, s1, vI n1, s3, s4, s5, s6, s7, s8, s9, s10, s11, vR r1, vI 1, vI n1, s15] [(.int (n1 + (6 : Int32))), (.ref r1)]))
  have cp423 := S_r1
  obtain ⟨t424, kb424, -, -, Ex424, Fv424, Fc424, Av424, hl424, hn424⟩ := cp423
  obtain ⟨v_425, T_425, L_425, X_425, hQ_425, st_425⟩ := goV X_422 hx hZ (y := Y_34) (z := Y_34) (kc := 0) (ks := 0) (QQ := fun v h' L => v = some (.int (rs.getD (kn + 6) 0)) ∧ L = [] ∧ h' = h0) hown (wd_188 hw) (wd_189 hw) (notFace_of_selects (args := #[]) (mvT hZ (wd_191 hw))) (wd_191 hw) (wd_190 hw) (by decide) (StrChars.Road.chN (W := 0) hZ (sw_wordsChN hw) (kI := 4) (wd_5 hw) (i := (kn + 6)) (j := (n1 + (6 : Int32))) Ex424 Fv424 Fc424 Av424 (StrChars.Road.codOf rfl (fun c hc => (hl424 c hc).2)) (up255 hl424) (S_cs.ext hO.2) n_cs (S_fm.ext hO.2) r_fm hn424 (by omega) (by rw [hkn]; exact ofn_add kn 6) (by decide) (by decide)) e_422 Ex424 (g := (mkF m 378 #[s0, s1, vI n1, s3, s4, s5, s6, s7, s8, s9, s10, s11, vR r1, vI 1, vI n1, s15] [(.int (n1 + (6 : Int32))), (.ref r1)])) rfl (by rw [hml]; rfl) (argsL := [(.int (n1 + (6 : Int32)))]) (rest := []) rfl (lenOf pd_28 rfl) rfl (by show 2 * 0 + _ ≤ _; exact Nat.le_of_eq rfl) (hb hby at_378) (by (try dsimp only); omega) (by (try dsimp only); omega)
  obtain ⟨rfl, rfl, e_425⟩ := hQ_425
  have N_425 := Fr.app N_422 (Fr.nil n0)
  refine Go.step st_425 ?_
  show Go p e below _ (T_425.setTop (mkF m 381 #[s0, s1, vI n1, s3, s4, s5, s6, s7, s8, s9, s10, s11, vR r1, vI 1, vI n1, s15] [(.int (rs.getD (kn + 6) 0))]))
  refine Go.step (fun _ k => XS.bipush X_425.here hx rfl (hb hby at_381) k) ?_
  show Go p e below _ (T_425.setTop (mkF m 383 #[s0, s1, vI n1, s3, s4, s5, s6, s7, s8, s9, s10, s11, vR r1, vI 1, vI n1, s15] [(.int (112 : Int32)), (.int (rs.getD (kn + 6) 0))]))
  refine Go.step (fun _ k => XS.icmpNo X_425.here hx rfl (hb hby at_383) rfl (teq ((hm 6 (by decide)) : (rs.getD (kn + 6) 0) = (112 : Int32))).2 k) ?_
  show Go p e below _ (T_425.setTop (mkF m 386 #[s0, s1, vI n1, s3, s4, s5, s6, s7, s8, s9, s10, s11, vR r1, vI 1, vI n1, s15] []))
  refine Go.step (fun _ k => XS.iconst X_425.here hx rfl (hb hby at_386) k) ?_
  show Go p e below _ (T_425.setTop (mkF m 387 #[s0, s1, vI n1, s3, s4, s5, s6, s7, s8, s9, s10, s11, vR r1, vI 1, vI n1, s15] [(.int (1 : Int32))]))
  refine Go.step (fun _ k => XS.goto X_425.here hx rfl (pc0 := 387) (pc' := 391) rfl (hb hby at_387) (by decide) (by decide) k) ?_
  show Go p e below _ (T_425.setTop (mkF m 391 #[s0, s1, vI n1, s3, s4, s5, s6, s7, s8, s9, s10, s11, vR r1, vI 1, vI n1, s15] [(.int (1 : Int32))]))
  refine Go.step (fun _ k => XS.istore X_425.here hx rfl (hb hby at_391) rfl (l' := #[s0, s1, vI n1, s3, s4, s5, s6, s7, s8, s9, s10, s11, vR r1, vI 1, vI n1, s15]) rfl k) ?_
  show Go p e below _ (T_425.setTop (mkF m 393 #[s0, s1, vI n1, s3, s4, s5, s6, s7, s8, s9, s10, s11, vR r1, vI 1, vI n1, s15] []))
  refine Go.step (fun _ k => XS.iload X_425.here hx rfl (hb hby at_393) rfl  k) ?_
  show Go p e below _ (T_425.setTop (mkF m 395 #[s0, s1, vI n1, s3, s4, s5, s6, s7, s8, s9, s10, s11, vR r1, vI 1, vI n1, s15] [(.int (1 : Int32))]))
  refine Go.step (fun _ k => XS.ifNo X_425.here hx rfl (hb hby at_395) rfl ((if0 _ _).trans (feq ((by decide) : ¬ ((1 : Int32) = (0 : Int32)))).1) k) ?_
  show Go p e below _ (T_425.setTop (mkF m 398 #[s0, s1, vI n1, s3, s4, s5, s6, s7, s8, s9, s10, s11, vR r1, vI 1, vI n1, s15] []))
  refine Go.step (fun _ k => XS.aload X_425.here hx rfl (hb hby at_398) rfl rfl k) ?_
  refine Go.step (fun _ k => XS.iload X_425.here hx rfl (hb hby at_400) rfl  k) ?_
  refine Go.step (fun _ k => XS.bipush X_425.here hx rfl (hb hby at_402) k) ?_
  show Go p e below _ (T_425.setTop (mkF m 404 #[s0, s1, vI n1, s3, s4, s5, s6, s7, s8, s9, s10, s11, vR r1, vI 1, vI n1, s15] [(.int (7 : Int32)), (.int n1), (.ref r1)]))
  refine Go.step (fun _ k => XS.iadd X_425.here hx rfl (hb hby at_404) rfl k) ?_
  show Go p e below _ (T_425.setTop (mkF m 405 #[s0, s1, vI n1, s3, s4, s5, s6, s7, s8, s9, s10, s11, vR r1, vI 1, vI n1, s15] [(.int (n1 + (7 : Int32))), (.ref r1)]))
  have cp426 := S_r1
  obtain ⟨t427, kb427, -, -, Ex427, Fv427, Fc427, Av427, hl427, hn427⟩ := cp426
  obtain ⟨v_428, T_428, L_428, X_428, hQ_428, st_428⟩ := goV X_425 hx hZ (y := Y_34) (z := Y_34) (kc := 0) (ks := 0) (QQ := fun v h' L => v = some (.int (rs.getD (kn + 7) 0)) ∧ L = [] ∧ h' = h0) hown (wd_188 hw) (wd_189 hw) (notFace_of_selects (args := #[]) (mvT hZ (wd_191 hw))) (wd_191 hw) (wd_190 hw) (by decide) (StrChars.Road.chN (W := 0) hZ (sw_wordsChN hw) (kI := 4) (wd_5 hw) (i := (kn + 7)) (j := (n1 + (7 : Int32))) Ex427 Fv427 Fc427 Av427 (StrChars.Road.codOf rfl (fun c hc => (hl427 c hc).2)) (up255 hl427) (S_cs.ext hO.2) n_cs (S_fm.ext hO.2) r_fm hn427 (by omega) (by rw [hkn]; exact ofn_add kn 7) (by decide) (by decide)) e_425 Ex427 (g := (mkF m 405 #[s0, s1, vI n1, s3, s4, s5, s6, s7, s8, s9, s10, s11, vR r1, vI 1, vI n1, s15] [(.int (n1 + (7 : Int32))), (.ref r1)])) rfl (by rw [hml]; rfl) (argsL := [(.int (n1 + (7 : Int32)))]) (rest := []) rfl (lenOf pd_28 rfl) rfl (by show 2 * 0 + _ ≤ _; exact Nat.le_of_eq rfl) (hb hby at_405) (by (try dsimp only); omega) (by (try dsimp only); omega)
  obtain ⟨rfl, rfl, e_428⟩ := hQ_428
  have N_428 := Fr.app N_425 (Fr.nil n0)
  refine Go.step st_428 ?_
  show Go p e below _ (T_428.setTop (mkF m 408 #[s0, s1, vI n1, s3, s4, s5, s6, s7, s8, s9, s10, s11, vR r1, vI 1, vI n1, s15] [(.int (rs.getD (kn + 7) 0))]))
  refine Go.step (fun _ k => XS.bipush X_428.here hx rfl (hb hby at_408) k) ?_
  show Go p e below _ (T_428.setTop (mkF m 410 #[s0, s1, vI n1, s3, s4, s5, s6, s7, s8, s9, s10, s11, vR r1, vI 1, vI n1, s15] [(.int (114 : Int32)), (.int (rs.getD (kn + 7) 0))]))
  refine Go.step (fun _ k => XS.icmpNo X_428.here hx rfl (hb hby at_410) rfl (teq ((hm 7 (by decide)) : (rs.getD (kn + 7) 0) = (114 : Int32))).2 k) ?_
  show Go p e below _ (T_428.setTop (mkF m 413 #[s0, s1, vI n1, s3, s4, s5, s6, s7, s8, s9, s10, s11, vR r1, vI 1, vI n1, s15] []))
  refine Go.step (fun _ k => XS.iconst X_428.here hx rfl (hb hby at_413) k) ?_
  show Go p e below _ (T_428.setTop (mkF m 414 #[s0, s1, vI n1, s3, s4, s5, s6, s7, s8, s9, s10, s11, vR r1, vI 1, vI n1, s15] [(.int (1 : Int32))]))
  refine Go.step (fun _ k => XS.goto X_428.here hx rfl (pc0 := 414) (pc' := 418) rfl (hb hby at_414) (by decide) (by decide) k) ?_
  show Go p e below _ (T_428.setTop (mkF m 418 #[s0, s1, vI n1, s3, s4, s5, s6, s7, s8, s9, s10, s11, vR r1, vI 1, vI n1, s15] [(.int (1 : Int32))]))
  refine Go.step (fun _ k => XS.istore X_428.here hx rfl (hb hby at_418) rfl (l' := #[s0, s1, vI n1, s3, s4, s5, s6, s7, s8, s9, s10, s11, vR r1, vI 1, vI n1, s15]) rfl k) ?_
  show Go p e below _ (T_428.setTop (mkF m 420 #[s0, s1, vI n1, s3, s4, s5, s6, s7, s8, s9, s10, s11, vR r1, vI 1, vI n1, s15] []))
  refine Go.step (fun _ k => XS.iload X_428.here hx rfl (hb hby at_420) rfl  k) ?_
  show Go p e below _ (T_428.setTop (mkF m 422 #[s0, s1, vI n1, s3, s4, s5, s6, s7, s8, s9, s10, s11, vR r1, vI 1, vI n1, s15] [(.int (1 : Int32))]))
  refine Go.step (fun _ k => XS.ifNo X_428.here hx rfl (hb hby at_422) rfl ((if0 _ _).trans (feq ((by decide) : ¬ ((1 : Int32) = (0 : Int32)))).1) k) ?_
  show Go p e below _ (T_428.setTop (mkF m 425 #[s0, s1, vI n1, s3, s4, s5, s6, s7, s8, s9, s10, s11, vR r1, vI 1, vI n1, s15] []))
  refine Go.step (fun _ k => XS.aload X_428.here hx rfl (hb hby at_425) rfl rfl k) ?_
  refine Go.step (fun _ k => XS.iload X_428.here hx rfl (hb hby at_427) rfl  k) ?_
  refine Go.step (fun _ k => XS.bipush X_428.here hx rfl (hb hby at_429) k) ?_
  show Go p e below _ (T_428.setTop (mkF m 431 #[s0, s1, vI n1, s3, s4, s5, s6, s7, s8, s9, s10, s11, vR r1, vI 1, vI n1, s15] [(.int (8 : Int32)), (.int n1), (.ref r1)]))
  refine Go.step (fun _ k => XS.iadd X_428.here hx rfl (hb hby at_431) rfl k) ?_
  show Go p e below _ (T_428.setTop (mkF m 432 #[s0, s1, vI n1, s3, s4, s5, s6, s7, s8, s9, s10, s11, vR r1, vI 1, vI n1, s15] [(.int (n1 + (8 : Int32))), (.ref r1)]))
  have cp429 := S_r1
  obtain ⟨t430, kb430, -, -, Ex430, Fv430, Fc430, Av430, hl430, hn430⟩ := cp429
  obtain ⟨v_431, T_431, L_431, X_431, hQ_431, st_431⟩ := goV X_428 hx hZ (y := Y_34) (z := Y_34) (kc := 0) (ks := 0) (QQ := fun v h' L => v = some (.int (rs.getD (kn + 8) 0)) ∧ L = [] ∧ h' = h0) hown (wd_188 hw) (wd_189 hw) (notFace_of_selects (args := #[]) (mvT hZ (wd_191 hw))) (wd_191 hw) (wd_190 hw) (by decide) (StrChars.Road.chN (W := 0) hZ (sw_wordsChN hw) (kI := 4) (wd_5 hw) (i := (kn + 8)) (j := (n1 + (8 : Int32))) Ex430 Fv430 Fc430 Av430 (StrChars.Road.codOf rfl (fun c hc => (hl430 c hc).2)) (up255 hl430) (S_cs.ext hO.2) n_cs (S_fm.ext hO.2) r_fm hn430 (by omega) (by rw [hkn]; exact ofn_add kn 8) (by decide) (by decide)) e_428 Ex430 (g := (mkF m 432 #[s0, s1, vI n1, s3, s4, s5, s6, s7, s8, s9, s10, s11, vR r1, vI 1, vI n1, s15] [(.int (n1 + (8 : Int32))), (.ref r1)])) rfl (by rw [hml]; rfl) (argsL := [(.int (n1 + (8 : Int32)))]) (rest := []) rfl (lenOf pd_28 rfl) rfl (by show 2 * 0 + _ ≤ _; exact Nat.le_of_eq rfl) (hb hby at_432) (by (try dsimp only); omega) (by (try dsimp only); omega)
  obtain ⟨rfl, rfl, e_431⟩ := hQ_431
  have N_431 := Fr.app N_428 (Fr.nil n0)
  refine Go.step st_431 ?_
  show Go p e below _ (T_431.setTop (mkF m 435 #[s0, s1, vI n1, s3, s4, s5, s6, s7, s8, s9, s10, s11, vR r1, vI 1, vI n1, s15] [(.int (rs.getD (kn + 8) 0))]))
  refine Go.step (fun _ k => XS.bipush X_431.here hx rfl (hb hby at_435) k) ?_
  show Go p e below _ (T_431.setTop (mkF m 437 #[s0, s1, vI n1, s3, s4, s5, s6, s7, s8, s9, s10, s11, vR r1, vI 1, vI n1, s15] [(.int (101 : Int32)), (.int (rs.getD (kn + 8) 0))]))
  refine Go.step (fun _ k => XS.icmpNo X_431.here hx rfl (hb hby at_437) rfl (teq ((hm 8 (by decide)) : (rs.getD (kn + 8) 0) = (101 : Int32))).2 k) ?_
  show Go p e below _ (T_431.setTop (mkF m 440 #[s0, s1, vI n1, s3, s4, s5, s6, s7, s8, s9, s10, s11, vR r1, vI 1, vI n1, s15] []))
  refine Go.step (fun _ k => XS.iconst X_431.here hx rfl (hb hby at_440) k) ?_
  show Go p e below _ (T_431.setTop (mkF m 441 #[s0, s1, vI n1, s3, s4, s5, s6, s7, s8, s9, s10, s11, vR r1, vI 1, vI n1, s15] [(.int (1 : Int32))]))
  refine Go.step (fun _ k => XS.goto X_431.here hx rfl (pc0 := 441) (pc' := 445) rfl (hb hby at_441) (by decide) (by decide) k) ?_
  show Go p e below _ (T_431.setTop (mkF m 445 #[s0, s1, vI n1, s3, s4, s5, s6, s7, s8, s9, s10, s11, vR r1, vI 1, vI n1, s15] [(.int (1 : Int32))]))
  refine Go.step (fun _ k => XS.istore X_431.here hx rfl (hb hby at_445) rfl (l' := #[s0, s1, vI n1, s3, s4, s5, s6, s7, s8, s9, s10, s11, vR r1, vI 1, vI n1, s15]) rfl k) ?_
  show Go p e below _ (T_431.setTop (mkF m 447 #[s0, s1, vI n1, s3, s4, s5, s6, s7, s8, s9, s10, s11, vR r1, vI 1, vI n1, s15] []))
  refine Go.step (fun _ k => XS.iload X_431.here hx rfl (hb hby at_447) rfl  k) ?_
  show Go p e below _ (T_431.setTop (mkF m 449 #[s0, s1, vI n1, s3, s4, s5, s6, s7, s8, s9, s10, s11, vR r1, vI 1, vI n1, s15] [(.int (1 : Int32))]))
  refine Go.step (fun _ k => XS.ifNo X_431.here hx rfl (hb hby at_449) rfl ((if0 _ _).trans (feq ((by decide) : ¬ ((1 : Int32) = (0 : Int32)))).1) k) ?_
  show Go p e below _ (T_431.setTop (mkF m 452 #[s0, s1, vI n1, s3, s4, s5, s6, s7, s8, s9, s10, s11, vR r1, vI 1, vI n1, s15] []))
  refine Go.step (fun _ k => XS.aload X_431.here hx rfl (hb hby at_452) rfl rfl k) ?_
  refine Go.step (fun _ k => XS.iload X_431.here hx rfl (hb hby at_454) rfl  k) ?_
  refine Go.step (fun _ k => XS.bipush X_431.here hx rfl (hb hby at_456) k) ?_
  show Go p e below _ (T_431.setTop (mkF m 458 #[s0, s1, vI n1, s3, s4, s5, s6, s7, s8, s9, s10, s11, vR r1, vI 1, vI n1, s15] [(.int (9 : Int32)), (.int n1), (.ref r1)]))
  refine Go.step (fun _ k => XS.iadd X_431.here hx rfl (hb hby at_458) rfl k) ?_
  show Go p e below _ (T_431.setTop (mkF m 459 #[s0, s1, vI n1, s3, s4, s5, s6, s7, s8, s9, s10, s11, vR r1, vI 1, vI n1, s15] [(.int (n1 + (9 : Int32))), (.ref r1)]))
  have cp432 := S_r1
  obtain ⟨t433, kb433, -, -, Ex433, Fv433, Fc433, Av433, hl433, hn433⟩ := cp432
  obtain ⟨v_434, T_434, L_434, X_434, hQ_434, st_434⟩ := goV X_431 hx hZ (y := Y_34) (z := Y_34) (kc := 0) (ks := 0) (QQ := fun v h' L => v = some (.int (rs.getD (kn + 9) 0)) ∧ L = [] ∧ h' = h0) hown (wd_188 hw) (wd_189 hw) (notFace_of_selects (args := #[]) (mvT hZ (wd_191 hw))) (wd_191 hw) (wd_190 hw) (by decide) (StrChars.Road.chN (W := 0) hZ (sw_wordsChN hw) (kI := 4) (wd_5 hw) (i := (kn + 9)) (j := (n1 + (9 : Int32))) Ex433 Fv433 Fc433 Av433 (StrChars.Road.codOf rfl (fun c hc => (hl433 c hc).2)) (up255 hl433) (S_cs.ext hO.2) n_cs (S_fm.ext hO.2) r_fm hn433 (by omega) (by rw [hkn]; exact ofn_add kn 9) (by decide) (by decide)) e_431 Ex433 (g := (mkF m 459 #[s0, s1, vI n1, s3, s4, s5, s6, s7, s8, s9, s10, s11, vR r1, vI 1, vI n1, s15] [(.int (n1 + (9 : Int32))), (.ref r1)])) rfl (by rw [hml]; rfl) (argsL := [(.int (n1 + (9 : Int32)))]) (rest := []) rfl (lenOf pd_28 rfl) rfl (by show 2 * 0 + _ ≤ _; exact Nat.le_of_eq rfl) (hb hby at_459) (by (try dsimp only); omega) (by (try dsimp only); omega)
  obtain ⟨rfl, rfl, e_434⟩ := hQ_434
  have N_434 := Fr.app N_431 (Fr.nil n0)
  refine Go.step st_434 ?_
  show Go p e below _ (T_434.setTop (mkF m 462 #[s0, s1, vI n1, s3, s4, s5, s6, s7, s8, s9, s10, s11, vR r1, vI 1, vI n1, s15] [(.int (rs.getD (kn + 9) 0))]))
  refine Go.step (fun _ k => XS.bipush X_434.here hx rfl (hb hby at_462) k) ?_
  show Go p e below _ (T_434.setTop (mkF m 464 #[s0, s1, vI n1, s3, s4, s5, s6, s7, s8, s9, s10, s11, vR r1, vI 1, vI n1, s15] [(.int (102 : Int32)), (.int (rs.getD (kn + 9) 0))]))
  refine Go.step (fun _ k => XS.icmpNo X_434.here hx rfl (hb hby at_464) rfl (teq ((hm 9 (by decide)) : (rs.getD (kn + 9) 0) = (102 : Int32))).2 k) ?_
  show Go p e below _ (T_434.setTop (mkF m 467 #[s0, s1, vI n1, s3, s4, s5, s6, s7, s8, s9, s10, s11, vR r1, vI 1, vI n1, s15] []))
  refine Go.step (fun _ k => XS.iconst X_434.here hx rfl (hb hby at_467) k) ?_
  show Go p e below _ (T_434.setTop (mkF m 468 #[s0, s1, vI n1, s3, s4, s5, s6, s7, s8, s9, s10, s11, vR r1, vI 1, vI n1, s15] [(.int (1 : Int32))]))
  refine Go.step (fun _ k => XS.goto X_434.here hx rfl (pc0 := 468) (pc' := 472) rfl (hb hby at_468) (by decide) (by decide) k) ?_
  show Go p e below _ (T_434.setTop (mkF m 472 #[s0, s1, vI n1, s3, s4, s5, s6, s7, s8, s9, s10, s11, vR r1, vI 1, vI n1, s15] [(.int (1 : Int32))]))
  refine Go.step (fun _ k => XS.istore X_434.here hx rfl (hb hby at_472) rfl (l' := #[s0, s1, vI n1, s3, s4, s5, s6, s7, s8, s9, s10, s11, vR r1, vI 1, vI n1, s15]) rfl k) ?_
  show Go p e below _ (T_434.setTop (mkF m 474 #[s0, s1, vI n1, s3, s4, s5, s6, s7, s8, s9, s10, s11, vR r1, vI 1, vI n1, s15] []))
  refine Go.step (fun _ k => XS.iload X_434.here hx rfl (hb hby at_474) rfl  k) ?_
  show Go p e below _ (T_434.setTop (mkF m 476 #[s0, s1, vI n1, s3, s4, s5, s6, s7, s8, s9, s10, s11, vR r1, vI 1, vI n1, s15] [(.int (1 : Int32))]))
  refine Go.step (fun _ k => XS.ifNo X_434.here hx rfl (hb hby at_476) rfl ((if0 _ _).trans (feq ((by decide) : ¬ ((1 : Int32) = (0 : Int32)))).1) k) ?_
  show Go p e below _ (T_434.setTop (mkF m 479 #[s0, s1, vI n1, s3, s4, s5, s6, s7, s8, s9, s10, s11, vR r1, vI 1, vI n1, s15] []))
  refine Go.step (fun _ k => XS.aload X_434.here hx rfl (hb hby at_479) rfl rfl k) ?_
  refine Go.step (fun _ k => XS.iload X_434.here hx rfl (hb hby at_481) rfl  k) ?_
  refine Go.step (fun _ k => XS.bipush X_434.here hx rfl (hb hby at_483) k) ?_
  show Go p e below _ (T_434.setTop (mkF m 485 #[s0, s1, vI n1, s3, s4, s5, s6, s7, s8, s9, s10, s11, vR r1, vI 1, vI n1, s15] [(.int (10 : Int32)), (.int n1), (.ref r1)]))
  refine Go.step (fun _ k => XS.iadd X_434.here hx rfl (hb hby at_485) rfl k) ?_
  show Go p e below _ (T_434.setTop (mkF m 486 #[s0, s1, vI n1, s3, s4, s5, s6, s7, s8, s9, s10, s11, vR r1, vI 1, vI n1, s15] [(.int (n1 + (10 : Int32))), (.ref r1)]))
  have cp435 := S_r1
  obtain ⟨t436, kb436, -, -, Ex436, Fv436, Fc436, Av436, hl436, hn436⟩ := cp435
  obtain ⟨v_437, T_437, L_437, X_437, hQ_437, st_437⟩ := goV X_434 hx hZ (y := Y_34) (z := Y_34) (kc := 0) (ks := 0) (QQ := fun v h' L => v = some (.int (rs.getD (kn + 10) 0)) ∧ L = [] ∧ h' = h0) hown (wd_188 hw) (wd_189 hw) (notFace_of_selects (args := #[]) (mvT hZ (wd_191 hw))) (wd_191 hw) (wd_190 hw) (by decide) (StrChars.Road.chN (W := 0) hZ (sw_wordsChN hw) (kI := 4) (wd_5 hw) (i := (kn + 10)) (j := (n1 + (10 : Int32))) Ex436 Fv436 Fc436 Av436 (StrChars.Road.codOf rfl (fun c hc => (hl436 c hc).2)) (up255 hl436) (S_cs.ext hO.2) n_cs (S_fm.ext hO.2) r_fm hn436 (by omega) (by rw [hkn]; exact ofn_add kn 10) (by decide) (by decide)) e_434 Ex436 (g := (mkF m 486 #[s0, s1, vI n1, s3, s4, s5, s6, s7, s8, s9, s10, s11, vR r1, vI 1, vI n1, s15] [(.int (n1 + (10 : Int32))), (.ref r1)])) rfl (by rw [hml]; rfl) (argsL := [(.int (n1 + (10 : Int32)))]) (rest := []) rfl (lenOf pd_28 rfl) rfl (by show 2 * 0 + _ ≤ _; exact Nat.le_of_eq rfl) (hb hby at_486) (by (try dsimp only); omega) (by (try dsimp only); omega)
  obtain ⟨rfl, rfl, e_437⟩ := hQ_437
  have N_437 := Fr.app N_434 (Fr.nil n0)
  refine Go.step st_437 ?_
  show Go p e below _ (T_437.setTop (mkF m 489 #[s0, s1, vI n1, s3, s4, s5, s6, s7, s8, s9, s10, s11, vR r1, vI 1, vI n1, s15] [(.int (rs.getD (kn + 10) 0))]))
  refine Go.step (fun _ k => XS.bipush X_437.here hx rfl (hb hby at_489) k) ?_
  show Go p e below _ (T_437.setTop (mkF m 491 #[s0, s1, vI n1, s3, s4, s5, s6, s7, s8, s9, s10, s11, vR r1, vI 1, vI n1, s15] [(.int (105 : Int32)), (.int (rs.getD (kn + 10) 0))]))
  refine Go.step (fun _ k => XS.icmpNo X_437.here hx rfl (hb hby at_491) rfl (teq ((hm 10 (by decide)) : (rs.getD (kn + 10) 0) = (105 : Int32))).2 k) ?_
  show Go p e below _ (T_437.setTop (mkF m 494 #[s0, s1, vI n1, s3, s4, s5, s6, s7, s8, s9, s10, s11, vR r1, vI 1, vI n1, s15] []))
  refine Go.step (fun _ k => XS.iconst X_437.here hx rfl (hb hby at_494) k) ?_
  show Go p e below _ (T_437.setTop (mkF m 495 #[s0, s1, vI n1, s3, s4, s5, s6, s7, s8, s9, s10, s11, vR r1, vI 1, vI n1, s15] [(.int (1 : Int32))]))
  refine Go.step (fun _ k => XS.goto X_437.here hx rfl (pc0 := 495) (pc' := 499) rfl (hb hby at_495) (by decide) (by decide) k) ?_
  show Go p e below _ (T_437.setTop (mkF m 499 #[s0, s1, vI n1, s3, s4, s5, s6, s7, s8, s9, s10, s11, vR r1, vI 1, vI n1, s15] [(.int (1 : Int32))]))
  refine Go.step (fun _ k => XS.istore X_437.here hx rfl (hb hby at_499) rfl (l' := #[s0, s1, vI n1, s3, s4, s5, s6, s7, s8, s9, s10, s11, vR r1, vI 1, vI n1, s15]) rfl k) ?_
  show Go p e below _ (T_437.setTop (mkF m 501 #[s0, s1, vI n1, s3, s4, s5, s6, s7, s8, s9, s10, s11, vR r1, vI 1, vI n1, s15] []))
  refine Go.step (fun _ k => XS.iload X_437.here hx rfl (hb hby at_501) rfl  k) ?_
  show Go p e below _ (T_437.setTop (mkF m 503 #[s0, s1, vI n1, s3, s4, s5, s6, s7, s8, s9, s10, s11, vR r1, vI 1, vI n1, s15] [(.int (1 : Int32))]))
  refine Go.step (fun _ k => XS.ifNo X_437.here hx rfl (hb hby at_503) rfl ((if0 _ _).trans (feq ((by decide) : ¬ ((1 : Int32) = (0 : Int32)))).1) k) ?_
  show Go p e below _ (T_437.setTop (mkF m 506 #[s0, s1, vI n1, s3, s4, s5, s6, s7, s8, s9, s10, s11, vR r1, vI 1, vI n1, s15] []))
  refine Go.step (fun _ k => XS.aload X_437.here hx rfl (hb hby at_506) rfl rfl k) ?_
  refine Go.step (fun _ k => XS.iload X_437.here hx rfl (hb hby at_508) rfl  k) ?_
  refine Go.step (fun _ k => XS.bipush X_437.here hx rfl (hb hby at_510) k) ?_
  show Go p e below _ (T_437.setTop (mkF m 512 #[s0, s1, vI n1, s3, s4, s5, s6, s7, s8, s9, s10, s11, vR r1, vI 1, vI n1, s15] [(.int (11 : Int32)), (.int n1), (.ref r1)]))
  refine Go.step (fun _ k => XS.iadd X_437.here hx rfl (hb hby at_512) rfl k) ?_
  show Go p e below _ (T_437.setTop (mkF m 513 #[s0, s1, vI n1, s3, s4, s5, s6, s7, s8, s9, s10, s11, vR r1, vI 1, vI n1, s15] [(.int (n1 + (11 : Int32))), (.ref r1)]))
  have cp438 := S_r1
  obtain ⟨t439, kb439, -, -, Ex439, Fv439, Fc439, Av439, hl439, hn439⟩ := cp438
  obtain ⟨v_440, T_440, L_440, X_440, hQ_440, st_440⟩ := goV X_437 hx hZ (y := Y_34) (z := Y_34) (kc := 0) (ks := 0) (QQ := fun v h' L => v = some (.int (rs.getD (kn + 11) 0)) ∧ L = [] ∧ h' = h0) hown (wd_188 hw) (wd_189 hw) (notFace_of_selects (args := #[]) (mvT hZ (wd_191 hw))) (wd_191 hw) (wd_190 hw) (by decide) (StrChars.Road.chN (W := 0) hZ (sw_wordsChN hw) (kI := 4) (wd_5 hw) (i := (kn + 11)) (j := (n1 + (11 : Int32))) Ex439 Fv439 Fc439 Av439 (StrChars.Road.codOf rfl (fun c hc => (hl439 c hc).2)) (up255 hl439) (S_cs.ext hO.2) n_cs (S_fm.ext hO.2) r_fm hn439 (by omega) (by rw [hkn]; exact ofn_add kn 11) (by decide) (by decide)) e_437 Ex439 (g := (mkF m 513 #[s0, s1, vI n1, s3, s4, s5, s6, s7, s8, s9, s10, s11, vR r1, vI 1, vI n1, s15] [(.int (n1 + (11 : Int32))), (.ref r1)])) rfl (by rw [hml]; rfl) (argsL := [(.int (n1 + (11 : Int32)))]) (rest := []) rfl (lenOf pd_28 rfl) rfl (by show 2 * 0 + _ ≤ _; exact Nat.le_of_eq rfl) (hb hby at_513) (by (try dsimp only); omega) (by (try dsimp only); omega)
  obtain ⟨rfl, rfl, e_440⟩ := hQ_440
  have N_440 := Fr.app N_437 (Fr.nil n0)
  refine Go.step st_440 ?_
  show Go p e below _ (T_440.setTop (mkF m 516 #[s0, s1, vI n1, s3, s4, s5, s6, s7, s8, s9, s10, s11, vR r1, vI 1, vI n1, s15] [(.int (rs.getD (kn + 11) 0))]))
  refine Go.step (fun _ k => XS.bipush X_440.here hx rfl (hb hby at_516) k) ?_
  show Go p e below _ (T_440.setTop (mkF m 518 #[s0, s1, vI n1, s3, s4, s5, s6, s7, s8, s9, s10, s11, vR r1, vI 1, vI n1, s15] [(.int (120 : Int32)), (.int (rs.getD (kn + 11) 0))]))
  refine Go.step (fun _ k => XS.icmpNo X_440.here hx rfl (hb hby at_518) rfl (teq ((hm 11 (by decide)) : (rs.getD (kn + 11) 0) = (120 : Int32))).2 k) ?_
  show Go p e below _ (T_440.setTop (mkF m 521 #[s0, s1, vI n1, s3, s4, s5, s6, s7, s8, s9, s10, s11, vR r1, vI 1, vI n1, s15] []))
  refine Go.step (fun _ k => XS.iconst X_440.here hx rfl (hb hby at_521) k) ?_
  show Go p e below _ (T_440.setTop (mkF m 522 #[s0, s1, vI n1, s3, s4, s5, s6, s7, s8, s9, s10, s11, vR r1, vI 1, vI n1, s15] [(.int (1 : Int32))]))
  refine Go.step (fun _ k => XS.goto X_440.here hx rfl (pc0 := 522) (pc' := 526) rfl (hb hby at_522) (by decide) (by decide) k) ?_
  show Go p e below _ (T_440.setTop (mkF m 526 #[s0, s1, vI n1, s3, s4, s5, s6, s7, s8, s9, s10, s11, vR r1, vI 1, vI n1, s15] [(.int (1 : Int32))]))
  refine Go.step (fun _ k => XS.istore X_440.here hx rfl (hb hby at_526) rfl (l' := #[s0, s1, vI n1, s3, s4, s5, s6, s7, s8, s9, s10, s11, vR r1, vI 1, vI n1, s15]) rfl k) ?_
  show Go p e below _ (T_440.setTop (mkF m 528 #[s0, s1, vI n1, s3, s4, s5, s6, s7, s8, s9, s10, s11, vR r1, vI 1, vI n1, s15] []))
  refine Go.step (fun _ k => XS.iload X_440.here hx rfl (hb hby at_528) rfl  k) ?_
  show Go p e below _ (T_440.setTop (mkF m 530 #[s0, s1, vI n1, s3, s4, s5, s6, s7, s8, s9, s10, s11, vR r1, vI 1, vI n1, s15] [(.int (1 : Int32))]))
  refine Go.step (fun _ k => XS.ifNo X_440.here hx rfl (hb hby at_530) rfl ((if0 _ _).trans (feq ((by decide) : ¬ ((1 : Int32) = (0 : Int32)))).1) k) ?_
  show Go p e below _ (T_440.setTop (mkF m 533 #[s0, s1, vI n1, s3, s4, s5, s6, s7, s8, s9, s10, s11, vR r1, vI 1, vI n1, s15] []))
  refine Go.step (fun _ k => XS.aload X_440.here hx rfl (hb hby at_533) rfl rfl k) ?_
  refine Go.step (fun _ k => XS.iload X_440.here hx rfl (hb hby at_535) rfl  k) ?_
  refine Go.step (fun _ k => XS.bipush X_440.here hx rfl (hb hby at_537) k) ?_
  show Go p e below _ (T_440.setTop (mkF m 539 #[s0, s1, vI n1, s3, s4, s5, s6, s7, s8, s9, s10, s11, vR r1, vI 1, vI n1, s15] [(.int (12 : Int32)), (.int n1), (.ref r1)]))
  refine Go.step (fun _ k => XS.iadd X_440.here hx rfl (hb hby at_539) rfl k) ?_
  show Go p e below _ (T_440.setTop (mkF m 540 #[s0, s1, vI n1, s3, s4, s5, s6, s7, s8, s9, s10, s11, vR r1, vI 1, vI n1, s15] [(.int (n1 + (12 : Int32))), (.ref r1)]))
  have cp441 := S_r1
  obtain ⟨t442, kb442, -, -, Ex442, Fv442, Fc442, Av442, hl442, hn442⟩ := cp441
  obtain ⟨v_443, T_443, L_443, X_443, hQ_443, st_443⟩ := goV X_440 hx hZ (y := Y_34) (z := Y_34) (kc := 0) (ks := 0) (QQ := fun v h' L => v = some (.int (rs.getD (kn + 12) 0)) ∧ L = [] ∧ h' = h0) hown (wd_188 hw) (wd_189 hw) (notFace_of_selects (args := #[]) (mvT hZ (wd_191 hw))) (wd_191 hw) (wd_190 hw) (by decide) (StrChars.Road.chN (W := 0) hZ (sw_wordsChN hw) (kI := 4) (wd_5 hw) (i := (kn + 12)) (j := (n1 + (12 : Int32))) Ex442 Fv442 Fc442 Av442 (StrChars.Road.codOf rfl (fun c hc => (hl442 c hc).2)) (up255 hl442) (S_cs.ext hO.2) n_cs (S_fm.ext hO.2) r_fm hn442 (by omega) (by rw [hkn]; exact ofn_add kn 12) (by decide) (by decide)) e_440 Ex442 (g := (mkF m 540 #[s0, s1, vI n1, s3, s4, s5, s6, s7, s8, s9, s10, s11, vR r1, vI 1, vI n1, s15] [(.int (n1 + (12 : Int32))), (.ref r1)])) rfl (by rw [hml]; rfl) (argsL := [(.int (n1 + (12 : Int32)))]) (rest := []) rfl (lenOf pd_28 rfl) rfl (by show 2 * 0 + _ ≤ _; exact Nat.le_of_eq rfl) (hb hby at_540) (by (try dsimp only); omega) (by (try dsimp only); omega)
  obtain ⟨rfl, rfl, e_443⟩ := hQ_443
  have N_443 := Fr.app N_440 (Fr.nil n0)
  refine Go.step st_443 ?_
  show Go p e below _ (T_443.setTop (mkF m 543 #[s0, s1, vI n1, s3, s4, s5, s6, s7, s8, s9, s10, s11, vR r1, vI 1, vI n1, s15] [(.int (rs.getD (kn + 12) 0))]))
  refine Go.step (fun _ k => XS.bipush X_443.here hx rfl (hb hby at_543) k) ?_
  show Go p e below _ (T_443.setTop (mkF m 545 #[s0, s1, vI n1, s3, s4, s5, s6, s7, s8, s9, s10, s11, vR r1, vI 1, vI n1, s15] [(.int (125 : Int32)), (.int (rs.getD (kn + 12) 0))]))
  refine Go.step (fun _ k => XS.icmpNo X_443.here hx rfl (hb hby at_545) rfl (teq ((hm 12 (by decide)) : (rs.getD (kn + 12) 0) = (125 : Int32))).2 k) ?_
  show Go p e below _ (T_443.setTop (mkF m 548 #[s0, s1, vI n1, s3, s4, s5, s6, s7, s8, s9, s10, s11, vR r1, vI 1, vI n1, s15] []))
  refine Go.step (fun _ k => XS.iconst X_443.here hx rfl (hb hby at_548) k) ?_
  show Go p e below _ (T_443.setTop (mkF m 549 #[s0, s1, vI n1, s3, s4, s5, s6, s7, s8, s9, s10, s11, vR r1, vI 1, vI n1, s15] [(.int (1 : Int32))]))
  refine Go.step (fun _ k => XS.goto X_443.here hx rfl (pc0 := 549) (pc' := 553) rfl (hb hby at_549) (by decide) (by decide) k) ?_
  show Go p e below _ (T_443.setTop (mkF m 553 #[s0, s1, vI n1, s3, s4, s5, s6, s7, s8, s9, s10, s11, vR r1, vI 1, vI n1, s15] [(.int (1 : Int32))]))
  refine Go.step (fun _ k => XS.istore X_443.here hx rfl (hb hby at_553) rfl (l' := #[s0, s1, vI n1, s3, s4, s5, s6, s7, s8, s9, s10, s11, vR r1, vI 1, vI n1, s15]) rfl k) ?_
  show Go p e below _ (T_443.setTop (mkF m 555 #[s0, s1, vI n1, s3, s4, s5, s6, s7, s8, s9, s10, s11, vR r1, vI 1, vI n1, s15] []))
  exact hgo _ _ X_443 (by rw [e_443]; exact ⟨N_443, KP0⟩)
--@E
--@C tail
set_option maxRecDepth 65536 in
set_option maxHeartbeats 40000000 in
theorem tg_tail (l : Launch) (Z : State) (a0 : Array Value) (hw : ∀ d ∈ tables_1, d.before a0 Z = true) (zc : Int32) (vfm : Value) (s0 : Slot) (s1 : Slot) (s3 : Slot) (s4 : Slot) (s5 : Slot) (s10 : Slot) (s11 : Slot) (s14 : Slot) (n1 : Int32) (t1 : Int32) (c0 : Int32) (c1 : Int32) (c2 : Int32) (kn : Nat) (r1 : Addr) (rs : List Int32) (h0 : Heap) (n0 : Nat) (Z0 : n0 ≤ h0.size) (S_r1 : Str Z h0.size h0 r1 rs) (hkn : (n1 = Int32.ofNat kn)) (ht1 : (t1 = 0 ∨ t1 = 1 ∨ t1 = 2 ∨ t1 = 3)) (htl : (∀ i, i < t1.toNatClampNeg → rs.getD (kn + 13 + i) 0 = ([c0, c1, c2] : List Int32).getD i 0)) (hle : (kn + 13 + t1.toNatClampNeg ≤ rs.length)) (hSt : St Z zc vfm) (hO : Old Z n0 h0)
    {p : Program} {e : Env} {s : State} {m : MethodId} {args : Array Value} {below : List Frame} {meth : Method} {c : Code} {T : State} {locs : List Loc} {cells slots : Nat} {vm0 : Vm} {k0 : Nat} {hb0 : Heap}
    (hx : p.tables.exec = Jvm.exec) (hby : c.code = code) (hml : c.maxLocals = maxLocals) (hret : meth.sig.returnType = some .boolean) (hlk : meth.locks = false) (hZ : Z.Warmed39 vm0) (hown : vm0.findClass "com/example/lakehouse_catalog/lakehousecatalog/iceberg/IcebergRoutesEndpointPinLaw" = some m.cls) (X0 : Stand p l e room_1 (s.setVm vm0) m args below meth c T locs cells slots) (e0 : T.heap = h0) (N0 : Fr n0 locs) (hS0 : s.Since vm0 k0) (hk0 : k0 ≤ h0.size) (CV0 : CHv Z EL vm0 h0) (CR0 : CHr Z EL s.vm hb0 vm0 h0) (hh0 : s.heap = hb0) (hc : cells + 0 ≤ room_1.cells) (hs : slots + 0 ≤ room_1.slots) :
    Go p e below (QW Z EL s room_1 (fun v _ L => v = some (.int (1 : Int32)) ∧ Fr n0 L)) (T.setTop (mkF m 555 #[s0, s1, .val (.int n1), s3, s4, s5, .val (.int t1), .val (.int c0), .val (.int c1), .val (.int c2), s10, s11, .val (.ref r1), .val (.int (1 : Int32)), s14, .unset] [])) := by
  have hEL := hEL_ (a0 := a0) hw
  have hwS := hwS_ hw
  have KP0 := Keep.refl h0 []
  have hSt_ := hSt
  obtain ⟨S_cs, n_cs, S_fm, r_fm⟩ := hSt_
  show Go p e below _ (T.setTop (mkF m 555 #[s0, s1, vI n1, s3, s4, s5, vI t1, vI c0, vI c1, vI c2, s10, s11, vR r1, vI 1, s14, vU] []))
  refine Go.step (fun _ k => XS.iloadN X0.here hx rfl (hb hby at_555) rfl  k) ?_
  refine Go.step (fun _ k => XS.bipush X0.here hx rfl (hb hby at_556) k) ?_
  show Go p e below _ (T.setTop (mkF m 558 #[s0, s1, vI n1, s3, s4, s5, vI t1, vI c0, vI c1, vI c2, s10, s11, vR r1, vI 1, s14, vU] [(.int (13 : Int32)), (.int n1)]))
  refine Go.step (fun _ k => XS.iadd X0.here hx rfl (hb hby at_558) rfl k) ?_
  show Go p e below _ (T.setTop (mkF m 559 #[s0, s1, vI n1, s3, s4, s5, vI t1, vI c0, vI c1, vI c2, s10, s11, vR r1, vI 1, s14, vU] [(.int (n1 + (13 : Int32)))]))
  refine Go.step (fun _ k => XS.istore X0.here hx rfl (hb hby at_559) rfl (l' := #[s0, s1, vI n1, s3, s4, s5, vI t1, vI c0, vI c1, vI c2, s10, s11, vR r1, vI 1, s14, vI (n1 + (13 : Int32))]) rfl k) ?_
  show Go p e below _ (T.setTop (mkF m 561 #[s0, s1, vI n1, s3, s4, s5, vI t1, vI c0, vI c1, vI c2, s10, s11, vR r1, vI 1, s14, vI (n1 + (13 : Int32))] []))
  rcases ht1 with rfl | rfl | rfl | rfl
  · skip
    show Go p e below _ (T.setTop (mkF m 561 #[s0, s1, vI n1, s3, s4, s5, vI 0, vI c0, vI c1, vI c2, s10, s11, vR r1, vI 1, s14, vI (n1 + (13 : Int32))] []))
    refine Go.step (fun _ k => XS.iload X0.here hx rfl (hb hby at_561) rfl  k) ?_
    show Go p e below _ (T.setTop (mkF m 563 #[s0, s1, vI n1, s3, s4, s5, vI 0, vI c0, vI c1, vI c2, s10, s11, vR r1, vI 1, s14, vI (n1 + (13 : Int32))] [(.int (0 : Int32))]))
    refine Go.step (fun _ k => XS.ifYes X0.here hx rfl (pc0 := 563) (pc' := 590) rfl (hb hby at_563) rfl ((if0 _ _).trans (flt ((by decide) : ¬ ((0 : Int32) < (0 : Int32)))).2.2.2) (by decide) (by decide) k) ?_
    show Go p e below _ (T.setTop (mkF m 590 #[s0, s1, vI n1, s3, s4, s5, vI 0, vI c0, vI c1, vI c2, s10, s11, vR r1, vI 1, s14, vI (n1 + (13 : Int32))] []))
    refine Go.step (fun _ k => XS.iload X0.here hx rfl (hb hby at_590) rfl  k) ?_
    refine Go.step (fun _ k => XS.iconst X0.here hx rfl (hb hby at_592) k) ?_
    show Go p e below _ (T.setTop (mkF m 593 #[s0, s1, vI n1, s3, s4, s5, vI 0, vI c0, vI c1, vI c2, s10, s11, vR r1, vI 1, s14, vI (n1 + (13 : Int32))] [(.int (1 : Int32)), (.int (0 : Int32))]))
    refine Go.step (fun _ k => XS.icmpYes X0.here hx rfl (pc0 := 593) (pc' := 622) rfl (hb hby at_593) rfl (flt ((by decide) : ¬ ((1 : Int32) < (0 : Int32)))).2.2.2 (by decide) (by decide) k) ?_
    show Go p e below _ (T.setTop (mkF m 622 #[s0, s1, vI n1, s3, s4, s5, vI 0, vI c0, vI c1, vI c2, s10, s11, vR r1, vI 1, s14, vI (n1 + (13 : Int32))] []))
    refine Go.step (fun _ k => XS.iload X0.here hx rfl (hb hby at_622) rfl  k) ?_
    refine Go.step (fun _ k => XS.iconst X0.here hx rfl (hb hby at_624) k) ?_
    show Go p e below _ (T.setTop (mkF m 625 #[s0, s1, vI n1, s3, s4, s5, vI 0, vI c0, vI c1, vI c2, s10, s11, vR r1, vI 1, s14, vI (n1 + (13 : Int32))] [(.int (2 : Int32)), (.int (0 : Int32))]))
    refine Go.step (fun _ k => XS.icmpYes X0.here hx rfl (pc0 := 625) (pc' := 654) rfl (hb hby at_625) rfl (flt ((by decide) : ¬ ((2 : Int32) < (0 : Int32)))).2.2.2 (by decide) (by decide) k) ?_
    show Go p e below _ (T.setTop (mkF m 654 #[s0, s1, vI n1, s3, s4, s5, vI 0, vI c0, vI c1, vI c2, s10, s11, vR r1, vI 1, s14, vI (n1 + (13 : Int32))] []))
    refine Go.step (fun _ k => XS.iload X0.here hx rfl (hb hby at_654) rfl  k) ?_
    show Go p e below _ (T.setTop (mkF m 656 #[s0, s1, vI n1, s3, s4, s5, vI 0, vI c0, vI c1, vI c2, s10, s11, vR r1, vI 1, s14, vI (n1 + (13 : Int32))] [(.int (1 : Int32))]))
    exact Go.retVW X0 e0 hS0 hk0 hZ hEL hh0 CR0 hx hlk hret rfl (Or.inl ⟨rfl, Or.inr (Or.inl rfl), _, rfl⟩) (hb hby at_656) (by (try dsimp only); omega) (by (try dsimp only); omega) (by exact ⟨rfl, N0⟩)
  · skip
    show Go p e below _ (T.setTop (mkF m 561 #[s0, s1, vI n1, s3, s4, s5, vI 1, vI c0, vI c1, vI c2, s10, s11, vR r1, vI 1, s14, vI (n1 + (13 : Int32))] []))
    refine Go.step (fun _ k => XS.iload X0.here hx rfl (hb hby at_561) rfl  k) ?_
    show Go p e below _ (T.setTop (mkF m 563 #[s0, s1, vI n1, s3, s4, s5, vI 1, vI c0, vI c1, vI c2, s10, s11, vR r1, vI 1, s14, vI (n1 + (13 : Int32))] [(.int (1 : Int32))]))
    refine Go.step (fun _ k => XS.ifNo X0.here hx rfl (hb hby at_563) rfl ((if0 _ _).trans (tlt ((by decide) : (0 : Int32) < (1 : Int32))).2.2.2) k) ?_
    show Go p e below _ (T.setTop (mkF m 566 #[s0, s1, vI n1, s3, s4, s5, vI 1, vI c0, vI c1, vI c2, s10, s11, vR r1, vI 1, s14, vI (n1 + (13 : Int32))] []))
    refine Go.step (fun _ k => XS.iload X0.here hx rfl (hb hby at_566) rfl  k) ?_
    show Go p e below _ (T.setTop (mkF m 568 #[s0, s1, vI n1, s3, s4, s5, vI 1, vI c0, vI c1, vI c2, s10, s11, vR r1, vI 1, s14, vI (n1 + (13 : Int32))] [(.int (1 : Int32))]))
    refine Go.step (fun _ k => XS.ifNo X0.here hx rfl (hb hby at_568) rfl ((if0 _ _).trans (feq ((by decide) : ¬ ((1 : Int32) = (0 : Int32)))).1) k) ?_
    show Go p e below _ (T.setTop (mkF m 571 #[s0, s1, vI n1, s3, s4, s5, vI 1, vI c0, vI c1, vI c2, s10, s11, vR r1, vI 1, s14, vI (n1 + (13 : Int32))] []))
    refine Go.step (fun _ k => XS.aload X0.here hx rfl (hb hby at_571) rfl rfl k) ?_
    refine Go.step (fun _ k => XS.iload X0.here hx rfl (hb hby at_573) rfl  k) ?_
    show Go p e below _ (T.setTop (mkF m 575 #[s0, s1, vI n1, s3, s4, s5, vI 1, vI c0, vI c1, vI c2, s10, s11, vR r1, vI 1, s14, vI (n1 + (13 : Int32))] [(.int (n1 + (13 : Int32))), (.ref r1)]))
    have cp444 := S_r1
    obtain ⟨t445, kb445, -, -, Ex445, Fv445, Fc445, Av445, hl445, hn445⟩ := cp444
    obtain ⟨v_446, T_446, L_446, X_446, hQ_446, st_446⟩ := goV X0 hx hZ (y := Y_34) (z := Y_34) (kc := 0) (ks := 0) (QQ := fun v h' L => v = some (.int (rs.getD (kn + 13 + 0) 0)) ∧ L = [] ∧ h' = h0) hown (wd_188 hw) (wd_189 hw) (notFace_of_selects (args := #[]) (mvT hZ (wd_191 hw))) (wd_191 hw) (wd_190 hw) (by decide) (StrChars.Road.chN (W := 0) (s := s.setVm vm0) hZ (sw_wordsChN hw) (kI := 4) (wd_5 hw) (i := (kn + 13 + 0)) (j := (n1 + (13 : Int32))) Ex445 Fv445 Fc445 Av445 (StrChars.Road.codOf rfl (fun c hc => (hl445 c hc).2)) (up255 hl445) (S_cs.ext hO.2) n_cs (S_fm.ext hO.2) r_fm hn445 (Nat.lt_of_lt_of_le (by decide : 0 < _) (Nat.le_refl _) |> fun q => Nat.lt_of_lt_of_le (Nat.add_lt_add_left q (kn + 13)) hle) (by rw [hkn, show (13 : Int32) = Int32.ofNat 13 from rfl, ofn_add]) (by decide) (by decide)) e0 Ex445 (g := (mkF m 575 #[s0, s1, vI n1, s3, s4, s5, vI 1, vI c0, vI c1, vI c2, s10, s11, vR r1, vI 1, s14, vI (n1 + (13 : Int32))] [(.int (n1 + (13 : Int32))), (.ref r1)])) rfl (by rw [hml]; rfl) (argsL := [(.int (n1 + (13 : Int32)))]) (rest := []) rfl (lenOf pd_28 rfl) rfl (by show 2 * 0 + _ ≤ _; exact Nat.le_of_eq rfl) (hb hby at_575) (by (try dsimp only); omega) (by (try dsimp only); omega)
    obtain ⟨rfl, rfl, e_446⟩ := hQ_446
    have N_446 := Fr.app N0 (Fr.nil n0)
    refine Go.step st_446 ?_
    show Go p e below _ (T_446.setTop (mkF m 578 #[s0, s1, vI n1, s3, s4, s5, vI 1, vI c0, vI c1, vI c2, s10, s11, vR r1, vI 1, s14, vI (n1 + (13 : Int32))] [(.int (rs.getD (kn + 13 + 0) 0))]))
    refine Go.step (fun _ k => XS.iload X_446.here hx rfl (hb hby at_578) rfl  k) ?_
    show Go p e below _ (T_446.setTop (mkF m 580 #[s0, s1, vI n1, s3, s4, s5, vI 1, vI c0, vI c1, vI c2, s10, s11, vR r1, vI 1, s14, vI (n1 + (13 : Int32))] [(.int c0), (.int (rs.getD (kn + 13 + 0) 0))]))
    refine Go.step (fun _ k => XS.icmpNo X_446.here hx rfl (hb hby at_580) rfl (teq ((htl 0 (by decide)) : (rs.getD (kn + 13 + 0) 0) = c0)).2 k) ?_
    show Go p e below _ (T_446.setTop (mkF m 583 #[s0, s1, vI n1, s3, s4, s5, vI 1, vI c0, vI c1, vI c2, s10, s11, vR r1, vI 1, s14, vI (n1 + (13 : Int32))] []))
    refine Go.step (fun _ k => XS.iconst X_446.here hx rfl (hb hby at_583) k) ?_
    show Go p e below _ (T_446.setTop (mkF m 584 #[s0, s1, vI n1, s3, s4, s5, vI 1, vI c0, vI c1, vI c2, s10, s11, vR r1, vI 1, s14, vI (n1 + (13 : Int32))] [(.int (1 : Int32))]))
    refine Go.step (fun _ k => XS.goto X_446.here hx rfl (pc0 := 584) (pc' := 588) rfl (hb hby at_584) (by decide) (by decide) k) ?_
    show Go p e below _ (T_446.setTop (mkF m 588 #[s0, s1, vI n1, s3, s4, s5, vI 1, vI c0, vI c1, vI c2, s10, s11, vR r1, vI 1, s14, vI (n1 + (13 : Int32))] [(.int (1 : Int32))]))
    refine Go.step (fun _ k => XS.istore X_446.here hx rfl (hb hby at_588) rfl (l' := #[s0, s1, vI n1, s3, s4, s5, vI 1, vI c0, vI c1, vI c2, s10, s11, vR r1, vI 1, s14, vI (n1 + (13 : Int32))]) rfl k) ?_
    show Go p e below _ (T_446.setTop (mkF m 590 #[s0, s1, vI n1, s3, s4, s5, vI 1, vI c0, vI c1, vI c2, s10, s11, vR r1, vI 1, s14, vI (n1 + (13 : Int32))] []))
    refine Go.step (fun _ k => XS.iload X_446.here hx rfl (hb hby at_590) rfl  k) ?_
    refine Go.step (fun _ k => XS.iconst X_446.here hx rfl (hb hby at_592) k) ?_
    show Go p e below _ (T_446.setTop (mkF m 593 #[s0, s1, vI n1, s3, s4, s5, vI 1, vI c0, vI c1, vI c2, s10, s11, vR r1, vI 1, s14, vI (n1 + (13 : Int32))] [(.int (1 : Int32)), (.int (1 : Int32))]))
    refine Go.step (fun _ k => XS.icmpYes X_446.here hx rfl (pc0 := 593) (pc' := 622) rfl (hb hby at_593) rfl (flt ((by decide) : ¬ ((1 : Int32) < (1 : Int32)))).2.2.2 (by decide) (by decide) k) ?_
    show Go p e below _ (T_446.setTop (mkF m 622 #[s0, s1, vI n1, s3, s4, s5, vI 1, vI c0, vI c1, vI c2, s10, s11, vR r1, vI 1, s14, vI (n1 + (13 : Int32))] []))
    refine Go.step (fun _ k => XS.iload X_446.here hx rfl (hb hby at_622) rfl  k) ?_
    refine Go.step (fun _ k => XS.iconst X_446.here hx rfl (hb hby at_624) k) ?_
    show Go p e below _ (T_446.setTop (mkF m 625 #[s0, s1, vI n1, s3, s4, s5, vI 1, vI c0, vI c1, vI c2, s10, s11, vR r1, vI 1, s14, vI (n1 + (13 : Int32))] [(.int (2 : Int32)), (.int (1 : Int32))]))
    refine Go.step (fun _ k => XS.icmpYes X_446.here hx rfl (pc0 := 625) (pc' := 654) rfl (hb hby at_625) rfl (flt ((by decide) : ¬ ((2 : Int32) < (1 : Int32)))).2.2.2 (by decide) (by decide) k) ?_
    show Go p e below _ (T_446.setTop (mkF m 654 #[s0, s1, vI n1, s3, s4, s5, vI 1, vI c0, vI c1, vI c2, s10, s11, vR r1, vI 1, s14, vI (n1 + (13 : Int32))] []))
    refine Go.step (fun _ k => XS.iload X_446.here hx rfl (hb hby at_654) rfl  k) ?_
    show Go p e below _ (T_446.setTop (mkF m 656 #[s0, s1, vI n1, s3, s4, s5, vI 1, vI c0, vI c1, vI c2, s10, s11, vR r1, vI 1, s14, vI (n1 + (13 : Int32))] [(.int (1 : Int32))]))
    exact Go.retVW X_446 e_446 hS0 hk0 hZ hEL hh0 CR0 hx hlk hret rfl (Or.inl ⟨rfl, Or.inr (Or.inl rfl), _, rfl⟩) (hb hby at_656) (by (try dsimp only); omega) (by (try dsimp only); omega) (by exact ⟨rfl, N_446⟩)
  · skip
    show Go p e below _ (T.setTop (mkF m 561 #[s0, s1, vI n1, s3, s4, s5, vI 2, vI c0, vI c1, vI c2, s10, s11, vR r1, vI 1, s14, vI (n1 + (13 : Int32))] []))
    refine Go.step (fun _ k => XS.iload X0.here hx rfl (hb hby at_561) rfl  k) ?_
    show Go p e below _ (T.setTop (mkF m 563 #[s0, s1, vI n1, s3, s4, s5, vI 2, vI c0, vI c1, vI c2, s10, s11, vR r1, vI 1, s14, vI (n1 + (13 : Int32))] [(.int (2 : Int32))]))
    refine Go.step (fun _ k => XS.ifNo X0.here hx rfl (hb hby at_563) rfl ((if0 _ _).trans (tlt ((by decide) : (0 : Int32) < (2 : Int32))).2.2.2) k) ?_
    show Go p e below _ (T.setTop (mkF m 566 #[s0, s1, vI n1, s3, s4, s5, vI 2, vI c0, vI c1, vI c2, s10, s11, vR r1, vI 1, s14, vI (n1 + (13 : Int32))] []))
    refine Go.step (fun _ k => XS.iload X0.here hx rfl (hb hby at_566) rfl  k) ?_
    show Go p e below _ (T.setTop (mkF m 568 #[s0, s1, vI n1, s3, s4, s5, vI 2, vI c0, vI c1, vI c2, s10, s11, vR r1, vI 1, s14, vI (n1 + (13 : Int32))] [(.int (1 : Int32))]))
    refine Go.step (fun _ k => XS.ifNo X0.here hx rfl (hb hby at_568) rfl ((if0 _ _).trans (feq ((by decide) : ¬ ((1 : Int32) = (0 : Int32)))).1) k) ?_
    show Go p e below _ (T.setTop (mkF m 571 #[s0, s1, vI n1, s3, s4, s5, vI 2, vI c0, vI c1, vI c2, s10, s11, vR r1, vI 1, s14, vI (n1 + (13 : Int32))] []))
    refine Go.step (fun _ k => XS.aload X0.here hx rfl (hb hby at_571) rfl rfl k) ?_
    refine Go.step (fun _ k => XS.iload X0.here hx rfl (hb hby at_573) rfl  k) ?_
    show Go p e below _ (T.setTop (mkF m 575 #[s0, s1, vI n1, s3, s4, s5, vI 2, vI c0, vI c1, vI c2, s10, s11, vR r1, vI 1, s14, vI (n1 + (13 : Int32))] [(.int (n1 + (13 : Int32))), (.ref r1)]))
    have cp447 := S_r1
    obtain ⟨t448, kb448, -, -, Ex448, Fv448, Fc448, Av448, hl448, hn448⟩ := cp447
    obtain ⟨v_449, T_449, L_449, X_449, hQ_449, st_449⟩ := goV X0 hx hZ (y := Y_34) (z := Y_34) (kc := 0) (ks := 0) (QQ := fun v h' L => v = some (.int (rs.getD (kn + 13 + 0) 0)) ∧ L = [] ∧ h' = h0) hown (wd_188 hw) (wd_189 hw) (notFace_of_selects (args := #[]) (mvT hZ (wd_191 hw))) (wd_191 hw) (wd_190 hw) (by decide) (StrChars.Road.chN (W := 0) (s := s.setVm vm0) hZ (sw_wordsChN hw) (kI := 4) (wd_5 hw) (i := (kn + 13 + 0)) (j := (n1 + (13 : Int32))) Ex448 Fv448 Fc448 Av448 (StrChars.Road.codOf rfl (fun c hc => (hl448 c hc).2)) (up255 hl448) (S_cs.ext hO.2) n_cs (S_fm.ext hO.2) r_fm hn448 (Nat.lt_of_lt_of_le (by decide : 0 < _) (Nat.le_refl _) |> fun q => Nat.lt_of_lt_of_le (Nat.add_lt_add_left q (kn + 13)) hle) (by rw [hkn, show (13 : Int32) = Int32.ofNat 13 from rfl, ofn_add]) (by decide) (by decide)) e0 Ex448 (g := (mkF m 575 #[s0, s1, vI n1, s3, s4, s5, vI 2, vI c0, vI c1, vI c2, s10, s11, vR r1, vI 1, s14, vI (n1 + (13 : Int32))] [(.int (n1 + (13 : Int32))), (.ref r1)])) rfl (by rw [hml]; rfl) (argsL := [(.int (n1 + (13 : Int32)))]) (rest := []) rfl (lenOf pd_28 rfl) rfl (by show 2 * 0 + _ ≤ _; exact Nat.le_of_eq rfl) (hb hby at_575) (by (try dsimp only); omega) (by (try dsimp only); omega)
    obtain ⟨rfl, rfl, e_449⟩ := hQ_449
    have N_449 := Fr.app N0 (Fr.nil n0)
    refine Go.step st_449 ?_
    show Go p e below _ (T_449.setTop (mkF m 578 #[s0, s1, vI n1, s3, s4, s5, vI 2, vI c0, vI c1, vI c2, s10, s11, vR r1, vI 1, s14, vI (n1 + (13 : Int32))] [(.int (rs.getD (kn + 13 + 0) 0))]))
    refine Go.step (fun _ k => XS.iload X_449.here hx rfl (hb hby at_578) rfl  k) ?_
    show Go p e below _ (T_449.setTop (mkF m 580 #[s0, s1, vI n1, s3, s4, s5, vI 2, vI c0, vI c1, vI c2, s10, s11, vR r1, vI 1, s14, vI (n1 + (13 : Int32))] [(.int c0), (.int (rs.getD (kn + 13 + 0) 0))]))
    refine Go.step (fun _ k => XS.icmpNo X_449.here hx rfl (hb hby at_580) rfl (teq ((htl 0 (by decide)) : (rs.getD (kn + 13 + 0) 0) = c0)).2 k) ?_
    show Go p e below _ (T_449.setTop (mkF m 583 #[s0, s1, vI n1, s3, s4, s5, vI 2, vI c0, vI c1, vI c2, s10, s11, vR r1, vI 1, s14, vI (n1 + (13 : Int32))] []))
    refine Go.step (fun _ k => XS.iconst X_449.here hx rfl (hb hby at_583) k) ?_
    show Go p e below _ (T_449.setTop (mkF m 584 #[s0, s1, vI n1, s3, s4, s5, vI 2, vI c0, vI c1, vI c2, s10, s11, vR r1, vI 1, s14, vI (n1 + (13 : Int32))] [(.int (1 : Int32))]))
    refine Go.step (fun _ k => XS.goto X_449.here hx rfl (pc0 := 584) (pc' := 588) rfl (hb hby at_584) (by decide) (by decide) k) ?_
    show Go p e below _ (T_449.setTop (mkF m 588 #[s0, s1, vI n1, s3, s4, s5, vI 2, vI c0, vI c1, vI c2, s10, s11, vR r1, vI 1, s14, vI (n1 + (13 : Int32))] [(.int (1 : Int32))]))
    refine Go.step (fun _ k => XS.istore X_449.here hx rfl (hb hby at_588) rfl (l' := #[s0, s1, vI n1, s3, s4, s5, vI 2, vI c0, vI c1, vI c2, s10, s11, vR r1, vI 1, s14, vI (n1 + (13 : Int32))]) rfl k) ?_
    show Go p e below _ (T_449.setTop (mkF m 590 #[s0, s1, vI n1, s3, s4, s5, vI 2, vI c0, vI c1, vI c2, s10, s11, vR r1, vI 1, s14, vI (n1 + (13 : Int32))] []))
    refine Go.step (fun _ k => XS.iload X_449.here hx rfl (hb hby at_590) rfl  k) ?_
    refine Go.step (fun _ k => XS.iconst X_449.here hx rfl (hb hby at_592) k) ?_
    show Go p e below _ (T_449.setTop (mkF m 593 #[s0, s1, vI n1, s3, s4, s5, vI 2, vI c0, vI c1, vI c2, s10, s11, vR r1, vI 1, s14, vI (n1 + (13 : Int32))] [(.int (1 : Int32)), (.int (2 : Int32))]))
    refine Go.step (fun _ k => XS.icmpNo X_449.here hx rfl (hb hby at_593) rfl (tlt ((by decide) : (1 : Int32) < (2 : Int32))).2.2.2 k) ?_
    show Go p e below _ (T_449.setTop (mkF m 596 #[s0, s1, vI n1, s3, s4, s5, vI 2, vI c0, vI c1, vI c2, s10, s11, vR r1, vI 1, s14, vI (n1 + (13 : Int32))] []))
    refine Go.step (fun _ k => XS.iload X_449.here hx rfl (hb hby at_596) rfl  k) ?_
    show Go p e below _ (T_449.setTop (mkF m 598 #[s0, s1, vI n1, s3, s4, s5, vI 2, vI c0, vI c1, vI c2, s10, s11, vR r1, vI 1, s14, vI (n1 + (13 : Int32))] [(.int (1 : Int32))]))
    refine Go.step (fun _ k => XS.ifNo X_449.here hx rfl (hb hby at_598) rfl ((if0 _ _).trans (feq ((by decide) : ¬ ((1 : Int32) = (0 : Int32)))).1) k) ?_
    show Go p e below _ (T_449.setTop (mkF m 601 #[s0, s1, vI n1, s3, s4, s5, vI 2, vI c0, vI c1, vI c2, s10, s11, vR r1, vI 1, s14, vI (n1 + (13 : Int32))] []))
    refine Go.step (fun _ k => XS.aload X_449.here hx rfl (hb hby at_601) rfl rfl k) ?_
    refine Go.step (fun _ k => XS.iload X_449.here hx rfl (hb hby at_603) rfl  k) ?_
    refine Go.step (fun _ k => XS.iconst X_449.here hx rfl (hb hby at_605) k) ?_
    show Go p e below _ (T_449.setTop (mkF m 606 #[s0, s1, vI n1, s3, s4, s5, vI 2, vI c0, vI c1, vI c2, s10, s11, vR r1, vI 1, s14, vI (n1 + (13 : Int32))] [(.int (1 : Int32)), (.int (n1 + (13 : Int32))), (.ref r1)]))
    refine Go.step (fun _ k => XS.iadd X_449.here hx rfl (hb hby at_606) rfl k) ?_
    show Go p e below _ (T_449.setTop (mkF m 607 #[s0, s1, vI n1, s3, s4, s5, vI 2, vI c0, vI c1, vI c2, s10, s11, vR r1, vI 1, s14, vI (n1 + (13 : Int32))] [(.int ((n1 + (13 : Int32)) + (1 : Int32))), (.ref r1)]))
    have cp450 := S_r1
    obtain ⟨t451, kb451, -, -, Ex451, Fv451, Fc451, Av451, hl451, hn451⟩ := cp450
    obtain ⟨v_452, T_452, L_452, X_452, hQ_452, st_452⟩ := goV X_449 hx hZ (y := Y_34) (z := Y_34) (kc := 0) (ks := 0) (QQ := fun v h' L => v = some (.int (rs.getD (kn + 13 + 1) 0)) ∧ L = [] ∧ h' = h0) hown (wd_188 hw) (wd_189 hw) (notFace_of_selects (args := #[]) (mvT hZ (wd_191 hw))) (wd_191 hw) (wd_190 hw) (by decide) (StrChars.Road.chN (W := 0) (s := s.setVm vm0) hZ (sw_wordsChN hw) (kI := 4) (wd_5 hw) (i := (kn + 13 + 1)) (j := ((n1 + (13 : Int32)) + (1 : Int32))) Ex451 Fv451 Fc451 Av451 (StrChars.Road.codOf rfl (fun c hc => (hl451 c hc).2)) (up255 hl451) (S_cs.ext hO.2) n_cs (S_fm.ext hO.2) r_fm hn451 (Nat.lt_of_lt_of_le (by decide : 1 < _) (Nat.le_refl _) |> fun q => Nat.lt_of_lt_of_le (Nat.add_lt_add_left q (kn + 13)) hle) (by rw [hkn, show (13 : Int32) = Int32.ofNat 13 from rfl, ofn_add]; exact ofn_add (kn + 13) 1) (by decide) (by decide)) e_449 Ex451 (g := (mkF m 607 #[s0, s1, vI n1, s3, s4, s5, vI 2, vI c0, vI c1, vI c2, s10, s11, vR r1, vI 1, s14, vI (n1 + (13 : Int32))] [(.int ((n1 + (13 : Int32)) + (1 : Int32))), (.ref r1)])) rfl (by rw [hml]; rfl) (argsL := [(.int ((n1 + (13 : Int32)) + (1 : Int32)))]) (rest := []) rfl (lenOf pd_28 rfl) rfl (by show 2 * 0 + _ ≤ _; exact Nat.le_of_eq rfl) (hb hby at_607) (by (try dsimp only); omega) (by (try dsimp only); omega)
    obtain ⟨rfl, rfl, e_452⟩ := hQ_452
    have N_452 := Fr.app N_449 (Fr.nil n0)
    refine Go.step st_452 ?_
    show Go p e below _ (T_452.setTop (mkF m 610 #[s0, s1, vI n1, s3, s4, s5, vI 2, vI c0, vI c1, vI c2, s10, s11, vR r1, vI 1, s14, vI (n1 + (13 : Int32))] [(.int (rs.getD (kn + 13 + 1) 0))]))
    refine Go.step (fun _ k => XS.iload X_452.here hx rfl (hb hby at_610) rfl  k) ?_
    show Go p e below _ (T_452.setTop (mkF m 612 #[s0, s1, vI n1, s3, s4, s5, vI 2, vI c0, vI c1, vI c2, s10, s11, vR r1, vI 1, s14, vI (n1 + (13 : Int32))] [(.int c1), (.int (rs.getD (kn + 13 + 1) 0))]))
    refine Go.step (fun _ k => XS.icmpNo X_452.here hx rfl (hb hby at_612) rfl (teq ((htl 1 (by decide)) : (rs.getD (kn + 13 + 1) 0) = c1)).2 k) ?_
    show Go p e below _ (T_452.setTop (mkF m 615 #[s0, s1, vI n1, s3, s4, s5, vI 2, vI c0, vI c1, vI c2, s10, s11, vR r1, vI 1, s14, vI (n1 + (13 : Int32))] []))
    refine Go.step (fun _ k => XS.iconst X_452.here hx rfl (hb hby at_615) k) ?_
    show Go p e below _ (T_452.setTop (mkF m 616 #[s0, s1, vI n1, s3, s4, s5, vI 2, vI c0, vI c1, vI c2, s10, s11, vR r1, vI 1, s14, vI (n1 + (13 : Int32))] [(.int (1 : Int32))]))
    refine Go.step (fun _ k => XS.goto X_452.here hx rfl (pc0 := 616) (pc' := 620) rfl (hb hby at_616) (by decide) (by decide) k) ?_
    show Go p e below _ (T_452.setTop (mkF m 620 #[s0, s1, vI n1, s3, s4, s5, vI 2, vI c0, vI c1, vI c2, s10, s11, vR r1, vI 1, s14, vI (n1 + (13 : Int32))] [(.int (1 : Int32))]))
    refine Go.step (fun _ k => XS.istore X_452.here hx rfl (hb hby at_620) rfl (l' := #[s0, s1, vI n1, s3, s4, s5, vI 2, vI c0, vI c1, vI c2, s10, s11, vR r1, vI 1, s14, vI (n1 + (13 : Int32))]) rfl k) ?_
    show Go p e below _ (T_452.setTop (mkF m 622 #[s0, s1, vI n1, s3, s4, s5, vI 2, vI c0, vI c1, vI c2, s10, s11, vR r1, vI 1, s14, vI (n1 + (13 : Int32))] []))
    refine Go.step (fun _ k => XS.iload X_452.here hx rfl (hb hby at_622) rfl  k) ?_
    refine Go.step (fun _ k => XS.iconst X_452.here hx rfl (hb hby at_624) k) ?_
    show Go p e below _ (T_452.setTop (mkF m 625 #[s0, s1, vI n1, s3, s4, s5, vI 2, vI c0, vI c1, vI c2, s10, s11, vR r1, vI 1, s14, vI (n1 + (13 : Int32))] [(.int (2 : Int32)), (.int (2 : Int32))]))
    refine Go.step (fun _ k => XS.icmpYes X_452.here hx rfl (pc0 := 625) (pc' := 654) rfl (hb hby at_625) rfl (flt ((by decide) : ¬ ((2 : Int32) < (2 : Int32)))).2.2.2 (by decide) (by decide) k) ?_
    show Go p e below _ (T_452.setTop (mkF m 654 #[s0, s1, vI n1, s3, s4, s5, vI 2, vI c0, vI c1, vI c2, s10, s11, vR r1, vI 1, s14, vI (n1 + (13 : Int32))] []))
    refine Go.step (fun _ k => XS.iload X_452.here hx rfl (hb hby at_654) rfl  k) ?_
    show Go p e below _ (T_452.setTop (mkF m 656 #[s0, s1, vI n1, s3, s4, s5, vI 2, vI c0, vI c1, vI c2, s10, s11, vR r1, vI 1, s14, vI (n1 + (13 : Int32))] [(.int (1 : Int32))]))
    exact Go.retVW X_452 e_452 hS0 hk0 hZ hEL hh0 CR0 hx hlk hret rfl (Or.inl ⟨rfl, Or.inr (Or.inl rfl), _, rfl⟩) (hb hby at_656) (by (try dsimp only); omega) (by (try dsimp only); omega) (by exact ⟨rfl, N_452⟩)
  · skip
    show Go p e below _ (T.setTop (mkF m 561 #[s0, s1, vI n1, s3, s4, s5, vI 3, vI c0, vI c1, vI c2, s10, s11, vR r1, vI 1, s14, vI (n1 + (13 : Int32))] []))
    refine Go.step (fun _ k => XS.iload X0.here hx rfl (hb hby at_561) rfl  k) ?_
    show Go p e below _ (T.setTop (mkF m 563 #[s0, s1, vI n1, s3, s4, s5, vI 3, vI c0, vI c1, vI c2, s10, s11, vR r1, vI 1, s14, vI (n1 + (13 : Int32))] [(.int (3 : Int32))]))
    refine Go.step (fun _ k => XS.ifNo X0.here hx rfl (hb hby at_563) rfl ((if0 _ _).trans (tlt ((by decide) : (0 : Int32) < (3 : Int32))).2.2.2) k) ?_
    show Go p e below _ (T.setTop (mkF m 566 #[s0, s1, vI n1, s3, s4, s5, vI 3, vI c0, vI c1, vI c2, s10, s11, vR r1, vI 1, s14, vI (n1 + (13 : Int32))] []))
    refine Go.step (fun _ k => XS.iload X0.here hx rfl (hb hby at_566) rfl  k) ?_
    show Go p e below _ (T.setTop (mkF m 568 #[s0, s1, vI n1, s3, s4, s5, vI 3, vI c0, vI c1, vI c2, s10, s11, vR r1, vI 1, s14, vI (n1 + (13 : Int32))] [(.int (1 : Int32))]))
    refine Go.step (fun _ k => XS.ifNo X0.here hx rfl (hb hby at_568) rfl ((if0 _ _).trans (feq ((by decide) : ¬ ((1 : Int32) = (0 : Int32)))).1) k) ?_
    show Go p e below _ (T.setTop (mkF m 571 #[s0, s1, vI n1, s3, s4, s5, vI 3, vI c0, vI c1, vI c2, s10, s11, vR r1, vI 1, s14, vI (n1 + (13 : Int32))] []))
    refine Go.step (fun _ k => XS.aload X0.here hx rfl (hb hby at_571) rfl rfl k) ?_
    refine Go.step (fun _ k => XS.iload X0.here hx rfl (hb hby at_573) rfl  k) ?_
    show Go p e below _ (T.setTop (mkF m 575 #[s0, s1, vI n1, s3, s4, s5, vI 3, vI c0, vI c1, vI c2, s10, s11, vR r1, vI 1, s14, vI (n1 + (13 : Int32))] [(.int (n1 + (13 : Int32))), (.ref r1)]))
    have cp453 := S_r1
    obtain ⟨t454, kb454, -, -, Ex454, Fv454, Fc454, Av454, hl454, hn454⟩ := cp453
    obtain ⟨v_455, T_455, L_455, X_455, hQ_455, st_455⟩ := goV X0 hx hZ (y := Y_34) (z := Y_34) (kc := 0) (ks := 0) (QQ := fun v h' L => v = some (.int (rs.getD (kn + 13 + 0) 0)) ∧ L = [] ∧ h' = h0) hown (wd_188 hw) (wd_189 hw) (notFace_of_selects (args := #[]) (mvT hZ (wd_191 hw))) (wd_191 hw) (wd_190 hw) (by decide) (StrChars.Road.chN (W := 0) (s := s.setVm vm0) hZ (sw_wordsChN hw) (kI := 4) (wd_5 hw) (i := (kn + 13 + 0)) (j := (n1 + (13 : Int32))) Ex454 Fv454 Fc454 Av454 (StrChars.Road.codOf rfl (fun c hc => (hl454 c hc).2)) (up255 hl454) (S_cs.ext hO.2) n_cs (S_fm.ext hO.2) r_fm hn454 (Nat.lt_of_lt_of_le (by decide : 0 < _) (Nat.le_refl _) |> fun q => Nat.lt_of_lt_of_le (Nat.add_lt_add_left q (kn + 13)) hle) (by rw [hkn, show (13 : Int32) = Int32.ofNat 13 from rfl, ofn_add]) (by decide) (by decide)) e0 Ex454 (g := (mkF m 575 #[s0, s1, vI n1, s3, s4, s5, vI 3, vI c0, vI c1, vI c2, s10, s11, vR r1, vI 1, s14, vI (n1 + (13 : Int32))] [(.int (n1 + (13 : Int32))), (.ref r1)])) rfl (by rw [hml]; rfl) (argsL := [(.int (n1 + (13 : Int32)))]) (rest := []) rfl (lenOf pd_28 rfl) rfl (by show 2 * 0 + _ ≤ _; exact Nat.le_of_eq rfl) (hb hby at_575) (by (try dsimp only); omega) (by (try dsimp only); omega)
    obtain ⟨rfl, rfl, e_455⟩ := hQ_455
    have N_455 := Fr.app N0 (Fr.nil n0)
    refine Go.step st_455 ?_
    show Go p e below _ (T_455.setTop (mkF m 578 #[s0, s1, vI n1, s3, s4, s5, vI 3, vI c0, vI c1, vI c2, s10, s11, vR r1, vI 1, s14, vI (n1 + (13 : Int32))] [(.int (rs.getD (kn + 13 + 0) 0))]))
    refine Go.step (fun _ k => XS.iload X_455.here hx rfl (hb hby at_578) rfl  k) ?_
    show Go p e below _ (T_455.setTop (mkF m 580 #[s0, s1, vI n1, s3, s4, s5, vI 3, vI c0, vI c1, vI c2, s10, s11, vR r1, vI 1, s14, vI (n1 + (13 : Int32))] [(.int c0), (.int (rs.getD (kn + 13 + 0) 0))]))
    refine Go.step (fun _ k => XS.icmpNo X_455.here hx rfl (hb hby at_580) rfl (teq ((htl 0 (by decide)) : (rs.getD (kn + 13 + 0) 0) = c0)).2 k) ?_
    show Go p e below _ (T_455.setTop (mkF m 583 #[s0, s1, vI n1, s3, s4, s5, vI 3, vI c0, vI c1, vI c2, s10, s11, vR r1, vI 1, s14, vI (n1 + (13 : Int32))] []))
    refine Go.step (fun _ k => XS.iconst X_455.here hx rfl (hb hby at_583) k) ?_
    show Go p e below _ (T_455.setTop (mkF m 584 #[s0, s1, vI n1, s3, s4, s5, vI 3, vI c0, vI c1, vI c2, s10, s11, vR r1, vI 1, s14, vI (n1 + (13 : Int32))] [(.int (1 : Int32))]))
    refine Go.step (fun _ k => XS.goto X_455.here hx rfl (pc0 := 584) (pc' := 588) rfl (hb hby at_584) (by decide) (by decide) k) ?_
    show Go p e below _ (T_455.setTop (mkF m 588 #[s0, s1, vI n1, s3, s4, s5, vI 3, vI c0, vI c1, vI c2, s10, s11, vR r1, vI 1, s14, vI (n1 + (13 : Int32))] [(.int (1 : Int32))]))
    refine Go.step (fun _ k => XS.istore X_455.here hx rfl (hb hby at_588) rfl (l' := #[s0, s1, vI n1, s3, s4, s5, vI 3, vI c0, vI c1, vI c2, s10, s11, vR r1, vI 1, s14, vI (n1 + (13 : Int32))]) rfl k) ?_
    show Go p e below _ (T_455.setTop (mkF m 590 #[s0, s1, vI n1, s3, s4, s5, vI 3, vI c0, vI c1, vI c2, s10, s11, vR r1, vI 1, s14, vI (n1 + (13 : Int32))] []))
    refine Go.step (fun _ k => XS.iload X_455.here hx rfl (hb hby at_590) rfl  k) ?_
    refine Go.step (fun _ k => XS.iconst X_455.here hx rfl (hb hby at_592) k) ?_
    show Go p e below _ (T_455.setTop (mkF m 593 #[s0, s1, vI n1, s3, s4, s5, vI 3, vI c0, vI c1, vI c2, s10, s11, vR r1, vI 1, s14, vI (n1 + (13 : Int32))] [(.int (1 : Int32)), (.int (3 : Int32))]))
    refine Go.step (fun _ k => XS.icmpNo X_455.here hx rfl (hb hby at_593) rfl (tlt ((by decide) : (1 : Int32) < (3 : Int32))).2.2.2 k) ?_
    show Go p e below _ (T_455.setTop (mkF m 596 #[s0, s1, vI n1, s3, s4, s5, vI 3, vI c0, vI c1, vI c2, s10, s11, vR r1, vI 1, s14, vI (n1 + (13 : Int32))] []))
    refine Go.step (fun _ k => XS.iload X_455.here hx rfl (hb hby at_596) rfl  k) ?_
    show Go p e below _ (T_455.setTop (mkF m 598 #[s0, s1, vI n1, s3, s4, s5, vI 3, vI c0, vI c1, vI c2, s10, s11, vR r1, vI 1, s14, vI (n1 + (13 : Int32))] [(.int (1 : Int32))]))
    refine Go.step (fun _ k => XS.ifNo X_455.here hx rfl (hb hby at_598) rfl ((if0 _ _).trans (feq ((by decide) : ¬ ((1 : Int32) = (0 : Int32)))).1) k) ?_
    show Go p e below _ (T_455.setTop (mkF m 601 #[s0, s1, vI n1, s3, s4, s5, vI 3, vI c0, vI c1, vI c2, s10, s11, vR r1, vI 1, s14, vI (n1 + (13 : Int32))] []))
    refine Go.step (fun _ k => XS.aload X_455.here hx rfl (hb hby at_601) rfl rfl k) ?_
    refine Go.step (fun _ k => XS.iload X_455.here hx rfl (hb hby at_603) rfl  k) ?_
    refine Go.step (fun _ k => XS.iconst X_455.here hx rfl (hb hby at_605) k) ?_
    show Go p e below _ (T_455.setTop (mkF m 606 #[s0, s1, vI n1, s3, s4, s5, vI 3, vI c0, vI c1, vI c2, s10, s11, vR r1, vI 1, s14, vI (n1 + (13 : Int32))] [(.int (1 : Int32)), (.int (n1 + (13 : Int32))), (.ref r1)]))
    refine Go.step (fun _ k => XS.iadd X_455.here hx rfl (hb hby at_606) rfl k) ?_
    show Go p e below _ (T_455.setTop (mkF m 607 #[s0, s1, vI n1, s3, s4, s5, vI 3, vI c0, vI c1, vI c2, s10, s11, vR r1, vI 1, s14, vI (n1 + (13 : Int32))] [(.int ((n1 + (13 : Int32)) + (1 : Int32))), (.ref r1)]))
    have cp456 := S_r1
    obtain ⟨t457, kb457, -, -, Ex457, Fv457, Fc457, Av457, hl457, hn457⟩ := cp456
    obtain ⟨v_458, T_458, L_458, X_458, hQ_458, st_458⟩ := goV X_455 hx hZ (y := Y_34) (z := Y_34) (kc := 0) (ks := 0) (QQ := fun v h' L => v = some (.int (rs.getD (kn + 13 + 1) 0)) ∧ L = [] ∧ h' = h0) hown (wd_188 hw) (wd_189 hw) (notFace_of_selects (args := #[]) (mvT hZ (wd_191 hw))) (wd_191 hw) (wd_190 hw) (by decide) (StrChars.Road.chN (W := 0) (s := s.setVm vm0) hZ (sw_wordsChN hw) (kI := 4) (wd_5 hw) (i := (kn + 13 + 1)) (j := ((n1 + (13 : Int32)) + (1 : Int32))) Ex457 Fv457 Fc457 Av457 (StrChars.Road.codOf rfl (fun c hc => (hl457 c hc).2)) (up255 hl457) (S_cs.ext hO.2) n_cs (S_fm.ext hO.2) r_fm hn457 (Nat.lt_of_lt_of_le (by decide : 1 < _) (Nat.le_refl _) |> fun q => Nat.lt_of_lt_of_le (Nat.add_lt_add_left q (kn + 13)) hle) (by rw [hkn, show (13 : Int32) = Int32.ofNat 13 from rfl, ofn_add]; exact ofn_add (kn + 13) 1) (by decide) (by decide)) e_455 Ex457 (g := (mkF m 607 #[s0, s1, vI n1, s3, s4, s5, vI 3, vI c0, vI c1, vI c2, s10, s11, vR r1, vI 1, s14, vI (n1 + (13 : Int32))] [(.int ((n1 + (13 : Int32)) + (1 : Int32))), (.ref r1)])) rfl (by rw [hml]; rfl) (argsL := [(.int ((n1 + (13 : Int32)) + (1 : Int32)))]) (rest := []) rfl (lenOf pd_28 rfl) rfl (by show 2 * 0 + _ ≤ _; exact Nat.le_of_eq rfl) (hb hby at_607) (by (try dsimp only); omega) (by (try dsimp only); omega)
    obtain ⟨rfl, rfl, e_458⟩ := hQ_458
    have N_458 := Fr.app N_455 (Fr.nil n0)
    refine Go.step st_458 ?_
    show Go p e below _ (T_458.setTop (mkF m 610 #[s0, s1, vI n1, s3, s4, s5, vI 3, vI c0, vI c1, vI c2, s10, s11, vR r1, vI 1, s14, vI (n1 + (13 : Int32))] [(.int (rs.getD (kn + 13 + 1) 0))]))
    refine Go.step (fun _ k => XS.iload X_458.here hx rfl (hb hby at_610) rfl  k) ?_
    show Go p e below _ (T_458.setTop (mkF m 612 #[s0, s1, vI n1, s3, s4, s5, vI 3, vI c0, vI c1, vI c2, s10, s11, vR r1, vI 1, s14, vI (n1 + (13 : Int32))] [(.int c1), (.int (rs.getD (kn + 13 + 1) 0))]))
    refine Go.step (fun _ k => XS.icmpNo X_458.here hx rfl (hb hby at_612) rfl (teq ((htl 1 (by decide)) : (rs.getD (kn + 13 + 1) 0) = c1)).2 k) ?_
    show Go p e below _ (T_458.setTop (mkF m 615 #[s0, s1, vI n1, s3, s4, s5, vI 3, vI c0, vI c1, vI c2, s10, s11, vR r1, vI 1, s14, vI (n1 + (13 : Int32))] []))
    refine Go.step (fun _ k => XS.iconst X_458.here hx rfl (hb hby at_615) k) ?_
    show Go p e below _ (T_458.setTop (mkF m 616 #[s0, s1, vI n1, s3, s4, s5, vI 3, vI c0, vI c1, vI c2, s10, s11, vR r1, vI 1, s14, vI (n1 + (13 : Int32))] [(.int (1 : Int32))]))
    refine Go.step (fun _ k => XS.goto X_458.here hx rfl (pc0 := 616) (pc' := 620) rfl (hb hby at_616) (by decide) (by decide) k) ?_
    show Go p e below _ (T_458.setTop (mkF m 620 #[s0, s1, vI n1, s3, s4, s5, vI 3, vI c0, vI c1, vI c2, s10, s11, vR r1, vI 1, s14, vI (n1 + (13 : Int32))] [(.int (1 : Int32))]))
    refine Go.step (fun _ k => XS.istore X_458.here hx rfl (hb hby at_620) rfl (l' := #[s0, s1, vI n1, s3, s4, s5, vI 3, vI c0, vI c1, vI c2, s10, s11, vR r1, vI 1, s14, vI (n1 + (13 : Int32))]) rfl k) ?_
    show Go p e below _ (T_458.setTop (mkF m 622 #[s0, s1, vI n1, s3, s4, s5, vI 3, vI c0, vI c1, vI c2, s10, s11, vR r1, vI 1, s14, vI (n1 + (13 : Int32))] []))
    refine Go.step (fun _ k => XS.iload X_458.here hx rfl (hb hby at_622) rfl  k) ?_
    refine Go.step (fun _ k => XS.iconst X_458.here hx rfl (hb hby at_624) k) ?_
    show Go p e below _ (T_458.setTop (mkF m 625 #[s0, s1, vI n1, s3, s4, s5, vI 3, vI c0, vI c1, vI c2, s10, s11, vR r1, vI 1, s14, vI (n1 + (13 : Int32))] [(.int (2 : Int32)), (.int (3 : Int32))]))
    refine Go.step (fun _ k => XS.icmpNo X_458.here hx rfl (hb hby at_625) rfl (tlt ((by decide) : (2 : Int32) < (3 : Int32))).2.2.2 k) ?_
    show Go p e below _ (T_458.setTop (mkF m 628 #[s0, s1, vI n1, s3, s4, s5, vI 3, vI c0, vI c1, vI c2, s10, s11, vR r1, vI 1, s14, vI (n1 + (13 : Int32))] []))
    refine Go.step (fun _ k => XS.iload X_458.here hx rfl (hb hby at_628) rfl  k) ?_
    show Go p e below _ (T_458.setTop (mkF m 630 #[s0, s1, vI n1, s3, s4, s5, vI 3, vI c0, vI c1, vI c2, s10, s11, vR r1, vI 1, s14, vI (n1 + (13 : Int32))] [(.int (1 : Int32))]))
    refine Go.step (fun _ k => XS.ifNo X_458.here hx rfl (hb hby at_630) rfl ((if0 _ _).trans (feq ((by decide) : ¬ ((1 : Int32) = (0 : Int32)))).1) k) ?_
    show Go p e below _ (T_458.setTop (mkF m 633 #[s0, s1, vI n1, s3, s4, s5, vI 3, vI c0, vI c1, vI c2, s10, s11, vR r1, vI 1, s14, vI (n1 + (13 : Int32))] []))
    refine Go.step (fun _ k => XS.aload X_458.here hx rfl (hb hby at_633) rfl rfl k) ?_
    refine Go.step (fun _ k => XS.iload X_458.here hx rfl (hb hby at_635) rfl  k) ?_
    refine Go.step (fun _ k => XS.iconst X_458.here hx rfl (hb hby at_637) k) ?_
    show Go p e below _ (T_458.setTop (mkF m 638 #[s0, s1, vI n1, s3, s4, s5, vI 3, vI c0, vI c1, vI c2, s10, s11, vR r1, vI 1, s14, vI (n1 + (13 : Int32))] [(.int (2 : Int32)), (.int (n1 + (13 : Int32))), (.ref r1)]))
    refine Go.step (fun _ k => XS.iadd X_458.here hx rfl (hb hby at_638) rfl k) ?_
    show Go p e below _ (T_458.setTop (mkF m 639 #[s0, s1, vI n1, s3, s4, s5, vI 3, vI c0, vI c1, vI c2, s10, s11, vR r1, vI 1, s14, vI (n1 + (13 : Int32))] [(.int ((n1 + (13 : Int32)) + (2 : Int32))), (.ref r1)]))
    have cp459 := S_r1
    obtain ⟨t460, kb460, -, -, Ex460, Fv460, Fc460, Av460, hl460, hn460⟩ := cp459
    obtain ⟨v_461, T_461, L_461, X_461, hQ_461, st_461⟩ := goV X_458 hx hZ (y := Y_34) (z := Y_34) (kc := 0) (ks := 0) (QQ := fun v h' L => v = some (.int (rs.getD (kn + 13 + 2) 0)) ∧ L = [] ∧ h' = h0) hown (wd_188 hw) (wd_189 hw) (notFace_of_selects (args := #[]) (mvT hZ (wd_191 hw))) (wd_191 hw) (wd_190 hw) (by decide) (StrChars.Road.chN (W := 0) (s := s.setVm vm0) hZ (sw_wordsChN hw) (kI := 4) (wd_5 hw) (i := (kn + 13 + 2)) (j := ((n1 + (13 : Int32)) + (2 : Int32))) Ex460 Fv460 Fc460 Av460 (StrChars.Road.codOf rfl (fun c hc => (hl460 c hc).2)) (up255 hl460) (S_cs.ext hO.2) n_cs (S_fm.ext hO.2) r_fm hn460 (Nat.lt_of_lt_of_le (by decide : 2 < _) (Nat.le_refl _) |> fun q => Nat.lt_of_lt_of_le (Nat.add_lt_add_left q (kn + 13)) hle) (by rw [hkn, show (13 : Int32) = Int32.ofNat 13 from rfl, ofn_add]; exact ofn_add (kn + 13) 2) (by decide) (by decide)) e_458 Ex460 (g := (mkF m 639 #[s0, s1, vI n1, s3, s4, s5, vI 3, vI c0, vI c1, vI c2, s10, s11, vR r1, vI 1, s14, vI (n1 + (13 : Int32))] [(.int ((n1 + (13 : Int32)) + (2 : Int32))), (.ref r1)])) rfl (by rw [hml]; rfl) (argsL := [(.int ((n1 + (13 : Int32)) + (2 : Int32)))]) (rest := []) rfl (lenOf pd_28 rfl) rfl (by show 2 * 0 + _ ≤ _; exact Nat.le_of_eq rfl) (hb hby at_639) (by (try dsimp only); omega) (by (try dsimp only); omega)
    obtain ⟨rfl, rfl, e_461⟩ := hQ_461
    have N_461 := Fr.app N_458 (Fr.nil n0)
    refine Go.step st_461 ?_
    show Go p e below _ (T_461.setTop (mkF m 642 #[s0, s1, vI n1, s3, s4, s5, vI 3, vI c0, vI c1, vI c2, s10, s11, vR r1, vI 1, s14, vI (n1 + (13 : Int32))] [(.int (rs.getD (kn + 13 + 2) 0))]))
    refine Go.step (fun _ k => XS.iload X_461.here hx rfl (hb hby at_642) rfl  k) ?_
    show Go p e below _ (T_461.setTop (mkF m 644 #[s0, s1, vI n1, s3, s4, s5, vI 3, vI c0, vI c1, vI c2, s10, s11, vR r1, vI 1, s14, vI (n1 + (13 : Int32))] [(.int c2), (.int (rs.getD (kn + 13 + 2) 0))]))
    refine Go.step (fun _ k => XS.icmpNo X_461.here hx rfl (hb hby at_644) rfl (teq ((htl 2 (by decide)) : (rs.getD (kn + 13 + 2) 0) = c2)).2 k) ?_
    show Go p e below _ (T_461.setTop (mkF m 647 #[s0, s1, vI n1, s3, s4, s5, vI 3, vI c0, vI c1, vI c2, s10, s11, vR r1, vI 1, s14, vI (n1 + (13 : Int32))] []))
    refine Go.step (fun _ k => XS.iconst X_461.here hx rfl (hb hby at_647) k) ?_
    show Go p e below _ (T_461.setTop (mkF m 648 #[s0, s1, vI n1, s3, s4, s5, vI 3, vI c0, vI c1, vI c2, s10, s11, vR r1, vI 1, s14, vI (n1 + (13 : Int32))] [(.int (1 : Int32))]))
    refine Go.step (fun _ k => XS.goto X_461.here hx rfl (pc0 := 648) (pc' := 652) rfl (hb hby at_648) (by decide) (by decide) k) ?_
    show Go p e below _ (T_461.setTop (mkF m 652 #[s0, s1, vI n1, s3, s4, s5, vI 3, vI c0, vI c1, vI c2, s10, s11, vR r1, vI 1, s14, vI (n1 + (13 : Int32))] [(.int (1 : Int32))]))
    refine Go.step (fun _ k => XS.istore X_461.here hx rfl (hb hby at_652) rfl (l' := #[s0, s1, vI n1, s3, s4, s5, vI 3, vI c0, vI c1, vI c2, s10, s11, vR r1, vI 1, s14, vI (n1 + (13 : Int32))]) rfl k) ?_
    show Go p e below _ (T_461.setTop (mkF m 654 #[s0, s1, vI n1, s3, s4, s5, vI 3, vI c0, vI c1, vI c2, s10, s11, vR r1, vI 1, s14, vI (n1 + (13 : Int32))] []))
    refine Go.step (fun _ k => XS.iload X_461.here hx rfl (hb hby at_654) rfl  k) ?_
    show Go p e below _ (T_461.setTop (mkF m 656 #[s0, s1, vI n1, s3, s4, s5, vI 3, vI c0, vI c1, vI c2, s10, s11, vR r1, vI 1, s14, vI (n1 + (13 : Int32))] [(.int (1 : Int32))]))
    exact Go.retVW X_461 e_461 hS0 hk0 hZ hEL hh0 CR0 hx hlk hret rfl (Or.inl ⟨rfl, Or.inr (Or.inl rfl), _, rfl⟩) (hb hby at_656) (by (try dsimp only); omega) (by (try dsimp only); omega) (by exact ⟨rfl, N_461⟩)
--@E
theorem pats_len {n c0 c1 c2 : Int32} (h : n = 0 ∨ n = 1 ∨ n = 2 ∨ n = 3) : 3 ≤ (pats n c0 c1 c2).length ∧ (pats n c0 c1 c2).length ≤ 6 := by
  rcases h with rfl | rfl | rfl | rfl
  · exact ⟨Nat.le_of_ble_eq_true rfl, Nat.le_of_ble_eq_true rfl⟩
  · exact ⟨Nat.le_of_ble_eq_true rfl, Nat.le_of_ble_eq_true rfl⟩
  · exact ⟨Nat.le_of_ble_eq_true rfl, Nat.le_of_ble_eq_true rfl⟩
  · exact ⟨Nat.le_of_ble_eq_true rfl, Nat.le_of_ble_eq_true rfl⟩
--@C law
def Q_law (Z : State) (zc : Int32) (vfm : Value) (p0 : Int32) (p1 : Int32) (h0 : Heap) (n0 : Nat) (v : Option Value) (h : Heap) (L : List Loc) : Prop := v = some (.int (1 : Int32)) ∧ Fr n0 L
set_option maxRecDepth 65536 in
set_option maxHeartbeats 40000000 in
theorem rm_law (l : Launch) (Z : State) (a0 : Array Value) (hw : ∀ d ∈ tables_1, d.before a0 Z = true) (zc : Int32) (vfm : Value) (p0 : Int32) (p1 : Int32) (h0 : Heap) (n0 : Nat) (Z0 : n0 ≤ h0.size) (hSt : St Z zc vfm) (hO : Old Z n0 h0) :
    CW l Z EL x (Jvm.Cond.code x code maxLocals ret :: tables_1) room_1 #[(.int p0), (.int p1)] h0 (Q_law Z zc vfm p0 p1 h0 n0) := by
  refine CW.of (L0 := #[vI p0, vI p1, vU, vU, vU, vU, vU, vU, vU, vU, vU, vU, vU, vU, vU, vU]) (plainFor_of_name pn_8) (fun m => by first | (simp [entryFrame, mkF, argsToLocals, Value.category, maxLocals]; done) | rfl) ?_
  intro p e s m below meth c s₁ hx hby hml hret hlk hZ hown hnm X0 e0 hS0 hk0 CV0 hh0
  have hEL := hEL_ (a0 := a0) hw
  have hwS := hwS_ hw
  have N0 := Fr.nil n0
  have KP0 := Keep.refl h0 []
  have hSt_ := hSt
  obtain ⟨S_cs, n_cs, S_fm, r_fm⟩ := hSt_
  show Go p e below _ (s₁.setTop (mkF m 0 #[vI p0, vI p1, vU, vU, vU, vU, vU, vU, vU, vU, vU, vU, vU, vU, vU, vU] []))
  refine Go.step (fun _ k => XS.iloadN X0.here hx rfl (hb hby at_0) rfl  k) ?_
  refine Go.step (fun _ k => XS.bipush X0.here hx rfl (hb hby at_1) k) ?_
  show Go p e below _ (s₁.setTop (mkF m 3 #[vI p0, vI p1, vU, vU, vU, vU, vU, vU, vU, vU, vU, vU, vU, vU, vU, vU] [(.int (24 : Int32)), (.int p0)]))
  refine Go.step (fun _ k => XS.iushr X0.here hx rfl (hb hby at_3) rfl k) ?_
  show Go p e below _ (s₁.setTop (mkF m 4 #[vI p0, vI p1, vU, vU, vU, vU, vU, vU, vU, vU, vU, vU, vU, vU, vU, vU] [(.int ((p0.toUInt32 >>> ((24 : Int32) &&& 31).toUInt32).toInt32))]))
  refine Go.step (fun _ k => XS.iconst X0.here hx rfl (hb hby at_4) k) ?_
  show Go p e below _ (s₁.setTop (mkF m 5 #[vI p0, vI p1, vU, vU, vU, vU, vU, vU, vU, vU, vU, vU, vU, vU, vU, vU] [(.int (3 : Int32)), (.int ((p0.toUInt32 >>> ((24 : Int32) &&& 31).toUInt32).toInt32))]))
  refine Go.step (fun _ k => XS.iand X0.here hx rfl (hb hby at_5) rfl k) ?_
  show Go p e below _ (s₁.setTop (mkF m 6 #[vI p0, vI p1, vU, vU, vU, vU, vU, vU, vU, vU, vU, vU, vU, vU, vU, vU] [(.int (((p0.toUInt32 >>> ((24 : Int32) &&& 31).toUInt32).toInt32) &&& (3 : Int32)))]))
  refine Go.step (fun _ k => XS.istoreN X0.here hx rfl (hb hby at_6) rfl (l' := #[vI p0, vI p1, vI (((p0.toUInt32 >>> ((24 : Int32) &&& 31).toUInt32).toInt32) &&& (3 : Int32)), vU, vU, vU, vU, vU, vU, vU, vU, vU, vU, vU, vU, vU]) rfl k) ?_
  show Go p e below _ (s₁.setTop (mkF m 7 #[vI p0, vI p1, vI (((p0.toUInt32 >>> ((24 : Int32) &&& 31).toUInt32).toInt32) &&& (3 : Int32)), vU, vU, vU, vU, vU, vU, vU, vU, vU, vU, vU, vU, vU] []))
  obtain ⟨nn, h_nn⟩ : ∃ z, z = (((p0.toUInt32 >>> ((24 : Int32) &&& 31).toUInt32).toInt32) &&& (3 : Int32)) := ⟨_, rfl⟩
  rw [← h_nn]
  show Go p e below _ (s₁.setTop (mkF m 7 #[vI p0, vI p1, vI nn, vU, vU, vU, vU, vU, vU, vU, vU, vU, vU, vU, vU, vU] []))
  have h_n4 : nn = 0 ∨ nn = 1 ∨ nn = 2 ∨ nn = 3 := by rw [h_nn]; exact range4 _
  show Go p e below _ (s₁.setTop (mkF m 7 #[vI p0, vI p1, vI nn, vU, vU, vU, vU, vU, vU, vU, vU, vU, vU, vU, vU, vU] []))
  refine Go.step (fun _ k => XS.iloadN X0.here hx rfl (hb hby at_7) rfl  k) ?_
  refine Go.step (fun _ k => XS.sipush X0.here hx rfl (hb hby at_8) k) ?_
  show Go p e below _ (s₁.setTop (mkF m 11 #[vI p0, vI p1, vI nn, vU, vU, vU, vU, vU, vU, vU, vU, vU, vU, vU, vU, vU] [(.int (255 : Int32)), (.int p0)]))
  refine Go.step (fun _ k => XS.iand X0.here hx rfl (hb hby at_11) rfl k) ?_
  show Go p e below _ (s₁.setTop (mkF m 12 #[vI p0, vI p1, vI nn, vU, vU, vU, vU, vU, vU, vU, vU, vU, vU, vU, vU, vU] [(.int (p0 &&& (255 : Int32)))]))
  refine Go.step (fun _ k => XS.i2c X0.here hx rfl (hb hby at_12) rfl k) ?_
  show Go p e below _ (s₁.setTop (mkF m 13 #[vI p0, vI p1, vI nn, vU, vU, vU, vU, vU, vU, vU, vU, vU, vU, vU, vU, vU] [(.int (nar .char (p0 &&& (255 : Int32))))]))
  refine own_top (congrArg Value.int (show (nar .char (p0 &&& (255 : Int32))) = (p0 &&& (255 : Int32)) from nar255 _)) ?_
  show Go p e below _ (s₁.setTop (mkF m 13 #[vI p0, vI p1, vI nn, vU, vU, vU, vU, vU, vU, vU, vU, vU, vU, vU, vU, vU] [(.int (p0 &&& (255 : Int32)))]))
  refine Go.step (fun _ k => XS.istoreN X0.here hx rfl (hb hby at_13) rfl (l' := #[vI p0, vI p1, vI nn, vI (p0 &&& (255 : Int32)), vU, vU, vU, vU, vU, vU, vU, vU, vU, vU, vU, vU]) rfl k) ?_
  show Go p e below _ (s₁.setTop (mkF m 14 #[vI p0, vI p1, vI nn, vI (p0 &&& (255 : Int32)), vU, vU, vU, vU, vU, vU, vU, vU, vU, vU, vU, vU] []))
  obtain ⟨m0, h_m0⟩ : ∃ z, z = (p0 &&& (255 : Int32)) := ⟨_, rfl⟩
  rw [← h_m0]
  show Go p e below _ (s₁.setTop (mkF m 14 #[vI p0, vI p1, vI nn, vI m0, vU, vU, vU, vU, vU, vU, vU, vU, vU, vU, vU, vU] []))
  have l_m0 : ¬ m0 < 0 ∧ ¬ (255 : Int32) < m0 := by rw [h_m0]; exact lat255 _
  show Go p e below _ (s₁.setTop (mkF m 14 #[vI p0, vI p1, vI nn, vI m0, vU, vU, vU, vU, vU, vU, vU, vU, vU, vU, vU, vU] []))
  refine Go.step (fun _ k => XS.iloadN X0.here hx rfl (hb hby at_14) rfl  k) ?_
  refine Go.step (fun _ k => XS.bipush X0.here hx rfl (hb hby at_15) k) ?_
  show Go p e below _ (s₁.setTop (mkF m 17 #[vI p0, vI p1, vI nn, vI m0, vU, vU, vU, vU, vU, vU, vU, vU, vU, vU, vU, vU] [(.int (8 : Int32)), (.int p0)]))
  refine Go.step (fun _ k => XS.iushr X0.here hx rfl (hb hby at_17) rfl k) ?_
  show Go p e below _ (s₁.setTop (mkF m 18 #[vI p0, vI p1, vI nn, vI m0, vU, vU, vU, vU, vU, vU, vU, vU, vU, vU, vU, vU] [(.int ((p0.toUInt32 >>> ((8 : Int32) &&& 31).toUInt32).toInt32))]))
  refine Go.step (fun _ k => XS.sipush X0.here hx rfl (hb hby at_18) k) ?_
  show Go p e below _ (s₁.setTop (mkF m 21 #[vI p0, vI p1, vI nn, vI m0, vU, vU, vU, vU, vU, vU, vU, vU, vU, vU, vU, vU] [(.int (255 : Int32)), (.int ((p0.toUInt32 >>> ((8 : Int32) &&& 31).toUInt32).toInt32))]))
  refine Go.step (fun _ k => XS.iand X0.here hx rfl (hb hby at_21) rfl k) ?_
  show Go p e below _ (s₁.setTop (mkF m 22 #[vI p0, vI p1, vI nn, vI m0, vU, vU, vU, vU, vU, vU, vU, vU, vU, vU, vU, vU] [(.int (((p0.toUInt32 >>> ((8 : Int32) &&& 31).toUInt32).toInt32) &&& (255 : Int32)))]))
  refine Go.step (fun _ k => XS.i2c X0.here hx rfl (hb hby at_22) rfl k) ?_
  show Go p e below _ (s₁.setTop (mkF m 23 #[vI p0, vI p1, vI nn, vI m0, vU, vU, vU, vU, vU, vU, vU, vU, vU, vU, vU, vU] [(.int (nar .char (((p0.toUInt32 >>> ((8 : Int32) &&& 31).toUInt32).toInt32) &&& (255 : Int32))))]))
  refine own_top (congrArg Value.int (show (nar .char (((p0.toUInt32 >>> ((8 : Int32) &&& 31).toUInt32).toInt32) &&& (255 : Int32))) = (((p0.toUInt32 >>> ((8 : Int32) &&& 31).toUInt32).toInt32) &&& (255 : Int32)) from nar255 _)) ?_
  show Go p e below _ (s₁.setTop (mkF m 23 #[vI p0, vI p1, vI nn, vI m0, vU, vU, vU, vU, vU, vU, vU, vU, vU, vU, vU, vU] [(.int (((p0.toUInt32 >>> ((8 : Int32) &&& 31).toUInt32).toInt32) &&& (255 : Int32)))]))
  refine Go.step (fun _ k => XS.istore X0.here hx rfl (hb hby at_23) rfl (l' := #[vI p0, vI p1, vI nn, vI m0, vI (((p0.toUInt32 >>> ((8 : Int32) &&& 31).toUInt32).toInt32) &&& (255 : Int32)), vU, vU, vU, vU, vU, vU, vU, vU, vU, vU, vU]) rfl k) ?_
  show Go p e below _ (s₁.setTop (mkF m 25 #[vI p0, vI p1, vI nn, vI m0, vI (((p0.toUInt32 >>> ((8 : Int32) &&& 31).toUInt32).toInt32) &&& (255 : Int32)), vU, vU, vU, vU, vU, vU, vU, vU, vU, vU, vU] []))
  obtain ⟨m1, h_m1⟩ : ∃ z, z = (((p0.toUInt32 >>> ((8 : Int32) &&& 31).toUInt32).toInt32) &&& (255 : Int32)) := ⟨_, rfl⟩
  rw [← h_m1]
  show Go p e below _ (s₁.setTop (mkF m 25 #[vI p0, vI p1, vI nn, vI m0, vI m1, vU, vU, vU, vU, vU, vU, vU, vU, vU, vU, vU] []))
  have l_m1 : ¬ m1 < 0 ∧ ¬ (255 : Int32) < m1 := by rw [h_m1]; exact lat255 _
  show Go p e below _ (s₁.setTop (mkF m 25 #[vI p0, vI p1, vI nn, vI m0, vI m1, vU, vU, vU, vU, vU, vU, vU, vU, vU, vU, vU] []))
  refine Go.step (fun _ k => XS.iloadN X0.here hx rfl (hb hby at_25) rfl  k) ?_
  refine Go.step (fun _ k => XS.bipush X0.here hx rfl (hb hby at_26) k) ?_
  show Go p e below _ (s₁.setTop (mkF m 28 #[vI p0, vI p1, vI nn, vI m0, vI m1, vU, vU, vU, vU, vU, vU, vU, vU, vU, vU, vU] [(.int (16 : Int32)), (.int p0)]))
  refine Go.step (fun _ k => XS.iushr X0.here hx rfl (hb hby at_28) rfl k) ?_
  show Go p e below _ (s₁.setTop (mkF m 29 #[vI p0, vI p1, vI nn, vI m0, vI m1, vU, vU, vU, vU, vU, vU, vU, vU, vU, vU, vU] [(.int ((p0.toUInt32 >>> ((16 : Int32) &&& 31).toUInt32).toInt32))]))
  refine Go.step (fun _ k => XS.sipush X0.here hx rfl (hb hby at_29) k) ?_
  show Go p e below _ (s₁.setTop (mkF m 32 #[vI p0, vI p1, vI nn, vI m0, vI m1, vU, vU, vU, vU, vU, vU, vU, vU, vU, vU, vU] [(.int (255 : Int32)), (.int ((p0.toUInt32 >>> ((16 : Int32) &&& 31).toUInt32).toInt32))]))
  refine Go.step (fun _ k => XS.iand X0.here hx rfl (hb hby at_32) rfl k) ?_
  show Go p e below _ (s₁.setTop (mkF m 33 #[vI p0, vI p1, vI nn, vI m0, vI m1, vU, vU, vU, vU, vU, vU, vU, vU, vU, vU, vU] [(.int (((p0.toUInt32 >>> ((16 : Int32) &&& 31).toUInt32).toInt32) &&& (255 : Int32)))]))
  refine Go.step (fun _ k => XS.i2c X0.here hx rfl (hb hby at_33) rfl k) ?_
  show Go p e below _ (s₁.setTop (mkF m 34 #[vI p0, vI p1, vI nn, vI m0, vI m1, vU, vU, vU, vU, vU, vU, vU, vU, vU, vU, vU] [(.int (nar .char (((p0.toUInt32 >>> ((16 : Int32) &&& 31).toUInt32).toInt32) &&& (255 : Int32))))]))
  refine own_top (congrArg Value.int (show (nar .char (((p0.toUInt32 >>> ((16 : Int32) &&& 31).toUInt32).toInt32) &&& (255 : Int32))) = (((p0.toUInt32 >>> ((16 : Int32) &&& 31).toUInt32).toInt32) &&& (255 : Int32)) from nar255 _)) ?_
  show Go p e below _ (s₁.setTop (mkF m 34 #[vI p0, vI p1, vI nn, vI m0, vI m1, vU, vU, vU, vU, vU, vU, vU, vU, vU, vU, vU] [(.int (((p0.toUInt32 >>> ((16 : Int32) &&& 31).toUInt32).toInt32) &&& (255 : Int32)))]))
  refine Go.step (fun _ k => XS.istore X0.here hx rfl (hb hby at_34) rfl (l' := #[vI p0, vI p1, vI nn, vI m0, vI m1, vI (((p0.toUInt32 >>> ((16 : Int32) &&& 31).toUInt32).toInt32) &&& (255 : Int32)), vU, vU, vU, vU, vU, vU, vU, vU, vU, vU]) rfl k) ?_
  show Go p e below _ (s₁.setTop (mkF m 36 #[vI p0, vI p1, vI nn, vI m0, vI m1, vI (((p0.toUInt32 >>> ((16 : Int32) &&& 31).toUInt32).toInt32) &&& (255 : Int32)), vU, vU, vU, vU, vU, vU, vU, vU, vU, vU] []))
  obtain ⟨m2, h_m2⟩ : ∃ z, z = (((p0.toUInt32 >>> ((16 : Int32) &&& 31).toUInt32).toInt32) &&& (255 : Int32)) := ⟨_, rfl⟩
  rw [← h_m2]
  show Go p e below _ (s₁.setTop (mkF m 36 #[vI p0, vI p1, vI nn, vI m0, vI m1, vI m2, vU, vU, vU, vU, vU, vU, vU, vU, vU, vU] []))
  have l_m2 : ¬ m2 < 0 ∧ ¬ (255 : Int32) < m2 := by rw [h_m2]; exact lat255 _
  show Go p e below _ (s₁.setTop (mkF m 36 #[vI p0, vI p1, vI nn, vI m0, vI m1, vI m2, vU, vU, vU, vU, vU, vU, vU, vU, vU, vU] []))
  refine Go.step (fun _ k => XS.iloadN X0.here hx rfl (hb hby at_36) rfl  k) ?_
  refine Go.step (fun _ k => XS.bipush X0.here hx rfl (hb hby at_37) k) ?_
  show Go p e below _ (s₁.setTop (mkF m 39 #[vI p0, vI p1, vI nn, vI m0, vI m1, vI m2, vU, vU, vU, vU, vU, vU, vU, vU, vU, vU] [(.int (24 : Int32)), (.int p1)]))
  refine Go.step (fun _ k => XS.iushr X0.here hx rfl (hb hby at_39) rfl k) ?_
  show Go p e below _ (s₁.setTop (mkF m 40 #[vI p0, vI p1, vI nn, vI m0, vI m1, vI m2, vU, vU, vU, vU, vU, vU, vU, vU, vU, vU] [(.int ((p1.toUInt32 >>> ((24 : Int32) &&& 31).toUInt32).toInt32))]))
  refine Go.step (fun _ k => XS.iconst X0.here hx rfl (hb hby at_40) k) ?_
  show Go p e below _ (s₁.setTop (mkF m 41 #[vI p0, vI p1, vI nn, vI m0, vI m1, vI m2, vU, vU, vU, vU, vU, vU, vU, vU, vU, vU] [(.int (3 : Int32)), (.int ((p1.toUInt32 >>> ((24 : Int32) &&& 31).toUInt32).toInt32))]))
  refine Go.step (fun _ k => XS.iand X0.here hx rfl (hb hby at_41) rfl k) ?_
  show Go p e below _ (s₁.setTop (mkF m 42 #[vI p0, vI p1, vI nn, vI m0, vI m1, vI m2, vU, vU, vU, vU, vU, vU, vU, vU, vU, vU] [(.int (((p1.toUInt32 >>> ((24 : Int32) &&& 31).toUInt32).toInt32) &&& (3 : Int32)))]))
  refine Go.step (fun _ k => XS.istore X0.here hx rfl (hb hby at_42) rfl (l' := #[vI p0, vI p1, vI nn, vI m0, vI m1, vI m2, vI (((p1.toUInt32 >>> ((24 : Int32) &&& 31).toUInt32).toInt32) &&& (3 : Int32)), vU, vU, vU, vU, vU, vU, vU, vU, vU]) rfl k) ?_
  show Go p e below _ (s₁.setTop (mkF m 44 #[vI p0, vI p1, vI nn, vI m0, vI m1, vI m2, vI (((p1.toUInt32 >>> ((24 : Int32) &&& 31).toUInt32).toInt32) &&& (3 : Int32)), vU, vU, vU, vU, vU, vU, vU, vU, vU] []))
  obtain ⟨tt, h_tt⟩ : ∃ z, z = (((p1.toUInt32 >>> ((24 : Int32) &&& 31).toUInt32).toInt32) &&& (3 : Int32)) := ⟨_, rfl⟩
  rw [← h_tt]
  show Go p e below _ (s₁.setTop (mkF m 44 #[vI p0, vI p1, vI nn, vI m0, vI m1, vI m2, vI tt, vU, vU, vU, vU, vU, vU, vU, vU, vU] []))
  have h_t4 : tt = 0 ∨ tt = 1 ∨ tt = 2 ∨ tt = 3 := by rw [h_tt]; exact range4 _
  show Go p e below _ (s₁.setTop (mkF m 44 #[vI p0, vI p1, vI nn, vI m0, vI m1, vI m2, vI tt, vU, vU, vU, vU, vU, vU, vU, vU, vU] []))
  refine Go.step (fun _ k => XS.iloadN X0.here hx rfl (hb hby at_44) rfl  k) ?_
  refine Go.step (fun _ k => XS.sipush X0.here hx rfl (hb hby at_45) k) ?_
  show Go p e below _ (s₁.setTop (mkF m 48 #[vI p0, vI p1, vI nn, vI m0, vI m1, vI m2, vI tt, vU, vU, vU, vU, vU, vU, vU, vU, vU] [(.int (255 : Int32)), (.int p1)]))
  refine Go.step (fun _ k => XS.iand X0.here hx rfl (hb hby at_48) rfl k) ?_
  show Go p e below _ (s₁.setTop (mkF m 49 #[vI p0, vI p1, vI nn, vI m0, vI m1, vI m2, vI tt, vU, vU, vU, vU, vU, vU, vU, vU, vU] [(.int (p1 &&& (255 : Int32)))]))
  refine Go.step (fun _ k => XS.i2c X0.here hx rfl (hb hby at_49) rfl k) ?_
  show Go p e below _ (s₁.setTop (mkF m 50 #[vI p0, vI p1, vI nn, vI m0, vI m1, vI m2, vI tt, vU, vU, vU, vU, vU, vU, vU, vU, vU] [(.int (nar .char (p1 &&& (255 : Int32))))]))
  refine own_top (congrArg Value.int (show (nar .char (p1 &&& (255 : Int32))) = (p1 &&& (255 : Int32)) from nar255 _)) ?_
  show Go p e below _ (s₁.setTop (mkF m 50 #[vI p0, vI p1, vI nn, vI m0, vI m1, vI m2, vI tt, vU, vU, vU, vU, vU, vU, vU, vU, vU] [(.int (p1 &&& (255 : Int32)))]))
  refine Go.step (fun _ k => XS.istore X0.here hx rfl (hb hby at_50) rfl (l' := #[vI p0, vI p1, vI nn, vI m0, vI m1, vI m2, vI tt, vI (p1 &&& (255 : Int32)), vU, vU, vU, vU, vU, vU, vU, vU]) rfl k) ?_
  show Go p e below _ (s₁.setTop (mkF m 52 #[vI p0, vI p1, vI nn, vI m0, vI m1, vI m2, vI tt, vI (p1 &&& (255 : Int32)), vU, vU, vU, vU, vU, vU, vU, vU] []))
  obtain ⟨t0, h_t0⟩ : ∃ z, z = (p1 &&& (255 : Int32)) := ⟨_, rfl⟩
  rw [← h_t0]
  show Go p e below _ (s₁.setTop (mkF m 52 #[vI p0, vI p1, vI nn, vI m0, vI m1, vI m2, vI tt, vI t0, vU, vU, vU, vU, vU, vU, vU, vU] []))
  have l_t0 : ¬ t0 < 0 ∧ ¬ (255 : Int32) < t0 := by rw [h_t0]; exact lat255 _
  show Go p e below _ (s₁.setTop (mkF m 52 #[vI p0, vI p1, vI nn, vI m0, vI m1, vI m2, vI tt, vI t0, vU, vU, vU, vU, vU, vU, vU, vU] []))
  refine Go.step (fun _ k => XS.iloadN X0.here hx rfl (hb hby at_52) rfl  k) ?_
  refine Go.step (fun _ k => XS.bipush X0.here hx rfl (hb hby at_53) k) ?_
  show Go p e below _ (s₁.setTop (mkF m 55 #[vI p0, vI p1, vI nn, vI m0, vI m1, vI m2, vI tt, vI t0, vU, vU, vU, vU, vU, vU, vU, vU] [(.int (8 : Int32)), (.int p1)]))
  refine Go.step (fun _ k => XS.iushr X0.here hx rfl (hb hby at_55) rfl k) ?_
  show Go p e below _ (s₁.setTop (mkF m 56 #[vI p0, vI p1, vI nn, vI m0, vI m1, vI m2, vI tt, vI t0, vU, vU, vU, vU, vU, vU, vU, vU] [(.int ((p1.toUInt32 >>> ((8 : Int32) &&& 31).toUInt32).toInt32))]))
  refine Go.step (fun _ k => XS.sipush X0.here hx rfl (hb hby at_56) k) ?_
  show Go p e below _ (s₁.setTop (mkF m 59 #[vI p0, vI p1, vI nn, vI m0, vI m1, vI m2, vI tt, vI t0, vU, vU, vU, vU, vU, vU, vU, vU] [(.int (255 : Int32)), (.int ((p1.toUInt32 >>> ((8 : Int32) &&& 31).toUInt32).toInt32))]))
  refine Go.step (fun _ k => XS.iand X0.here hx rfl (hb hby at_59) rfl k) ?_
  show Go p e below _ (s₁.setTop (mkF m 60 #[vI p0, vI p1, vI nn, vI m0, vI m1, vI m2, vI tt, vI t0, vU, vU, vU, vU, vU, vU, vU, vU] [(.int (((p1.toUInt32 >>> ((8 : Int32) &&& 31).toUInt32).toInt32) &&& (255 : Int32)))]))
  refine Go.step (fun _ k => XS.i2c X0.here hx rfl (hb hby at_60) rfl k) ?_
  show Go p e below _ (s₁.setTop (mkF m 61 #[vI p0, vI p1, vI nn, vI m0, vI m1, vI m2, vI tt, vI t0, vU, vU, vU, vU, vU, vU, vU, vU] [(.int (nar .char (((p1.toUInt32 >>> ((8 : Int32) &&& 31).toUInt32).toInt32) &&& (255 : Int32))))]))
  refine own_top (congrArg Value.int (show (nar .char (((p1.toUInt32 >>> ((8 : Int32) &&& 31).toUInt32).toInt32) &&& (255 : Int32))) = (((p1.toUInt32 >>> ((8 : Int32) &&& 31).toUInt32).toInt32) &&& (255 : Int32)) from nar255 _)) ?_
  show Go p e below _ (s₁.setTop (mkF m 61 #[vI p0, vI p1, vI nn, vI m0, vI m1, vI m2, vI tt, vI t0, vU, vU, vU, vU, vU, vU, vU, vU] [(.int (((p1.toUInt32 >>> ((8 : Int32) &&& 31).toUInt32).toInt32) &&& (255 : Int32)))]))
  refine Go.step (fun _ k => XS.istore X0.here hx rfl (hb hby at_61) rfl (l' := #[vI p0, vI p1, vI nn, vI m0, vI m1, vI m2, vI tt, vI t0, vI (((p1.toUInt32 >>> ((8 : Int32) &&& 31).toUInt32).toInt32) &&& (255 : Int32)), vU, vU, vU, vU, vU, vU, vU]) rfl k) ?_
  show Go p e below _ (s₁.setTop (mkF m 63 #[vI p0, vI p1, vI nn, vI m0, vI m1, vI m2, vI tt, vI t0, vI (((p1.toUInt32 >>> ((8 : Int32) &&& 31).toUInt32).toInt32) &&& (255 : Int32)), vU, vU, vU, vU, vU, vU, vU] []))
  obtain ⟨t1, h_t1⟩ : ∃ z, z = (((p1.toUInt32 >>> ((8 : Int32) &&& 31).toUInt32).toInt32) &&& (255 : Int32)) := ⟨_, rfl⟩
  rw [← h_t1]
  show Go p e below _ (s₁.setTop (mkF m 63 #[vI p0, vI p1, vI nn, vI m0, vI m1, vI m2, vI tt, vI t0, vI t1, vU, vU, vU, vU, vU, vU, vU] []))
  have l_t1 : ¬ t1 < 0 ∧ ¬ (255 : Int32) < t1 := by rw [h_t1]; exact lat255 _
  show Go p e below _ (s₁.setTop (mkF m 63 #[vI p0, vI p1, vI nn, vI m0, vI m1, vI m2, vI tt, vI t0, vI t1, vU, vU, vU, vU, vU, vU, vU] []))
  refine Go.step (fun _ k => XS.iloadN X0.here hx rfl (hb hby at_63) rfl  k) ?_
  refine Go.step (fun _ k => XS.bipush X0.here hx rfl (hb hby at_64) k) ?_
  show Go p e below _ (s₁.setTop (mkF m 66 #[vI p0, vI p1, vI nn, vI m0, vI m1, vI m2, vI tt, vI t0, vI t1, vU, vU, vU, vU, vU, vU, vU] [(.int (16 : Int32)), (.int p1)]))
  refine Go.step (fun _ k => XS.iushr X0.here hx rfl (hb hby at_66) rfl k) ?_
  show Go p e below _ (s₁.setTop (mkF m 67 #[vI p0, vI p1, vI nn, vI m0, vI m1, vI m2, vI tt, vI t0, vI t1, vU, vU, vU, vU, vU, vU, vU] [(.int ((p1.toUInt32 >>> ((16 : Int32) &&& 31).toUInt32).toInt32))]))
  refine Go.step (fun _ k => XS.sipush X0.here hx rfl (hb hby at_67) k) ?_
  show Go p e below _ (s₁.setTop (mkF m 70 #[vI p0, vI p1, vI nn, vI m0, vI m1, vI m2, vI tt, vI t0, vI t1, vU, vU, vU, vU, vU, vU, vU] [(.int (255 : Int32)), (.int ((p1.toUInt32 >>> ((16 : Int32) &&& 31).toUInt32).toInt32))]))
  refine Go.step (fun _ k => XS.iand X0.here hx rfl (hb hby at_70) rfl k) ?_
  show Go p e below _ (s₁.setTop (mkF m 71 #[vI p0, vI p1, vI nn, vI m0, vI m1, vI m2, vI tt, vI t0, vI t1, vU, vU, vU, vU, vU, vU, vU] [(.int (((p1.toUInt32 >>> ((16 : Int32) &&& 31).toUInt32).toInt32) &&& (255 : Int32)))]))
  refine Go.step (fun _ k => XS.i2c X0.here hx rfl (hb hby at_71) rfl k) ?_
  show Go p e below _ (s₁.setTop (mkF m 72 #[vI p0, vI p1, vI nn, vI m0, vI m1, vI m2, vI tt, vI t0, vI t1, vU, vU, vU, vU, vU, vU, vU] [(.int (nar .char (((p1.toUInt32 >>> ((16 : Int32) &&& 31).toUInt32).toInt32) &&& (255 : Int32))))]))
  refine own_top (congrArg Value.int (show (nar .char (((p1.toUInt32 >>> ((16 : Int32) &&& 31).toUInt32).toInt32) &&& (255 : Int32))) = (((p1.toUInt32 >>> ((16 : Int32) &&& 31).toUInt32).toInt32) &&& (255 : Int32)) from nar255 _)) ?_
  show Go p e below _ (s₁.setTop (mkF m 72 #[vI p0, vI p1, vI nn, vI m0, vI m1, vI m2, vI tt, vI t0, vI t1, vU, vU, vU, vU, vU, vU, vU] [(.int (((p1.toUInt32 >>> ((16 : Int32) &&& 31).toUInt32).toInt32) &&& (255 : Int32)))]))
  refine Go.step (fun _ k => XS.istore X0.here hx rfl (hb hby at_72) rfl (l' := #[vI p0, vI p1, vI nn, vI m0, vI m1, vI m2, vI tt, vI t0, vI t1, vI (((p1.toUInt32 >>> ((16 : Int32) &&& 31).toUInt32).toInt32) &&& (255 : Int32)), vU, vU, vU, vU, vU, vU]) rfl k) ?_
  show Go p e below _ (s₁.setTop (mkF m 74 #[vI p0, vI p1, vI nn, vI m0, vI m1, vI m2, vI tt, vI t0, vI t1, vI (((p1.toUInt32 >>> ((16 : Int32) &&& 31).toUInt32).toInt32) &&& (255 : Int32)), vU, vU, vU, vU, vU, vU] []))
  obtain ⟨t2, h_t2⟩ : ∃ z, z = (((p1.toUInt32 >>> ((16 : Int32) &&& 31).toUInt32).toInt32) &&& (255 : Int32)) := ⟨_, rfl⟩
  rw [← h_t2]
  show Go p e below _ (s₁.setTop (mkF m 74 #[vI p0, vI p1, vI nn, vI m0, vI m1, vI m2, vI tt, vI t0, vI t1, vI t2, vU, vU, vU, vU, vU, vU] []))
  have l_t2 : ¬ t2 < 0 ∧ ¬ (255 : Int32) < t2 := by rw [h_t2]; exact lat255 _
  show Go p e below _ (s₁.setTop (mkF m 74 #[vI p0, vI p1, vI nn, vI m0, vI m1, vI m2, vI tt, vI t0, vI t1, vI t2, vU, vU, vU, vU, vU, vU] []))
  refine Go.step (fun _ k => XS.iloadN X0.here hx rfl (hb hby at_74) rfl  k) ?_
  refine Go.step (fun _ k => XS.iloadN X0.here hx rfl (hb hby at_75) rfl  k) ?_
  refine Go.step (fun _ k => XS.iload X0.here hx rfl (hb hby at_76) rfl  k) ?_
  refine Go.step (fun _ k => XS.iload X0.here hx rfl (hb hby at_78) rfl  k) ?_
  show Go p e below _ (s₁.setTop (mkF m 80 #[vI p0, vI p1, vI nn, vI m0, vI m1, vI m2, vI tt, vI t0, vI t1, vI t2, vU, vU, vU, vU, vU, vU] [(.int m2), (.int m1), (.int m0), (.int nn)]))
  obtain ⟨v_462, T_462, L_462, X_462, hQ_462, hS_462, hZ_462, hown_462, C_462, st_462⟩ := goSW X0 hx hZ (y := Y_35) hown hS0 hk0 (wd_0 hw) (wd_1 hw) (wd_2 hw) (wd_3 hw) (by decide) (backOfSH (W := 0) (rm_mk l Z a0 hw zc vfm (nn) (m0) (m1) (m2) h0 n0 (Nat.le_trans Z0 KP0.1) l_m0 l_m1 l_m2 hSt hO) hZ (wd_3 hw) (wd_2 hw) (by decide) (by decide) hEL CV0) e0 (g := (mkF m 80 #[vI p0, vI p1, vI nn, vI m0, vI m1, vI m2, vI tt, vI t0, vI t1, vI t2, vU, vU, vU, vU, vU, vU] [(.int m2), (.int m1), (.int m0), (.int nn)])) rfl (by rw [hml]; rfl) (argsL := [(.int nn), (.int m0), (.int m1), (.int m2)]) (rest := []) rfl (lenOf pd_29 rfl) rfl (by show 2 * 0 + _ ≤ _; exact Nat.le_of_eq rfl) (hb hby at_80) (by decide) (by decide)
  obtain ⟨r_462, rfl, Nq_462, K_462, u0_462, u1_462⟩ := hQ_462
  have N_462 := Fr.app N0 Nq_462
  have CR_462 := CHr.trans (CHr.refl CV0) C_462
  have le_462 : h0.size ≤ T_462.heap.size := K_462.1
  have KP_462 := KP0.trans K_462 all0
  have O_462 := hO.keep K_462 all0
  have sz_r_462 : h0.size ≤ r_462 := Nat.le_trans (Nat.le_refl _) u0_462
  have g_r_462 : n0 ≤ r_462 := Nat.le_trans Z0 sz_r_462
  refine Go.step st_462 ?_
  show Go p e below _ (T_462.setTop (mkF m 83 #[vI p0, vI p1, vI nn, vI m0, vI m1, vI m2, vI tt, vI t0, vI t1, vI t2, vU, vU, vU, vU, vU, vU] [(.ref r_462)]))
  refine Go.step (fun _ k => XS.astore X_462.here hx rfl (hb hby at_83) rfl rfl (l' := #[vI p0, vI p1, vI nn, vI m0, vI m1, vI m2, vI tt, vI t0, vI t1, vI t2, vR r_462, vU, vU, vU, vU, vU]) rfl k) ?_
  show Go p e below _ (T_462.setTop (mkF m 85 #[vI p0, vI p1, vI nn, vI m0, vI m1, vI m2, vI tt, vI t0, vI t1, vI t2, vR r_462, vU, vU, vU, vU, vU] []))
  refine Go.step (fun _ k => XS.iload X_462.here hx rfl (hb hby at_85) rfl  k) ?_
  refine Go.step (fun _ k => XS.iload X_462.here hx rfl (hb hby at_87) rfl  k) ?_
  refine Go.step (fun _ k => XS.iload X_462.here hx rfl (hb hby at_89) rfl  k) ?_
  refine Go.step (fun _ k => XS.iload X_462.here hx rfl (hb hby at_91) rfl  k) ?_
  show Go p e below _ (T_462.setTop (mkF m 93 #[vI p0, vI p1, vI nn, vI m0, vI m1, vI m2, vI tt, vI t0, vI t1, vI t2, vR r_462, vU, vU, vU, vU, vU] [(.int t2), (.int t1), (.int t0), (.int tt)]))
  obtain ⟨v_463, T_463, L_463, X_463, hQ_463, hS_463, hZ_463, hown_463, C_463, st_463⟩ := goSW X_462 hx hZ_462 (y := Y_36) hown_462 hS_462 (Nat.le_refl _) (wd_26 hw) (wd_27 hw) (wd_2 hw) (wd_28 hw) (by decide) (backOfSH (W := 0) (rm_pat l Z a0 hw zc vfm (tt) (t0) (t1) (t2) T_462.heap n0 (Nat.le_trans Z0 KP_462.1) l_t0 l_t1 l_t2 hSt O_462) hZ_462 (wd_28 hw) (wd_2 hw) (by decide) (by decide) hEL C_462.1) rfl (g := (mkF m 93 #[vI p0, vI p1, vI nn, vI m0, vI m1, vI m2, vI tt, vI t0, vI t1, vI t2, vR r_462, vU, vU, vU, vU, vU] [(.int t2), (.int t1), (.int t0), (.int tt)])) rfl (by rw [hml]; rfl) (argsL := [(.int tt), (.int t0), (.int t1), (.int t2)]) (rest := []) rfl (lenOf pd_29 rfl) rfl (by show 2 * 0 + _ ≤ _; exact Nat.le_of_eq rfl) (hb hby at_93) (by decide) (by decide)
  obtain ⟨r_463, rfl, Nq_463, K_463, u0_463, u1_463⟩ := hQ_463
  have N_463 := Fr.app N_462 Nq_463
  have CR_463 := CHr.trans CR_462 C_463
  have le_463 : T_462.heap.size ≤ T_463.heap.size := K_463.1
  have KP_463 := KP_462.trans K_463 all0
  have O_463 := O_462.keep K_463 all0
  have sz_r_463 : h0.size ≤ r_463 := Nat.le_trans le_462 u0_463
  have g_r_463 : n0 ≤ r_463 := Nat.le_trans Z0 sz_r_463
  refine Go.step st_463 ?_
  show Go p e below _ (T_463.setTop (mkF m 96 #[vI p0, vI p1, vI nn, vI m0, vI m1, vI m2, vI tt, vI t0, vI t1, vI t2, vR r_462, vU, vU, vU, vU, vU] [(.ref r_463)]))
  refine Go.step (fun _ k => XS.astore X_463.here hx rfl (hb hby at_96) rfl rfl (l' := #[vI p0, vI p1, vI nn, vI m0, vI m1, vI m2, vI tt, vI t0, vI t1, vI t2, vR r_462, vR r_463, vU, vU, vU, vU]) rfl k) ?_
  show Go p e below _ (T_463.setTop (mkF m 98 #[vI p0, vI p1, vI nn, vI m0, vI m1, vI m2, vI tt, vI t0, vI t1, vI t2, vR r_462, vR r_463, vU, vU, vU, vU] []))
  refine Go.step (fun _ k => XS.aload X_463.here hx rfl (hb hby at_98) rfl rfl k) ?_
  refine Go.step (fun _ k => XS.aload X_463.here hx rfl (hb hby at_100) rfl rfl k) ?_
  show Go p e below _ (T_463.setTop (mkF m 102 #[vI p0, vI p1, vI nn, vI m0, vI m1, vI m2, vI tt, vI t0, vI t1, vI t2, vR r_462, vR r_463, vU, vU, vU, vU] [(.ref r_463), (.ref r_462)]))
  have f464 : Str Z T_462.heap.size T_463.heap r_462 (mks nn m0 m1 m2) := (u1_462.keep K_463 all0)
  obtain ⟨v_465, T_465, L_465, X_465, hQ_465, hS_465, hZ_465, hown_465, C_465, st_465⟩ := goSW X_463 hx hZ_463 (y := Y_37) hown_463 hS_463 (Nat.le_refl _) (wd_40 hw) (wd_41 hw) (wd_42 hw) (wd_43 hw) (by decide) (backOfSH (W := 0) (rm_ep l Z a0 hw zc vfm (r_462) (r_463) ((mks nn m0 m1 m2)) ((pats tt t0 t1 t2)) T_463.heap n0 (Nat.le_trans Z0 KP_463.1) (f464.mono le_463) u1_463 (by rw [mks_len h_n4]; exact (clamp4 h_n4).2) (pats_len h_t4) hSt O_463) hZ_463 (wd_43 hw) (wd_42 hw) (by decide) (by decide) hEL C_463.1) rfl (g := (mkF m 102 #[vI p0, vI p1, vI nn, vI m0, vI m1, vI m2, vI tt, vI t0, vI t1, vI t2, vR r_462, vR r_463, vU, vU, vU, vU] [(.ref r_463), (.ref r_462)])) rfl (by rw [hml]; rfl) (argsL := [(.ref r_462), (.ref r_463)]) (rest := []) rfl (lenOf pd_30 rfl) rfl (by show 2 * 0 + _ ≤ _; exact Nat.le_of_eq rfl) (hb hby at_102) (by decide) (by decide)
  obtain ⟨r_465, rfl, Nq_465, K_465, u0_465, u1_465⟩ := hQ_465
  have N_465 := Fr.app N_463 Nq_465
  have CR_465 := CHr.trans CR_463 C_465
  have le_465 : T_463.heap.size ≤ T_465.heap.size := K_465.1
  have KP_465 := KP_463.trans K_465 all0
  have O_465 := O_463.keep K_465 all0
  have sz_r_465 : h0.size ≤ r_465 := Nat.le_trans (Nat.le_trans le_462 le_463) u0_465
  have g_r_465 : n0 ≤ r_465 := Nat.le_trans Z0 sz_r_465
  refine Go.step st_465 ?_
  show Go p e below _ (T_465.setTop (mkF m 105 #[vI p0, vI p1, vI nn, vI m0, vI m1, vI m2, vI tt, vI t0, vI t1, vI t2, vR r_462, vR r_463, vU, vU, vU, vU] [(.ref r_465)]))
  obtain ⟨rs, h_rs⟩ : ∃ z, z = (rsl nn m0 m1 m2 tt t0 t1 t2) := ⟨_, rfl⟩
  have Sr466 : Str Z T_465.heap.size T_465.heap r_465 rs := by rw [h_rs]; exact u1_465
  show Go p e below _ (T_465.setTop (mkF m 105 #[vI p0, vI p1, vI nn, vI m0, vI m1, vI m2, vI tt, vI t0, vI t1, vI t2, vR r_462, vR r_463, vU, vU, vU, vU] [(.ref r_465)]))
  refine Go.step (fun _ k => XS.astore X_465.here hx rfl (hb hby at_105) rfl rfl (l' := #[vI p0, vI p1, vI nn, vI m0, vI m1, vI m2, vI tt, vI t0, vI t1, vI t2, vR r_462, vR r_463, vR r_465, vU, vU, vU]) rfl k) ?_
  show Go p e below _ (T_465.setTop (mkF m 107 #[vI p0, vI p1, vI nn, vI m0, vI m1, vI m2, vI tt, vI t0, vI t1, vI t2, vR r_462, vR r_463, vR r_465, vU, vU, vU] []))
  refine Go.step (fun _ k => XS.aload X_465.here hx rfl (hb hby at_107) rfl rfl k) ?_
  show Go p e below _ (T_465.setTop (mkF m 109 #[vI p0, vI p1, vI nn, vI m0, vI m1, vI m2, vI tt, vI t0, vI t1, vI t2, vR r_462, vR r_463, vR r_465, vU, vU, vU] [(.ref r_465)]))
  have cp467 := Sr466
  obtain ⟨t468, kb468, -, -, Ex468, Fv468, Fc468, Av468, hl468, hn468⟩ := cp467
  obtain ⟨v_469, T_469, L_469, X_469, hQ_469, st_469⟩ := goV X_465 hx hZ_465 (y := Y_9) (z := Y_9) (kc := 0) (ks := 0) (QQ := fun v h' L => v = some (.int (Int32.ofNat rs.length)) ∧ L = [] ∧ h' = T_465.heap) hown_465 (wd_187 hw) (wd_73 hw) (notFace_of_selects (args := #[]) (mvT hZ_465 (wd_75 hw))) (wd_75 hw) (wd_74 hw) (by decide) (StrChars.Road.lenW (W := 0) (s := s.setVm T_465.vm) hZ_465 (sw_wordsLen hw) (kI := 4) (wd_5 hw) Ex468 Fv468 Fc468 Av468 (StrChars.Road.codOf rfl (fun c hc => (hl468 c hc).2)) (up255 hl468) (S_cs.ext O_465.2) n_cs hn468 (by decide) (by decide)) rfl Ex468 (g := (mkF m 109 #[vI p0, vI p1, vI nn, vI m0, vI m1, vI m2, vI tt, vI t0, vI t1, vI t2, vR r_462, vR r_463, vR r_465, vU, vU, vU] [(.ref r_465)])) rfl (by rw [hml]; rfl) (argsL := []) (rest := []) rfl (lenOf pd_8 rfl) rfl (by show 2 * 0 + _ ≤ _; exact Nat.le_of_eq rfl) (hb hby at_109) (by decide) (by decide)
  obtain ⟨rfl, rfl, e_469⟩ := hQ_469
  have N_469 := Fr.app N_465 (Fr.nil n0)
  refine Go.step st_469 ?_
  show Go p e below _ (T_469.setTop (mkF m 112 #[vI p0, vI p1, vI nn, vI m0, vI m1, vI m2, vI tt, vI t0, vI t1, vI t2, vR r_462, vR r_463, vR r_465, vU, vU, vU] [(.int (Int32.ofNat rs.length))]))
  refine Go.step (fun _ k => XS.iloadN X_469.here hx rfl (hb hby at_112) rfl  k) ?_
  refine Go.step (fun _ k => XS.bipush X_469.here hx rfl (hb hby at_113) k) ?_
  show Go p e below _ (T_469.setTop (mkF m 115 #[vI p0, vI p1, vI nn, vI m0, vI m1, vI m2, vI tt, vI t0, vI t1, vI t2, vR r_462, vR r_463, vR r_465, vU, vU, vU] [(.int (13 : Int32)), (.int nn), (.int (Int32.ofNat rs.length))]))
  refine Go.step (fun _ k => XS.iadd X_469.here hx rfl (hb hby at_115) rfl k) ?_
  show Go p e below _ (T_469.setTop (mkF m 116 #[vI p0, vI p1, vI nn, vI m0, vI m1, vI m2, vI tt, vI t0, vI t1, vI t2, vR r_462, vR r_463, vR r_465, vU, vU, vU] [(.int (nn + (13 : Int32))), (.int (Int32.ofNat rs.length))]))
  refine Go.step (fun _ k => XS.iload X_469.here hx rfl (hb hby at_116) rfl  k) ?_
  show Go p e below _ (T_469.setTop (mkF m 118 #[vI p0, vI p1, vI nn, vI m0, vI m1, vI m2, vI tt, vI t0, vI t1, vI t2, vR r_462, vR r_463, vR r_465, vU, vU, vU] [(.int tt), (.int (nn + (13 : Int32))), (.int (Int32.ofNat rs.length))]))
  refine Go.step (fun _ k => XS.iadd X_469.here hx rfl (hb hby at_118) rfl k) ?_
  show Go p e below _ (T_469.setTop (mkF m 119 #[vI p0, vI p1, vI nn, vI m0, vI m1, vI m2, vI tt, vI t0, vI t1, vI t2, vR r_462, vR r_463, vR r_465, vU, vU, vU] [(.int ((nn + (13 : Int32)) + tt)), (.int (Int32.ofNat rs.length))]))
  refine Go.step (fun _ k => XS.icmpYes X_469.here hx rfl (pc0 := 119) (pc' := 124) rfl (hb hby at_119) rfl (teq ((by rw [h_rs]; exact rs_len32 h_n4 h_t4) : (Int32.ofNat rs.length) = ((nn + (13 : Int32)) + tt))).1 (by decide) (by decide) k) ?_
  show Go p e below _ (T_469.setTop (mkF m 124 #[vI p0, vI p1, vI nn, vI m0, vI m1, vI m2, vI tt, vI t0, vI t1, vI t2, vR r_462, vR r_463, vR r_465, vU, vU, vU] []))
  refine Go.step (fun _ k => XS.iconst X_469.here hx rfl (hb hby at_124) k) ?_
  show Go p e below _ (T_469.setTop (mkF m 125 #[vI p0, vI p1, vI nn, vI m0, vI m1, vI m2, vI tt, vI t0, vI t1, vI t2, vR r_462, vR r_463, vR r_465, vU, vU, vU] [(.int (1 : Int32))]))
  refine Go.step (fun _ k => XS.istore X_469.here hx rfl (hb hby at_125) rfl (l' := #[vI p0, vI p1, vI nn, vI m0, vI m1, vI m2, vI tt, vI t0, vI t1, vI t2, vR r_462, vR r_463, vR r_465, vI 1, vU, vU]) rfl k) ?_
  show Go p e below _ (T_469.setTop (mkF m 127 #[vI p0, vI p1, vI nn, vI m0, vI m1, vI m2, vI tt, vI t0, vI t1, vI t2, vR r_462, vR r_463, vR r_465, vI 1, vU, vU] []))
  refine sg_head (s := s.setVm T_465.vm) l Z a0 hw zc vfm ((vI p0)) ((vI p1)) ((vI tt)) ((vI t0)) ((vI t1)) ((vI t2)) ((vR r_462)) ((vR r_463)) ((vU)) ((vU)) (nn) (m0) (m1) (m2) (r_465) (rs) T_465.heap n0 (Nat.le_trans Z0 KP_465.1) Sr466 h_n4 (by rw [h_rs]; exact rs_hd h_n4) (by rw [h_rs, rs_len h_n4 h_t4]; omega) hSt O_465 hx hby hml hZ_465 hown_465 X_469 e_469 N_469 (by decide) (by decide) ?_
  intro T_470 L_470 X_470 hQ_470
  obtain ⟨N_470, K_470⟩ := hQ_470
  have C_470 := CHr.keep K_470 sf0 C_465.1
  have CR_470 := CHr.trans CR_465 C_470
  have le_470 : T_465.heap.size ≤ T_470.heap.size := K_470.1
  have KP_470 := KP_465.trans K_470 all0
  have O_470 := O_465.keep K_470 all0
  show Go p e below _ (T_470.setTop (mkF m 209 #[vI p0, vI p1, vI nn, vI m0, vI m1, vI m2, vI tt, vI t0, vI t1, vI t2, vR r_462, vR r_463, vR r_465, vI 1, vU, vU] []))
  have f471 : Str Z T_465.heap.size T_470.heap r_465 rs := (Sr466.keep K_470 all0)
  refine sg_mid (s := s.setVm T_465.vm) l Z a0 hw zc vfm ((vI p0)) ((vI p1)) ((vI m0)) ((vI m1)) ((vI m2)) ((vI tt)) ((vI t0)) ((vI t1)) ((vI t2)) ((vR r_462)) ((vR r_463)) ((vU)) (nn) (nn.toNatClampNeg) (r_465) (rs) T_470.heap n0 (Nat.le_trans Z0 KP_470.1) (f471.mono le_470) (clamp4 h_n4).1 (by rw [h_rs]; exact rs_md h_n4) (by rw [h_rs, rs_len h_n4 h_t4]; omega) hSt O_470 hx hby hml hZ_465 hown_465 X_470 rfl N_470 (by decide) (by decide) ?_
  intro T_472 L_472 X_472 hQ_472
  obtain ⟨N_472, K_472⟩ := hQ_472
  have C_472 := CHr.keep K_472 sf0 C_470.1
  have CR_472 := CHr.trans CR_470 C_472
  have le_472 : T_470.heap.size ≤ T_472.heap.size := K_472.1
  have KP_472 := KP_470.trans K_472 all0
  have O_472 := O_470.keep K_472 all0
  show Go p e below _ (T_472.setTop (mkF m 555 #[vI p0, vI p1, vI nn, vI m0, vI m1, vI m2, vI tt, vI t0, vI t1, vI t2, vR r_462, vR r_463, vR r_465, vI 1, vI nn, vU] []))
  have f473 : Str Z T_465.heap.size T_472.heap r_465 rs := (f471.keep K_472 all0)
  exact tg_tail l Z a0 hw zc vfm ((vI p0)) ((vI p1)) ((vI m0)) ((vI m1)) ((vI m2)) ((vR r_462)) ((vR r_463)) ((vI nn)) (nn) (tt) (t0) (t1) (t2) (nn.toNatClampNeg) (r_465) (rs) T_472.heap n0 (Nat.le_trans Z0 KP_472.1) (f473.mono (Nat.le_trans le_470 le_472)) (clamp4 h_n4).1 h_t4 (by rw [h_rs]; exact rs_tl h_n4 h_t4) (by rw [h_rs, rs_len h_n4 h_t4]; exact Nat.le_refl _) hSt O_472 hx hby hml hret hlk hZ_465 hown_465 X_472 rfl N_472 hS_465 (Nat.le_trans (Nat.le_refl _) (Nat.le_trans le_470 le_472)) C_472.1 CR_472 hh0 (by decide) (by decide)
--@E
set_option maxRecDepth 65536 in
set_option maxHeartbeats 40000000 in
theorem comes_1 {Post : Tables → Env → Array Value → State → Outcome → State → Prop} (hpost : ∀ tb e args s v u, (limb_1_1.after args s (.returned v) u = true ∧ limb_1_2.after args s (.returned v) u = true ∧ True) → ReturnedEndW s (.returned v) u (Jvm.fieldLocs frame_1_writes args s ++ Jvm.arrayLocs frame_1_arrays args s ++ Jvm.staticLocs frame_1_statics s) 48 5440 → Post tb e args s (.returned v) u) :
    ArmFor flags0 classFile x code maxLocals ret World_1 tables_1 room_1 Calls_1 rest_1 Pre_1 Post := by
  intro l hfl _ _ p e ha hc hk s m args below hf hA hF happ hP
  obtain ⟨hcalls, hrest, hpre⟩ := hP
  obtain ⟨-, -, -, hnamed, -, -, -, hat⟩ := (Spec.applies_iff hf).mp happ
  obtain ⟨hg, hn⟩ := and_e (Cond.before_iff.mp (show (Jvm.Cond.and given_1 narrow_1).before args s = true from hpre))
  obtain ⟨g_c, g_0⟩ := and_e hg
  obtain ⟨ga_0, g_1⟩ := and_e g_0
  have ga_1 := g_1
  obtain ⟨w0, w1, rfl⟩ : ∃ w0 w1 : Value, args = #[w0, w1] := by
    have hs : args.size = 2 := by simpa [Cond.value, given_1] using g_c
    obtain ⟨L⟩ := args
    match L, hs with
    | [w0, w1], _ => exact ⟨w0, w1, rfl⟩
  have hw := fun d (hd : d ∈ tables_1) => atoms_spec (ws := Jvm.Cond.code x code maxLocals ret :: tables_1) hat d (List.mem_cons_of_mem _ hd)
  obtain ⟨hsets, hown0⟩ := atoms_of _ (rest_1_c_eq ▸ (show rest_1_c.before _ s = true from hrest))
  obtain ⟨i0, ei0⟩ := is_v ga_0
  obtain rfl : w0 = (.int i0) := Option.some.inj ei0
  obtain ⟨i1, ei1⟩ := is_v ga_1
  obtain rfl : w1 = (.int i1) := Option.some.inj ei1
  have hs := fun (k : Nat) (d : Jvm.Cond) (h : jdkStatics_1[k]? = some d) => Cond.before_iff.mp (hsets d (List.mem_of_getElem? h))
  obtain ⟨zc, ezc⟩ := is_v (hs 1 _ rfl)
  have S_cs : Sta s s.heap "java/lang/String" "COMPACT_STRINGS" "Z" (.int zc) := Sta.start ezc (Or.inl (hsets _ (List.mem_of_getElem? (i := 0) rfl)))
  have n_cs : ¬ (zc = (0 : Int32)) := gotF (Cond.eq_ints ezc (Term.int_eval (0))) (not_v (hs 2 _ rfl))
  obtain ⟨vfm, v_fm, r_fm⟩ := isR_v (hs 8 _ rfl)
  have S_fm : Sta s s.heap "jdk/internal/util/Preconditions" "SIOOBE_FORMATTER" "Ljava/util/function/BiFunction;" vfm := Sta.start v_fm (Or.inl (hsets _ (List.mem_of_getElem? (i := 7) rfl)))
  have hSt : St s zc vfm := ⟨S_cs, n_cs, S_fm, r_fm⟩
  have hCV : CHv s EL s.vm s.heap := CHv.start (hEL_ hw) hcalls.1 (hsets _ (List.mem_of_getElem? (i := 2) rfl)) (wd_19 hw) (wd_5 hw)
  obtain ⟨n, o, h1, h2, h3, _, L, rfl, ⟨rfl, N⟩, -, hq⟩ := rm_law l s _ hw zc vfm i0 i1 s.heap s.heap.size (Nat.le_refl _) hSt (Old.start s) p e ha hc hk s m _ below hf ((Spec.applies_iff_loose hf).mp happ).1 ⟨rfl, State.Warmed39.refl s, rfl, hCV⟩ trivial
  refine ⟨n, _, h1, h2, h3, hpost _ _ _ _ _ _ ⟨Cond.after_iff.mpr rfl, Cond.after_iff.mpr (eq_i res_at (Term.int_eval (1)) rfl), trivial⟩ ⟨hq.1, hq.2.1, hq.2.2.1, (hq.2.2.2.sift fun y hy => Or.inr (N y hy)).mono (by decide) (by decide)⟩⟩
theorem main_1_1 : Claimed_1_1 := comes_1 fun _ _ _ _ _ _ h hF => ⟨h.1, hF⟩
theorem main_1_2 : Claimed_1_2 := comes_1 fun _ _ _ _ _ _ h hF => ⟨h.2.1, hF⟩
end Jvm.Pilot.@@N@@
namespace Jvm.Pilot.@@N@@
open Jvm Jvm.ClassFile Sem Op Lib Jvm.Free Jvm.Stand Jvm.Pilot.@@N@@.Jvm.D
/-! MADE BY PROGRAM (witnessworld.py) out of the Statement's table words and the real class files: 26 classes; the members and pool entries that the words name. The judged class is class 1, her method 3. -/
namespace start1
open Jvm.ClassFile
def u (s : String) : CpInfo := .utf8 (stringToUtf16 s)
/-- a pool by its gaps: so many unusable entries, then the entry; so many at the end -/
def gap : Nat → List CpInfo → List CpInfo
  | 0, r => r
  | n + 1, r => .unusable :: gap n r
def poolList (es : List (Nat × CpInfo)) (last : Nat) : List CpInfo := es.foldr (fun e r => gap e.1 (e.2 :: r)) (gap last [])
def pool (es : List (Nat × CpInfo)) (last : Nat) : Array CpInfo := ⟨poolList es last⟩
def fileOf (pool : Array CpInfo) (this : Nat) (attrs : Array Attribute := #[]) (ms : Array MethodInfo := #[]) (fl : Nat := 33) (sup : Nat := 0) (ifs : Array Nat := #[]) (fds : Array FieldInfo := #[]) : ClassFile where
  minorVersion := 0
  majorVersion := 65
  constantPool := pool
  accessFlags := fl
  thisClass := this
  superClass := sup
  interfaces := ifs
  fields := fds
  methods := ms
  attributes := attrs
def plain (name : String) (sup : Option ClassId) : Class where
  name := name
  kind := .ordinary
  loader := none
  accessFlags := 33
  super := sup
  interfaces := #[]
  cf := none
  fields := #[]
  methods := #[]
  instanceTypes := #[]
  staticTypes := #[]
  resolved := #[]
  callSites := []
  init := .initialized
  statics := none
  mirror := none

def pool0 : Array CpInfo := pool [(5, u "<init>"), (0, u "()V"), (1, .class_ 10), (1, u "java/lang/Object"), (85, u "clone"), (0, u "()Ljava/lang/Object;")] 26

def k0c0 : Code := { maxStack := 0, maxLocals := 1, code := object_method_1_code, exceptionTable := #[], attributes := #[] }
def k0m0 : Method := { name := "<init>", desc := "()V", sig := { parameters := [], returnType := none }, accessFlags := 1, code := some k0c0 }
def k0m1 : Method := { name := "clone", desc := "()Ljava/lang/Object;", sig := { parameters := [], returnType := some (.object "java/lang/Object") }, accessFlags := 260, code := none }
/-- java/lang/Object -/
def k0 : Class := { plain "java/lang/Object" none with
  accessFlags := 33
  interfaces := #[]
  cf := some (fileOf pool0 8 #[] #[{ accessFlags := 1, nameIndex := 5, descriptorIndex := 6, attributes := #[] }, { accessFlags := 260, nameIndex := 96, descriptorIndex := 97, attributes := #[] }] 33 0 #[] #[])
  fields := #[]
  methods := #[k0m0, k0m1]
  instanceTypes := #[]
  staticTypes := #[]
  resolved := Array.replicate 124 none
  statics := none }

def pool1 : Array CpInfo := pool [(2, .class_ 4), (1, u "java/lang/Object"), (0, u "<init>"), (0, u "()V"), (0, .class_ 8), (0, u "java/lang/String"), (0, .methodref 7 10), (0, .nameAndType 5 11), (0, u "([C)V"), (0, .methodref 13 14), (0, .class_ 15), (0, .nameAndType 16 17), (0, u "com/example/lakehouse_catalog/lakehousecatalog/iceberg/IcebergRoutesEndpointPinLaw"), (0, u "mk"), (0, u "(ICCC)Ljava/lang/String;"), (0, .methodref 13 19), (0, .nameAndType 20 17), (0, u "pat"), (0, .methodref 22 23), (0, .class_ 24), (0, .nameAndType 25 26), (0, u "com/example/lakehouse_catalog/lakehousecatalog/iceberg/IcebergRoutes"), (0, u "endpoint"), (0, u "(Ljava/lang/String;Ljava/lang/String;)Ljava/lang/String;"), (0, .methodref 7 28), (0, .nameAndType 29 30), (0, u "length"), (0, u "()I"), (0, .methodref 7 32), (0, .nameAndType 33 34), (0, u "charAt"), (0, u "(I)C"), (3, u "law"), (0, u "(II)Z")] 2

def k1m0 : Method := { name := "<init>", desc := "()V", sig := { parameters := [], returnType := none }, accessFlags := 1, code := none }
def k1c1 : Code := { maxStack := 6, maxLocals := 4, code := method_2_code, exceptionTable := #[], attributes := #[] }
def k1m1 : Method := { name := "mk", desc := "(ICCC)Ljava/lang/String;", sig := { parameters := [.int, .char, .char, .char], returnType := some (.object "java/lang/String") }, accessFlags := 10, code := some k1c1 }
def k1c2 : Code := { maxStack := 6, maxLocals := 4, code := method_3_code, exceptionTable := #[], attributes := #[] }
def k1m2 : Method := { name := "pat", desc := "(ICCC)Ljava/lang/String;", sig := { parameters := [.int, .char, .char, .char], returnType := some (.object "java/lang/String") }, accessFlags := 10, code := some k1c2 }
def k1c3 : Code := { maxStack := 4, maxLocals := 16, code := code, exceptionTable := #[], attributes := #[] }
def k1m3 : Method := { name := "law", desc := "(II)Z", sig := { parameters := [.int, .int], returnType := some .boolean }, accessFlags := 9, code := some k1c3 }
/-- com/example/lakehouse_catalog/lakehousecatalog/iceberg/IcebergRoutesEndpointPinLaw -/
def k1 : Class := { plain "com/example/lakehouse_catalog/lakehousecatalog/iceberg/IcebergRoutesEndpointPinLaw" (some 0) with
  accessFlags := 49
  interfaces := #[]
  cf := some (fileOf pool1 13 #[] #[{ accessFlags := 1, nameIndex := 5, descriptorIndex := 6, attributes := #[] }, { accessFlags := 10, nameIndex := 16, descriptorIndex := 17, attributes := #[] }, { accessFlags := 10, nameIndex := 20, descriptorIndex := 17, attributes := #[] }, { accessFlags := 9, nameIndex := 38, descriptorIndex := 39, attributes := #[] }] 49 2 #[] #[])
  fields := #[]
  methods := #[k1m0, k1m1, k1m2, k1m3]
  instanceTypes := #[]
  staticTypes := #[]
  resolved := Array.replicate 42 none
  statics := none }

def pool2 : Array CpInfo := pool [(1, .class_ 2), (0, u "java/io/Serializable"), (0, .class_ 4), (0, u "java/lang/Object")] 2

/-- java/io/Serializable -/
def k2 : Class := { plain "java/io/Serializable" (some 0) with
  accessFlags := 1537
  interfaces := #[]
  cf := some (fileOf pool2 1 #[] #[] 1537 3 #[] #[])
  fields := #[]
  methods := #[]
  instanceTypes := #[]
  staticTypes := #[]
  resolved := Array.replicate 7 none
  statics := none }

def pool3 : Array CpInfo := pool [(1, .class_ 2), (0, u "java/lang/Comparable"), (0, .class_ 4), (0, u "java/lang/Object")] 7

/-- java/lang/Comparable -/
def k3 : Class := { plain "java/lang/Comparable" (some 0) with
  accessFlags := 1537
  interfaces := #[]
  cf := some (fileOf pool3 1 #[] #[] 1537 3 #[] #[])
  fields := #[]
  methods := #[]
  instanceTypes := #[]
  staticTypes := #[]
  resolved := Array.replicate 12 none
  statics := none }

def pool4 : Array CpInfo := pool [(2, .class_ 4), (1, u "java/lang/CharSequence"), (42, .class_ 48), (0, u "java/lang/CharSequence$1CodePointIterator"), (10, .class_ 60), (0, u "java/lang/CharSequence$1CharIterator"), (5, .class_ 67), (0, u "java/lang/Object")] 63

/-- java/lang/CharSequence -/
def k4 : Class := { plain "java/lang/CharSequence" (some 0) with
  accessFlags := 1537
  interfaces := #[]
  cf := some (fileOf pool4 2 #[.nestMembers #[47, 59]] #[] 1537 66 #[] #[])
  fields := #[]
  methods := #[]
  instanceTypes := #[]
  staticTypes := #[]
  resolved := Array.replicate 131 none
  statics := none }

def pool5 : Array CpInfo := pool [(1, .class_ 2), (0, u "java/lang/constant/Constable"), (0, .class_ 4), (0, u "java/lang/Object")] 6

/-- java/lang/constant/Constable -/
def k5 : Class := { plain "java/lang/constant/Constable" (some 0) with
  accessFlags := 1537
  interfaces := #[]
  cf := some (fileOf pool5 1 #[] #[] 1537 3 #[] #[])
  fields := #[]
  methods := #[]
  instanceTypes := #[]
  staticTypes := #[]
  resolved := Array.replicate 11 none
  statics := none }

def pool6 : Array CpInfo := pool [(1, .class_ 2), (0, u "java/lang/constant/ConstantDesc"), (0, .class_ 4), (0, u "java/lang/Object")] 32

/-- java/lang/constant/ConstantDesc -/
def k6 : Class := { plain "java/lang/constant/ConstantDesc" (some 0) with
  accessFlags := 1537
  interfaces := #[]
  cf := some (fileOf pool6 1 #[] #[] 1537 3 #[] #[])
  fields := #[]
  methods := #[]
  instanceTypes := #[]
  staticTypes := #[]
  resolved := Array.replicate 37 none
  statics := none }

def pool7 : Array CpInfo := pool [(1, .methodref 2 3), (0, .class_ 4), (0, .nameAndType 5 6), (0, u "java/lang/Object"), (0, u "<init>"), (0, u "()V"), (0, .string 8), (0, u ""), (0, .fieldref 10 11), (0, .class_ 12), (0, .nameAndType 13 14), (0, u "java/lang/String"), (0, u "value"), (0, u "[B"), (0, .fieldref 10 16), (0, .nameAndType 17 18), (0, u "coder"), (0, u "B"), (2, u "hash"), (0, u "I"), (2, u "hashIsZero"), (0, u "Z"), (0, .methodref 10 28), (0, .nameAndType 5 29), (0, u "([CIILjava/lang/Void;)V"), (8, .fieldref 10 39), (0, .nameAndType 40 26), (0, u "COMPACT_STRINGS"), (1, .class_ 44), (1, u "java/lang/StringUTF16"), (0, u "compress"), (1, .methodref 42 48), (0, .nameAndType 49 50), (0, u "coderFromArrayLen"), (0, u "([BI)B"), (3, .methodref 55 56), (0, .class_ 57), (0, .nameAndType 58 59), (0, u "java/util/Arrays"), (0, u "copyOfRange"), (0, u "([BII)[B"), (47, .class_ 109), (1, u "java/lang/StringLatin1"), (32, u "()Z"), (34, .methodref 42 178), (0, .nameAndType 45 179), (0, u "([CII)[B"), (13, .class_ 195), (1, u "java/lang/System"), (15, u "([BB)V"), (0, .methodref 193 213), (0, .nameAndType 214 215), (0, u "arraycopy"), (0, u "(Ljava/lang/Object;ILjava/lang/Object;II)V"), (118, u "()I"), (0, .methodref 10 336), (0, .nameAndType 17 337), (0, u "()B"), (2, u "()[B"), (22, u "([BI)C"), (27, u "(II)V"), (35, u "(I)C"), (61, .methodref 10 490), (0, .nameAndType 5 491), (0, u "(Ljava/lang/AbstractStringBuilder;Ljava/lang/Void;)V"), (0, .methodref 10 493), (0, .nameAndType 494 142), (0, u "isLatin1"), (0, .methodref 107 496), (0, .nameAndType 497 363), (0, u "charAt"), (3, u "checkIndex"), (3, .methodref 10 506), (0, .nameAndType 507 334), (0, u "length"), (5, u "checkFromToIndex"), (7, .methodref 10 522), (0, .nameAndType 523 524), (0, u "checkBoundsBeginEnd"), (0, u "(III)V"), (7, u "getBytes"), (16, .methodref 550 506), (0, .class_ 551), (0, u "java/lang/AbstractStringBuilder"), (0, .methodref 550 553), (0, .nameAndType 554 340), (0, u "getValue"), (20, .class_ 576), (0, u "java/lang/CharSequence"), (22, u "CASE_INSENSITIVE_ORDER"), (0, u "Ljava/util/Comparator;"), (80, .methodref 10 682), (0, .nameAndType 683 684), (0, u "substring"), (0, u "(II)Ljava/lang/String;"), (0, .methodref 107 686), (0, .nameAndType 687 688), (0, u "newString"), (0, u "([BII)Ljava/lang/String;"), (132, u "([BIB)V"), (70, u "(I)Ljava/lang/String;"), (117, u "([C)V"), (36, .methodref 550 493), (5, .fieldref 1054 1055), (0, .class_ 1056), (0, .nameAndType 1057 1058), (0, u "jdk/internal/util/Preconditions"), (0, u "SIOOBE_FORMATTER"), (0, u "Ljava/util/function/BiFunction;"), (0, .methodref 1054 1060), (0, .nameAndType 501 1061), (0, u "(IILjava/util/function/BiFunction;)I"), (0, .methodref 1054 1063), (0, .nameAndType 513 1064), (0, u "(IIILjava/util/function/BiFunction;)I"), (36, u "serialPersistentFields"), (0, u "[Ljava/io/ObjectStreamField;"), (0, .class_ 1104), (0, u "java/lang/String$CaseInsensitiveComparator"), (1, .class_ 1107), (0, u "java/io/Serializable"), (0, .class_ 1109), (0, u "java/lang/Comparable"), (0, .class_ 1111), (0, u "java/lang/constant/Constable"), (0, .class_ 1113), (0, u "java/lang/constant/ConstantDesc"), (2, u "serialVersionUID"), (0, u "J"), (3, u "REPL"), (0, u "C"), (2, u "LATIN1"), (1, u "UTF16"), (105, u "(Ljava/lang/StringBuilder;)V")] 217

def k7m0 : Method := { name := "<init>", desc := "()V", sig := { parameters := [], returnType := none }, accessFlags := 1, code := none }
def k7c1 : Code := { maxStack := 5, maxLocals := 2, code := jdk_42_method_3_code, exceptionTable := #[], attributes := #[] }
def k7m1 : Method := { name := "<init>", desc := "([C)V", sig := { parameters := [(.array .char)], returnType := none }, accessFlags := 1, code := some k7c1 }
def k7c2 : Code := { maxStack := 3, maxLocals := 2, code := jdk_42_method_53_code, exceptionTable := #[], attributes := #[] }
def k7m2 : Method := { name := "<init>", desc := "(Ljava/lang/StringBuilder;)V", sig := { parameters := [(.object "java/lang/StringBuilder")], returnType := none }, accessFlags := 1, code := some k7c2 }
def k7c3 : Code := { maxStack := 2, maxLocals := 1, code := jdk_42_method_54_code, exceptionTable := #[], attributes := #[] }
def k7m3 : Method := { name := "length", desc := "()I", sig := { parameters := [], returnType := some .int }, accessFlags := 1, code := some k7c3 }
def k7c4 : Code := { maxStack := 2, maxLocals := 2, code := jdk_42_method_56_code, exceptionTable := #[], attributes := #[] }
def k7m4 : Method := { name := "charAt", desc := "(I)C", sig := { parameters := [.int], returnType := some .char }, accessFlags := 1, code := some k7c4 }
def k7c5 : Code := { maxStack := 3, maxLocals := 2, code := jdk_42_method_91_code, exceptionTable := #[], attributes := #[] }
def k7m5 : Method := { name := "substring", desc := "(I)Ljava/lang/String;", sig := { parameters := [.int], returnType := some (.object "java/lang/String") }, accessFlags := 1, code := some k7c5 }
def k7c6 : Code := { maxStack := 3, maxLocals := 5, code := jdk_42_method_92_code, exceptionTable := #[], attributes := #[] }
def k7m6 : Method := { name := "substring", desc := "(II)Ljava/lang/String;", sig := { parameters := [.int, .int], returnType := some (.object "java/lang/String") }, accessFlags := 1, code := some k7c6 }
def k7c7 : Code := { maxStack := 5, maxLocals := 4, code := jdk_42_method_147_code, exceptionTable := #[], attributes := #[] }
def k7m7 : Method := { name := "getBytes", desc := "([BIB)V", sig := { parameters := [(.array .byte), .int, .byte], returnType := none }, accessFlags := 0, code := some k7c7 }
def k7c8 : Code := { maxStack := 4, maxLocals := 6, code := jdk_42_method_149_code, exceptionTable := #[], attributes := #[] }
def k7m8 : Method := { name := "<init>", desc := "([CIILjava/lang/Void;)V", sig := { parameters := [(.array .char), .int, .int, (.object "java/lang/Void")], returnType := none }, accessFlags := 2, code := some k7c8 }
def k7c9 : Code := { maxStack := 5, maxLocals := 5, code := jdk_42_method_150_code, exceptionTable := #[], attributes := #[] }
def k7m9 : Method := { name := "<init>", desc := "(Ljava/lang/AbstractStringBuilder;Ljava/lang/Void;)V", sig := { parameters := [(.object "java/lang/AbstractStringBuilder"), (.object "java/lang/Void")], returnType := none }, accessFlags := 0, code := some k7c9 }
def k7c10 : Code := { maxStack := 2, maxLocals := 3, code := jdk_42_method_151_code, exceptionTable := #[], attributes := #[] }
def k7m10 : Method := { name := "<init>", desc := "([BB)V", sig := { parameters := [(.array .byte), .byte], returnType := none }, accessFlags := 0, code := some k7c10 }
def k7c11 : Code := { maxStack := 1, maxLocals := 1, code := jdk_42_method_152_code, exceptionTable := #[], attributes := #[] }
def k7m11 : Method := { name := "coder", desc := "()B", sig := { parameters := [], returnType := some .byte }, accessFlags := 0, code := some k7c11 }
def k7c12 : Code := { maxStack := 1, maxLocals := 1, code := jdk_42_method_154_code, exceptionTable := #[], attributes := #[] }
def k7m12 : Method := { name := "isLatin1", desc := "()Z", sig := { parameters := [], returnType := some .boolean }, accessFlags := 0, code := some k7c12 }
def k7c13 : Code := { maxStack := 3, maxLocals := 2, code := jdk_42_method_155_code, exceptionTable := #[], attributes := #[] }
def k7m13 : Method := { name := "checkIndex", desc := "(II)V", sig := { parameters := [.int, .int], returnType := none }, accessFlags := 8, code := some k7c13 }
def k7c14 : Code := { maxStack := 4, maxLocals := 3, code := jdk_42_method_158_code, exceptionTable := #[], attributes := #[] }
def k7m14 : Method := { name := "checkBoundsBeginEnd", desc := "(III)V", sig := { parameters := [.int, .int, .int], returnType := none }, accessFlags := 8, code := some k7c14 }
/-- java/lang/String -/
def k7 : Class := { plain "java/lang/String" (some 0) with
  accessFlags := 49
  interfaces := #[2, 3, 4, 5, 6]
  cf := some (fileOf pool7 10 #[.nestMembers #[1103]] #[{ accessFlags := 1, nameIndex := 5, descriptorIndex := 6, attributes := #[] }, { accessFlags := 1, nameIndex := 5, descriptorIndex := 1010, attributes := #[] }, { accessFlags := 1, nameIndex := 5, descriptorIndex := 1233, attributes := #[] }, { accessFlags := 1, nameIndex := 507, descriptorIndex := 334, attributes := #[] }, { accessFlags := 1, nameIndex := 497, descriptorIndex := 427, attributes := #[] }, { accessFlags := 1, nameIndex := 683, descriptorIndex := 892, attributes := #[] }, { accessFlags := 1, nameIndex := 683, descriptorIndex := 684, attributes := #[] }, { accessFlags := 0, nameIndex := 532, descriptorIndex := 821, attributes := #[] }, { accessFlags := 2, nameIndex := 5, descriptorIndex := 29, attributes := #[] }, { accessFlags := 0, nameIndex := 5, descriptorIndex := 491, attributes := #[] }, { accessFlags := 0, nameIndex := 5, descriptorIndex := 211, attributes := #[] }, { accessFlags := 0, nameIndex := 17, descriptorIndex := 337, attributes := #[] }, { accessFlags := 0, nameIndex := 494, descriptorIndex := 142, attributes := #[] }, { accessFlags := 8, nameIndex := 501, descriptorIndex := 391, attributes := #[] }, { accessFlags := 8, nameIndex := 523, descriptorIndex := 524, attributes := #[] }] 49 2 #[1106, 1108, 575, 1110, 1112] #[{ accessFlags := 18, nameIndex := 13, descriptorIndex := 14, attributes := #[] }, { accessFlags := 18, nameIndex := 17, descriptorIndex := 18, attributes := #[] }, { accessFlags := 2, nameIndex := 21, descriptorIndex := 22, attributes := #[] }, { accessFlags := 2, nameIndex := 25, descriptorIndex := 26, attributes := #[] }, { accessFlags := 26, nameIndex := 1116, descriptorIndex := 1117, attributes := #[] }, { accessFlags := 24, nameIndex := 40, descriptorIndex := 26, attributes := #[] }, { accessFlags := 26, nameIndex := 1101, descriptorIndex := 1102, attributes := #[] }, { accessFlags := 26, nameIndex := 1121, descriptorIndex := 1122, attributes := #[] }, { accessFlags := 25, nameIndex := 599, descriptorIndex := 600, attributes := #[] }, { accessFlags := 24, nameIndex := 1125, descriptorIndex := 18, attributes := #[] }, { accessFlags := 24, nameIndex := 1127, descriptorIndex := 18, attributes := #[] }])
  fields := #[{ name := "value", type := (.array .byte), accessFlags := 18, slot := 0, constantValue := 0 }, { name := "coder", type := .byte, accessFlags := 18, slot := 1, constantValue := 0 }, { name := "hash", type := .int, accessFlags := 2, slot := 2, constantValue := 0 }, { name := "hashIsZero", type := .boolean, accessFlags := 2, slot := 3, constantValue := 0 }, { name := "serialVersionUID", type := .long, accessFlags := 26, slot := 0, constantValue := 0 }, { name := "COMPACT_STRINGS", type := .boolean, accessFlags := 24, slot := 1, constantValue := 0 }, { name := "serialPersistentFields", type := (.array (.object "java/io/ObjectStreamField")), accessFlags := 26, slot := 2, constantValue := 0 }, { name := "REPL", type := .char, accessFlags := 26, slot := 3, constantValue := 0 }, { name := "CASE_INSENSITIVE_ORDER", type := (.object "java/util/Comparator"), accessFlags := 25, slot := 4, constantValue := 0 }, { name := "LATIN1", type := .byte, accessFlags := 24, slot := 5, constantValue := 0 }, { name := "UTF16", type := .byte, accessFlags := 24, slot := 6, constantValue := 0 }]
  methods := #[k7m0, k7m1, k7m2, k7m3, k7m4, k7m5, k7m6, k7m7, k7m8, k7m9, k7m10, k7m11, k7m12, k7m13, k7m14]
  instanceTypes := #[(.array .byte), .byte, .int, .boolean]
  staticTypes := #[.long, .boolean, (.array (.object "java/io/ObjectStreamField")), .char, (.object "java/util/Comparator"), .byte, .byte]
  resolved := Array.replicate 1451 none
  statics := some 0 }

def pool8 : Array CpInfo := pool [(6, .class_ 8), (1, u "java/lang/Object"), (0, u "<init>"), (0, u "()V"), (1, .class_ 14), (1, u "java/lang/StringUTF16"), (31, u "$assertionsDisabled"), (0, u "Z"), (13, u "HI_BYTE_SHIFT"), (0, u "I"), (2, u "LO_BYTE_SHIFT"), (49, .methodref 12 116), (0, .nameAndType 117 118), (0, u "compress"), (0, u "([CI[BII)I"), (3, u "([CII)[B"), (138, u "coderFromArrayLen"), (0, u "([BI)B"), (106, .class_ 371), (1, u "java/lang/StringUTF16$LinesSpliterator"), (58, u "MAX_LENGTH"), (196, .class_ 628), (0, u "java/lang/StringUTF16$CodePointsSpliterator"), (0, .class_ 630), (0, u "java/lang/StringUTF16$CharsSpliterator")] 4

def k8m0 : Method := { name := "<init>", desc := "()V", sig := { parameters := [], returnType := none }, accessFlags := 0, code := none }
def k8c1 : Code := { maxStack := 2, maxLocals := 2, code := jdk_52_method_15_code, exceptionTable := #[], attributes := #[] }
def k8m1 : Method := { name := "coderFromArrayLen", desc := "([BI)B", sig := { parameters := [(.array .byte), .int], returnType := some .byte }, accessFlags := 8, code := some k8c1 }
def k8c2 : Code := { maxStack := 5, maxLocals := 6, code := jdk_52_method_16_code, exceptionTable := #[], attributes := #[] }
def k8m2 : Method := { name := "compress", desc := "([CII)[B", sig := { parameters := [(.array .char), .int, .int], returnType := some (.array .byte) }, accessFlags := 9, code := some k8c2 }
def k8c3 : Code := { maxStack := 3, maxLocals := 7, code := jdk_52_method_21_code, exceptionTable := #[], attributes := #[] }
def k8m3 : Method := { name := "compress", desc := "([CI[BII)I", sig := { parameters := [(.array .char), .int, (.array .byte), .int, .int], returnType := some .int }, accessFlags := 9, code := some k8c3 }
/-- java/lang/StringUTF16 -/
def k8 : Class := { plain "java/lang/StringUTF16" (some 0) with
  accessFlags := 48
  interfaces := #[]
  cf := some (fileOf pool8 12 #[.nestMembers #[627, 629, 369]] #[{ accessFlags := 0, nameIndex := 9, descriptorIndex := 10, attributes := #[] }, { accessFlags := 8, nameIndex := 261, descriptorIndex := 262, attributes := #[] }, { accessFlags := 9, nameIndex := 117, descriptorIndex := 122, attributes := #[] }, { accessFlags := 9, nameIndex := 117, descriptorIndex := 118, attributes := #[] }] 48 6 #[] #[{ accessFlags := 26, nameIndex := 61, descriptorIndex := 62, attributes := #[] }, { accessFlags := 26, nameIndex := 65, descriptorIndex := 62, attributes := #[] }, { accessFlags := 24, nameIndex := 430, descriptorIndex := 62, attributes := #[] }, { accessFlags := 4120, nameIndex := 46, descriptorIndex := 47, attributes := #[] }])
  fields := #[{ name := "HI_BYTE_SHIFT", type := .int, accessFlags := 26, slot := 0, constantValue := 0 }, { name := "LO_BYTE_SHIFT", type := .int, accessFlags := 26, slot := 1, constantValue := 0 }, { name := "MAX_LENGTH", type := .int, accessFlags := 24, slot := 2, constantValue := 0 }, { name := "$assertionsDisabled", type := .boolean, accessFlags := 4120, slot := 3, constantValue := 0 }]
  methods := #[k8m0, k8m1, k8m2, k8m3]
  instanceTypes := #[]
  staticTypes := #[.int, .int, .int, .boolean]
  resolved := Array.replicate 635 none
  statics := none }

def pool9 : Array CpInfo := pool [(2, .class_ 4), (0, .nameAndType 5 6), (0, u "java/lang/Object"), (0, u "<init>"), (0, u "()V"), (0, .class_ 8), (0, u "com/example/lakehouse_catalog/lakehousecatalog/iceberg/IcebergRoutes"), (0, .string 10), (0, u "/v1"), (1, .class_ 14), (1, u "java/lang/String"), (8, .class_ 24), (0, u "java/lang/StringBuilder"), (0, .methodref 23 3), (0, .methodref 23 27), (0, .nameAndType 28 29), (0, u "append"), (0, u "(Ljava/lang/String;)Ljava/lang/StringBuilder;"), (0, .string 31), (0, u " "), (0, .string 33), (0, u "/{prefix}"), (0, .methodref 12 35), (0, .nameAndType 36 37), (0, u "length"), (0, u "()I"), (0, .methodref 12 39), (0, .nameAndType 40 41), (0, u "substring"), (0, u "(I)Ljava/lang/String;"), (0, .methodref 23 43), (0, .nameAndType 44 45), (0, u "toString"), (0, u "()Ljava/lang/String;"), (0, u "BASE"), (0, u "Ljava/lang/String;"), (5, u "endpoint"), (0, u "(Ljava/lang/String;Ljava/lang/String;)Ljava/lang/String;")] 2

def k9m0 : Method := { name := "<init>", desc := "()V", sig := { parameters := [], returnType := none }, accessFlags := 2, code := none }
def k9c1 : Code := { maxStack := 3, maxLocals := 2, code := prog_17_method_3_code, exceptionTable := #[], attributes := #[] }
def k9m1 : Method := { name := "endpoint", desc := "(Ljava/lang/String;Ljava/lang/String;)Ljava/lang/String;", sig := { parameters := [(.object "java/lang/String"), (.object "java/lang/String")], returnType := some (.object "java/lang/String") }, accessFlags := 8, code := some k9c1 }
/-- com/example/lakehouse_catalog/lakehousecatalog/iceberg/IcebergRoutes -/
def k9 : Class := { plain "com/example/lakehouse_catalog/lakehousecatalog/iceberg/IcebergRoutes" (some 0) with
  accessFlags := 33
  interfaces := #[]
  cf := some (fileOf pool9 7 #[] #[{ accessFlags := 2, nameIndex := 5, descriptorIndex := 6, attributes := #[] }, { accessFlags := 8, nameIndex := 53, descriptorIndex := 54, attributes := #[] }] 33 2 #[] #[{ accessFlags := 25, nameIndex := 46, descriptorIndex := 47, attributes := #[] }])
  fields := #[{ name := "BASE", type := (.object "java/lang/String"), accessFlags := 25, slot := 0, constantValue := 0 }]
  methods := #[k9m0, k9m1]
  instanceTypes := #[]
  staticTypes := #[(.object "java/lang/String")]
  resolved := Array.replicate 57 none
  statics := none }

def pool10 : Array CpInfo := pool [(1, .class_ 2), (0, u "java/lang/Appendable"), (0, .class_ 4), (0, u "java/lang/Object")] 9

/-- java/lang/Appendable -/
def k10 : Class := { plain "java/lang/Appendable" (some 0) with
  accessFlags := 1537
  interfaces := #[]
  cf := some (fileOf pool10 1 #[] #[] 1537 3 #[] #[])
  fields := #[]
  methods := #[]
  instanceTypes := #[]
  staticTypes := #[]
  resolved := Array.replicate 14 none
  statics := none }

def pool11 : Array CpInfo := pool [(1, .class_ 2), (0, u "java/lang/String"), (0, .methodref 4 5), (0, .class_ 6), (0, .nameAndType 7 8), (0, u "java/lang/Object"), (0, u "<init>"), (0, u "()V"), (1, .class_ 12), (1, u "java/lang/AbstractStringBuilder"), (0, u "EMPTYVALUE"), (0, u "[B"), (0, .fieldref 10 16), (0, .nameAndType 17 14), (0, u "value"), (0, .fieldref 1 19), (0, .nameAndType 20 21), (0, u "COMPACT_STRINGS"), (0, u "Z"), (0, .fieldref 10 23), (0, .nameAndType 24 25), (0, u "coder"), (0, u "B"), (6, .methodref 1 33), (0, .nameAndType 34 35), (0, u "length"), (0, u "()I"), (3, .integer 2147483647), (0, .methodref 1 41), (0, .nameAndType 24 42), (0, u "()B"), (2, u "append"), (0, u "(Ljava/lang/String;)Ljava/lang/AbstractStringBuilder;"), (1, .class_ 49), (0, u "java/lang/CharSequence"), (19, u "(Ljava/lang/String;)V"), (5, u "maybeLatin1"), (3, .fieldref 10 80), (0, .nameAndType 81 82), (0, u "count"), (0, u "I"), (2, u "isLatin1"), (0, u "()Z"), (13, .methodref 10 101), (0, .nameAndType 102 103), (0, u "ensureCapacityInternal"), (0, u "(I)V"), (0, .methodref 10 105), (0, .nameAndType 106 107), (0, u "newCapacity"), (0, u "(I)I"), (0, .methodref 109 110), (0, .class_ 111), (0, .nameAndType 112 113), (0, u "java/util/Arrays"), (0, u "copyOf"), (0, u "([BI)[B"), (0, .methodref 115 116), (0, .class_ 117), (0, .nameAndType 118 119), (0, u "jdk/internal/util/ArraysSupport"), (0, u "newLength"), (0, u "(III)I"), (88, .methodref 10 209), (0, .nameAndType 210 211), (0, u "putStringAt"), (0, u "(ILjava/lang/String;)V"), (5, u "inflateIfNeededFor"), (2, .nameAndType 221 222), (0, u "getBytes"), (0, u "([BIB)V"), (174, .methodref 10 398), (0, .nameAndType 217 69), (0, .methodref 1 220), (3, u "()[B"), (40, .class_ 445), (0, u "java/lang/Appendable"), (106, u "getValue")] 56

def k11m0 : Method := { name := "<init>", desc := "()V", sig := { parameters := [], returnType := none }, accessFlags := 0, code := none }
def k11c1 : Code := { maxStack := 2, maxLocals := 2, code := jdk_68_method_2_code, exceptionTable := #[], attributes := #[] }
def k11m1 : Method := { name := "<init>", desc := "(I)V", sig := { parameters := [.int], returnType := none }, accessFlags := 0, code := some k11c1 }
def k11c2 : Code := { maxStack := 1, maxLocals := 1, code := jdk_68_method_6_code, exceptionTable := #[], attributes := #[] }
def k11m2 : Method := { name := "length", desc := "()I", sig := { parameters := [], returnType := some .int }, accessFlags := 1, code := some k11c2 }
def k11c3 : Code := { maxStack := 4, maxLocals := 3, code := jdk_68_method_9_code, exceptionTable := #[], attributes := #[] }
def k11m3 : Method := { name := "ensureCapacityInternal", desc := "(I)V", sig := { parameters := [.int], returnType := none }, accessFlags := 2, code := some k11c3 }
def k11c4 : Code := { maxStack := 5, maxLocals := 6, code := jdk_68_method_10_code, exceptionTable := #[], attributes := #[] }
def k11m4 : Method := { name := "newCapacity", desc := "(I)I", sig := { parameters := [.int], returnType := some .int }, accessFlags := 2, code := some k11c4 }
def k11c5 : Code := { maxStack := 3, maxLocals := 3, code := jdk_68_method_22_code, exceptionTable := #[], attributes := #[] }
def k11m5 : Method := { name := "append", desc := "(Ljava/lang/String;)Ljava/lang/AbstractStringBuilder;", sig := { parameters := [(.object "java/lang/String")], returnType := some (.object "java/lang/AbstractStringBuilder") }, accessFlags := 1, code := some k11c5 }
def k11c6 : Code := { maxStack := 1, maxLocals := 1, code := jdk_68_method_64_code, exceptionTable := #[], attributes := #[] }
def k11m6 : Method := { name := "getValue", desc := "()[B", sig := { parameters := [], returnType := some (.array .byte) }, accessFlags := 16, code := some k11c6 }
def k11c7 : Code := { maxStack := 1, maxLocals := 1, code := jdk_68_method_68_code, exceptionTable := #[], attributes := #[] }
def k11m7 : Method := { name := "isLatin1", desc := "()Z", sig := { parameters := [], returnType := some .boolean }, accessFlags := 16, code := some k11c7 }
def k11c8 : Code := { maxStack := 2, maxLocals := 2, code := jdk_68_method_71_code, exceptionTable := #[], attributes := #[] }
def k11m8 : Method := { name := "inflateIfNeededFor", desc := "(Ljava/lang/String;)V", sig := { parameters := [(.object "java/lang/String")], returnType := none }, accessFlags := 2, code := some k11c8 }
def k11c9 : Code := { maxStack := 4, maxLocals := 3, code := jdk_68_method_73_code, exceptionTable := #[], attributes := #[] }
def k11m9 : Method := { name := "putStringAt", desc := "(ILjava/lang/String;)V", sig := { parameters := [.int, (.object "java/lang/String")], returnType := none }, accessFlags := 2, code := some k11c9 }
/-- java/lang/AbstractStringBuilder -/
def k11 : Class := { plain "java/lang/AbstractStringBuilder" (some 0) with
  accessFlags := 1056
  interfaces := #[10, 4]
  cf := some (fileOf pool11 10 #[] #[{ accessFlags := 0, nameIndex := 7, descriptorIndex := 8, attributes := #[] }, { accessFlags := 0, nameIndex := 7, descriptorIndex := 103, attributes := #[] }, { accessFlags := 1, nameIndex := 34, descriptorIndex := 35, attributes := #[] }, { accessFlags := 2, nameIndex := 102, descriptorIndex := 103, attributes := #[] }, { accessFlags := 2, nameIndex := 106, descriptorIndex := 107, attributes := #[] }, { accessFlags := 1, nameIndex := 45, descriptorIndex := 46, attributes := #[] }, { accessFlags := 16, nameIndex := 552, descriptorIndex := 403, attributes := #[] }, { accessFlags := 16, nameIndex := 85, descriptorIndex := 86, attributes := #[] }, { accessFlags := 2, nameIndex := 217, descriptorIndex := 69, attributes := #[] }, { accessFlags := 2, nameIndex := 210, descriptorIndex := 211, attributes := #[] }] 1056 4 #[444, 48] #[{ accessFlags := 0, nameIndex := 17, descriptorIndex := 14, attributes := #[] }, { accessFlags := 0, nameIndex := 24, descriptorIndex := 25, attributes := #[] }, { accessFlags := 0, nameIndex := 75, descriptorIndex := 21, attributes := #[] }, { accessFlags := 0, nameIndex := 81, descriptorIndex := 82, attributes := #[] }, { accessFlags := 26, nameIndex := 13, descriptorIndex := 14, attributes := #[] }])
  fields := #[{ name := "value", type := (.array .byte), accessFlags := 0, slot := 0, constantValue := 0 }, { name := "coder", type := .byte, accessFlags := 0, slot := 1, constantValue := 0 }, { name := "maybeLatin1", type := .boolean, accessFlags := 0, slot := 2, constantValue := 0 }, { name := "count", type := .int, accessFlags := 0, slot := 3, constantValue := 0 }, { name := "EMPTYVALUE", type := (.array .byte), accessFlags := 26, slot := 0, constantValue := 0 }]
  methods := #[k11m0, k11m1, k11m2, k11m3, k11m4, k11m5, k11m6, k11m7, k11m8, k11m9]
  instanceTypes := #[(.array .byte), .byte, .boolean, .int]
  staticTypes := #[(.array .byte)]
  resolved := Array.replicate 609 none
  statics := none }

def pool12 : Array CpInfo := pool [(1, .methodref 2 3), (0, .class_ 4), (0, .nameAndType 5 6), (0, u "java/lang/AbstractStringBuilder"), (0, u "<init>"), (0, u "(I)V"), (11, .class_ 20), (1, u "java/lang/String"), (3, .class_ 26), (1, u "java/lang/StringBuilder"), (0, u "append"), (0, u "(Ljava/lang/String;)Ljava/lang/StringBuilder;"), (0, .methodref 2 30), (0, .nameAndType 27 31), (0, u "(Ljava/lang/String;)Ljava/lang/AbstractStringBuilder;"), (105, .methodref 18 138), (0, .nameAndType 5 139), (0, u "(Ljava/lang/StringBuilder;)V"), (5, u "()V"), (10, u "()I"), (186, .methodref 2 344), (0, .nameAndType 345 156), (0, u "length"), (3, .class_ 350), (0, u "java/lang/Appendable"), (0, .class_ 352), (0, u "java/io/Serializable"), (0, .class_ 354), (0, u "java/lang/Comparable"), (0, .class_ 356), (0, u "java/lang/CharSequence"), (0, u "serialVersionUID"), (0, u "J"), (40, u "toString"), (0, u "()Ljava/lang/String;")] 21

def k12c0 : Code := { maxStack := 2, maxLocals := 1, code := jdk_67_method_1_code, exceptionTable := #[], attributes := #[] }
def k12m0 : Method := { name := "<init>", desc := "()V", sig := { parameters := [], returnType := none }, accessFlags := 1, code := some k12c0 }
def k12c1 : Code := { maxStack := 2, maxLocals := 2, code := jdk_67_method_7_code, exceptionTable := #[], attributes := #[] }
def k12m1 : Method := { name := "append", desc := "(Ljava/lang/String;)Ljava/lang/StringBuilder;", sig := { parameters := [(.object "java/lang/String")], returnType := some (.object "java/lang/StringBuilder") }, accessFlags := 1, code := some k12c1 }
def k12c2 : Code := { maxStack := 3, maxLocals := 1, code := jdk_67_method_42_code, exceptionTable := #[], attributes := #[] }
def k12m2 : Method := { name := "toString", desc := "()Ljava/lang/String;", sig := { parameters := [], returnType := some (.object "java/lang/String") }, accessFlags := 1, code := some k12c2 }
def k12c3 : Code := { maxStack := 1, maxLocals := 1, code := jdk_67_method_93_code, exceptionTable := #[], attributes := #[] }
def k12m3 : Method := { name := "length", desc := "()I", sig := { parameters := [], returnType := some .int }, accessFlags := 4161, code := some k12c3 }
/-- java/lang/StringBuilder -/
def k12 : Class := { plain "java/lang/StringBuilder" (some 11) with
  accessFlags := 49
  interfaces := #[10, 2, 3, 4]
  cf := some (fileOf pool12 24 #[] #[{ accessFlags := 1, nameIndex := 5, descriptorIndex := 145, attributes := #[] }, { accessFlags := 1, nameIndex := 27, descriptorIndex := 28, attributes := #[] }, { accessFlags := 1, nameIndex := 399, descriptorIndex := 400, attributes := #[] }, { accessFlags := 4161, nameIndex := 345, descriptorIndex := 156, attributes := #[] }] 49 2 #[349, 351, 353, 355] #[{ accessFlags := 24, nameIndex := 357, descriptorIndex := 358, attributes := #[] }])
  fields := #[{ name := "serialVersionUID", type := .long, accessFlags := 24, slot := 0, constantValue := 0 }]
  methods := #[k12m0, k12m1, k12m2, k12m3]
  instanceTypes := #[(.array .byte), .byte, .boolean, .int]
  staticTypes := #[.long]
  resolved := Array.replicate 422 none
  statics := none }

def pool13 : Array CpInfo := pool [(2, .class_ 4), (1, u "java/lang/Object"), (0, u "<init>"), (0, u "()V"), (1, .class_ 10), (1, u "java/lang/System"), (0, u "allowSecurityManager"), (0, u "I"), (16, u "cons"), (0, u "Ljava/io/Console;"), (77, .class_ 110), (1, u "java/lang/System$CallersHolder"), (43, u "initialErrStream"), (0, u "Ljava/io/PrintStream;"), (19, u "security"), (0, u "Ljava/lang/SecurityManager;"), (31, .class_ 209), (0, u "java/lang/System$1"), (7, u "props"), (0, u "Ljava/util/Properties;"), (2, u "lineSeparator"), (0, u "Ljava/lang/String;"), (96, .class_ 321), (1, u "java/lang/System$LoggerFinder"), (5, .class_ 328), (0, u "java/lang/System$Logger"), (67, u "err"), (2, u "out"), (91, u "notSupportedJnuEncoding"), (15, u "in"), (17, u "initialIn"), (0, u "Ljava/io/InputStream;"), (35, u "bootLayer"), (0, u "Ljava/lang/ModuleLayer;"), (99, .class_ 664), (0, u "java/lang/System$2"), (9, u "NEVER"), (2, u "MAYBE"), (49, u "arraycopy"), (0, u "(Ljava/lang/Object;ILjava/lang/Object;II)V"), (72, .class_ 802), (0, u "java/lang/System$Logger$Level")] 31

def k13m0 : Method := { name := "<init>", desc := "()V", sig := { parameters := [], returnType := none }, accessFlags := 2, code := none }
def k13m1 : Method := { name := "arraycopy", desc := "(Ljava/lang/Object;ILjava/lang/Object;II)V", sig := { parameters := [(.object "java/lang/Object"), .int, (.object "java/lang/Object"), .int, .int], returnType := none }, accessFlags := 265, code := none }
/-- java/lang/System -/
def k13 : Class := { plain "java/lang/System" (some 0) with
  accessFlags := 49
  interfaces := #[]
  cf := some (fileOf pool13 8 #[.nestMembers #[319, 327, 801, 108, 663, 208]] #[{ accessFlags := 2, nameIndex := 5, descriptorIndex := 6, attributes := #[] }, { accessFlags := 265, nameIndex := 727, descriptorIndex := 728, attributes := #[] }] 49 2 #[] #[{ accessFlags := 25, nameIndex := 507, descriptorIndex := 526, attributes := #[] }, { accessFlags := 25, nameIndex := 399, descriptorIndex := 155, attributes := #[] }, { accessFlags := 25, nameIndex := 396, descriptorIndex := 155, attributes := #[] }, { accessFlags := 10, nameIndex := 525, descriptorIndex := 526, attributes := #[] }, { accessFlags := 26, nameIndex := 674, descriptorIndex := 12, attributes := #[] }, { accessFlags := 26, nameIndex := 677, descriptorIndex := 12, attributes := #[] }, { accessFlags := 10, nameIndex := 11, descriptorIndex := 12, attributes := #[] }, { accessFlags := 74, nameIndex := 175, descriptorIndex := 176, attributes := #[] }, { accessFlags := 10, nameIndex := 491, descriptorIndex := 222, attributes := #[] }, { accessFlags := 74, nameIndex := 29, descriptorIndex := 30, attributes := #[] }, { accessFlags := 74, nameIndex := 154, descriptorIndex := 155, attributes := #[] }, { accessFlags := 10, nameIndex := 217, descriptorIndex := 218, attributes := #[] }, { accessFlags := 10, nameIndex := 221, descriptorIndex := 222, attributes := #[] }, { accessFlags := 8, nameIndex := 562, descriptorIndex := 563, attributes := #[] }])
  fields := #[{ name := "in", type := (.object "java/io/InputStream"), accessFlags := 25, slot := 0, constantValue := 0 }, { name := "out", type := (.object "java/io/PrintStream"), accessFlags := 25, slot := 1, constantValue := 0 }, { name := "err", type := (.object "java/io/PrintStream"), accessFlags := 25, slot := 2, constantValue := 0 }, { name := "initialIn", type := (.object "java/io/InputStream"), accessFlags := 10, slot := 3, constantValue := 0 }, { name := "NEVER", type := .int, accessFlags := 26, slot := 4, constantValue := 0 }, { name := "MAYBE", type := .int, accessFlags := 26, slot := 5, constantValue := 0 }, { name := "allowSecurityManager", type := .int, accessFlags := 10, slot := 6, constantValue := 0 }, { name := "security", type := (.object "java/lang/SecurityManager"), accessFlags := 74, slot := 7, constantValue := 0 }, { name := "notSupportedJnuEncoding", type := (.object "java/lang/String"), accessFlags := 10, slot := 8, constantValue := 0 }, { name := "cons", type := (.object "java/io/Console"), accessFlags := 74, slot := 9, constantValue := 0 }, { name := "initialErrStream", type := (.object "java/io/PrintStream"), accessFlags := 74, slot := 10, constantValue := 0 }, { name := "props", type := (.object "java/util/Properties"), accessFlags := 10, slot := 11, constantValue := 0 }, { name := "lineSeparator", type := (.object "java/lang/String"), accessFlags := 10, slot := 12, constantValue := 0 }, { name := "bootLayer", type := (.object "java/lang/ModuleLayer"), accessFlags := 8, slot := 13, constantValue := 0 }]
  methods := #[k13m0, k13m1]
  instanceTypes := #[]
  staticTypes := #[(.object "java/io/InputStream"), (.object "java/io/PrintStream"), (.object "java/io/PrintStream"), (.object "java/io/InputStream"), .int, .int, .int, (.object "java/lang/SecurityManager"), (.object "java/lang/String"), (.object "java/io/Console"), (.object "java/io/PrintStream"), (.object "java/util/Properties"), (.object "java/lang/String"), (.object "java/lang/ModuleLayer")]
  resolved := Array.replicate 834 none
  statics := none }

def pool14 : Array CpInfo := pool [(2, .class_ 4), (1, u "java/lang/Object"), (0, u "<init>"), (0, u "()V"), (17, .class_ 26), (1, u "jdk/internal/util/Preconditions"), (6, u "checkIndex"), (13, u "checkFromToIndex"), (7, .class_ 56), (0, u "jdk/internal/util/Preconditions$4"), (57, .class_ 115), (0, u "jdk/internal/util/Preconditions$1"), (7, u "SIOOBE_FORMATTER"), (0, u "Ljava/util/function/BiFunction;"), (0, .class_ 126), (0, u "jdk/internal/util/Preconditions$2"), (3, u "AIOOBE_FORMATTER"), (0, .class_ 132), (0, u "jdk/internal/util/Preconditions$3"), (3, u "IOOBE_FORMATTER"), (41, u "(IILjava/util/function/BiFunction;)I"), (4, u "(IIILjava/util/function/BiFunction;)I")] 10

def k14m0 : Method := { name := "<init>", desc := "()V", sig := { parameters := [], returnType := none }, accessFlags := 1, code := none }
def k14c1 : Code := { maxStack := 3, maxLocals := 3, code := jdk_41_method_11_code, exceptionTable := #[], attributes := #[] }
def k14m1 : Method := { name := "checkIndex", desc := "(IILjava/util/function/BiFunction;)I", sig := { parameters := [.int, .int, (.object "java/util/function/BiFunction")], returnType := some .int }, accessFlags := 9, code := some k14c1 }
def k14c2 : Code := { maxStack := 4, maxLocals := 4, code := jdk_41_method_12_code, exceptionTable := #[], attributes := #[] }
def k14m2 : Method := { name := "checkFromToIndex", desc := "(IIILjava/util/function/BiFunction;)I", sig := { parameters := [.int, .int, .int, (.object "java/util/function/BiFunction")], returnType := some .int }, accessFlags := 9, code := some k14c2 }
/-- jdk/internal/util/Preconditions -/
def k14 : Class := { plain "jdk/internal/util/Preconditions" (some 0) with
  accessFlags := 33
  interfaces := #[]
  cf := some (fileOf pool14 24 #[.nestMembers #[55, 131, 125, 114]] #[{ accessFlags := 1, nameIndex := 5, descriptorIndex := 6, attributes := #[] }, { accessFlags := 9, nameIndex := 33, descriptorIndex := 178, attributes := #[] }, { accessFlags := 9, nameIndex := 47, descriptorIndex := 183, attributes := #[] }] 33 2 #[] #[{ accessFlags := 25, nameIndex := 123, descriptorIndex := 124, attributes := #[] }, { accessFlags := 25, nameIndex := 130, descriptorIndex := 124, attributes := #[] }, { accessFlags := 25, nameIndex := 136, descriptorIndex := 124, attributes := #[] }])
  fields := #[{ name := "SIOOBE_FORMATTER", type := (.object "java/util/function/BiFunction"), accessFlags := 25, slot := 0, constantValue := 0 }, { name := "AIOOBE_FORMATTER", type := (.object "java/util/function/BiFunction"), accessFlags := 25, slot := 1, constantValue := 0 }, { name := "IOOBE_FORMATTER", type := (.object "java/util/function/BiFunction"), accessFlags := 25, slot := 2, constantValue := 0 }]
  methods := #[k14m0, k14m1, k14m2]
  instanceTypes := #[]
  staticTypes := #[(.object "java/util/function/BiFunction"), (.object "java/util/function/BiFunction"), (.object "java/util/function/BiFunction")]
  resolved := Array.replicate 194 none
  statics := some 1 }

def pool15 : Array CpInfo := pool [(1, .class_ 2), (0, u "java/lang/String"), (1, .class_ 6), (1, u "java/lang/Object"), (0, u "<init>"), (0, u "()V"), (0, .methodref 1 10), (0, .nameAndType 11 12), (0, u "checkIndex"), (0, u "(II)V"), (1, .class_ 16), (1, u "java/lang/StringLatin1"), (36, u "([BI)C"), (58, .methodref 1 113), (0, .nameAndType 7 114), (0, u "([BB)V"), (6, u "$assertionsDisabled"), (0, u "Z"), (8, .class_ 133), (1, u "java/util/Arrays"), (17, .string 152), (0, u ""), (43, u "newString"), (0, u "([BII)Ljava/lang/String;"), (23, .class_ 223), (1, u "java/lang/StringLatin1$LinesSpliterator"), (8, .methodref 131 233), (0, .nameAndType 234 235), (0, u "copyOfRange"), (0, u "([BII)[B"), (16, u "charAt"), (137, .class_ 391), (0, u "java/lang/StringLatin1$CharsSpliterator")] 3

def k15m0 : Method := { name := "<init>", desc := "()V", sig := { parameters := [], returnType := none }, accessFlags := 0, code := none }
def k15c1 : Code := { maxStack := 2, maxLocals := 2, code := jdk_43_method_2_code, exceptionTable := #[], attributes := #[] }
def k15m1 : Method := { name := "charAt", desc := "([BI)C", sig := { parameters := [(.array .byte), .int], returnType := some .char }, accessFlags := 9, code := some k15c1 }
def k15c2 : Code := { maxStack := 6, maxLocals := 3, code := jdk_43_method_47_code, exceptionTable := #[], attributes := #[] }
def k15m2 : Method := { name := "newString", desc := "([BII)Ljava/lang/String;", sig := { parameters := [(.array .byte), .int, .int], returnType := some (.object "java/lang/String") }, accessFlags := 9, code := some k15c2 }
/-- java/lang/StringLatin1 -/
def k15 : Class := { plain "java/lang/StringLatin1" (some 0) with
  accessFlags := 48
  interfaces := #[]
  cf := some (fileOf pool15 14 #[.nestMembers #[390, 221]] #[{ accessFlags := 0, nameIndex := 7, descriptorIndex := 8, attributes := #[] }, { accessFlags := 9, nameIndex := 252, descriptorIndex := 53, attributes := #[] }, { accessFlags := 9, nameIndex := 196, descriptorIndex := 197, attributes := #[] }] 48 4 #[] #[{ accessFlags := 4120, nameIndex := 121, descriptorIndex := 122, attributes := #[] }])
  fields := #[{ name := "$assertionsDisabled", type := .boolean, accessFlags := 4120, slot := 0, constantValue := 0 }]
  methods := #[k15m0, k15m1, k15m2]
  instanceTypes := #[]
  staticTypes := #[.boolean]
  resolved := Array.replicate 395 none
  statics := none }

def pool16 : Array CpInfo := pool [(2, .class_ 4), (1, u "java/lang/Object"), (0, u "<init>"), (0, u "()V"), (7, .class_ 16), (1, u "java/util/Arrays"), (57, .class_ 76), (1, u "java/util/Arrays$NaturalOrder"), (32, u "()Ljava/lang/Object;"), (3, .class_ 115), (1, u "java/util/Arrays$LegacyMergeSort"), (1, u "Z"), (10, .nameAndType 129 109), (0, u "clone"), (9, u "copyOfRange"), (10, .methodref 151 152), (0, .class_ 153), (0, .nameAndType 154 155), (0, u "java/lang/System"), (0, u "arraycopy"), (0, u "(Ljava/lang/Object;ILjava/lang/Object;II)V"), (146, u "copyOf"), (1, .methodref 305 306), (0, .class_ 307), (0, .nameAndType 308 309), (0, u "java/lang/Math"), (0, u "min"), (0, u "(II)I"), (0, .methodref 311 128), (0, .class_ 312), (0, u "[B"), (26, .methodref 14 340), (0, .nameAndType 341 342), (0, u "copyOfRangeByte"), (0, u "([BII)[B"), (0, .methodref 14 344), (0, .nameAndType 345 346), (0, u "checkLength"), (0, u "(II)V"), (28, .class_ 376), (0, u "java/util/Arrays$ArrayList"), (68, u "$assertionsDisabled"), (269, u "MIN_ARRAY_SORT_GRAN"), (0, u "I"), (2, u "INSERTIONSORT_THRESHOLD"), (149, u "([BI)[B"), (105, .class_ 976), (0, u "java/util/Arrays$ArrayItr")] 52

def k16m0 : Method := { name := "<init>", desc := "()V", sig := { parameters := [], returnType := none }, accessFlags := 2, code := none }
def k16c1 : Code := { maxStack := 6, maxLocals := 3, code := jdk_65_method_121_code, exceptionTable := #[], attributes := #[] }
def k16m1 : Method := { name := "copyOf", desc := "([BI)[B", sig := { parameters := [(.array .byte), .int], returnType := some (.array .byte) }, accessFlags := 9, code := some k16c1 }
def k16c2 : Code := { maxStack := 4, maxLocals := 2, code := jdk_65_method_131_code, exceptionTable := #[], attributes := #[] }
def k16m2 : Method := { name := "checkLength", desc := "(II)V", sig := { parameters := [.int, .int], returnType := none }, accessFlags := 10, code := some k16c2 }
def k16c3 : Code := { maxStack := 3, maxLocals := 3, code := jdk_65_method_132_code, exceptionTable := #[], attributes := #[] }
def k16m3 : Method := { name := "copyOfRange", desc := "([BII)[B", sig := { parameters := [(.array .byte), .int, .int], returnType := some (.array .byte) }, accessFlags := 9, code := some k16c3 }
def k16c4 : Code := { maxStack := 6, maxLocals := 5, code := jdk_65_method_133_code, exceptionTable := #[], attributes := #[] }
def k16m4 : Method := { name := "copyOfRangeByte", desc := "([BII)[B", sig := { parameters := [(.array .byte), .int, .int], returnType := some (.array .byte) }, accessFlags := 10, code := some k16c4 }
/-- java/util/Arrays -/
def k16 : Class := { plain "java/util/Arrays" (some 0) with
  accessFlags := 49
  interfaces := #[]
  cf := some (fileOf pool16 14 #[.nestMembers #[975, 375, 113, 74]] #[{ accessFlags := 2, nameIndex := 5, descriptorIndex := 6, attributes := #[] }, { accessFlags := 9, nameIndex := 302, descriptorIndex := 869, attributes := #[] }, { accessFlags := 10, nameIndex := 345, descriptorIndex := 346, attributes := #[] }, { accessFlags := 9, nameIndex := 139, descriptorIndex := 342, attributes := #[] }, { accessFlags := 10, nameIndex := 341, descriptorIndex := 342, attributes := #[] }] 49 2 #[] #[{ accessFlags := 26, nameIndex := 715, descriptorIndex := 716, attributes := #[] }, { accessFlags := 26, nameIndex := 719, descriptorIndex := 716, attributes := #[] }, { accessFlags := 4120, nameIndex := 445, descriptorIndex := 117, attributes := #[] }])
  fields := #[{ name := "MIN_ARRAY_SORT_GRAN", type := .int, accessFlags := 26, slot := 0, constantValue := 0 }, { name := "INSERTIONSORT_THRESHOLD", type := .int, accessFlags := 26, slot := 1, constantValue := 0 }, { name := "$assertionsDisabled", type := .boolean, accessFlags := 4120, slot := 2, constantValue := 0 }]
  methods := #[k16m0, k16m1, k16m2, k16m3, k16m4]
  instanceTypes := #[]
  staticTypes := #[.int, .int, .boolean]
  resolved := Array.replicate 1029 none
  statics := none }

def pool17 : Array CpInfo := pool [(1, .class_ 2), (0, u "java/lang/Math"), (1, .class_ 6), (1, u "java/lang/Object"), (0, u "<init>"), (0, u "()V"), (89, .class_ 100), (1, u "java/lang/Math$RandomNumberGeneratorHolder"), (71, u "negativeZeroFloatBits"), (0, u "J"), (2, u "negativeZeroDoubleBits"), (21, u "max"), (2, u "min"), (43, u "$assertionsDisabled"), (0, u "Z"), (88, u "(II)I"), (2, u "twoToTheDoubleScaleDown"), (0, u "D"), (4, u "twoToTheDoubleScaleUp"), (9, u "E"), (3, u "PI"), (2, u "TAU"), (2, u "DEGREES_TO_RADIANS"), (0, u "RADIANS_TO_DEGREES")] 94

def k17m0 : Method := { name := "<init>", desc := "()V", sig := { parameters := [], returnType := none }, accessFlags := 2, code := none }
def k17c1 : Code := { maxStack := 2, maxLocals := 2, code := jdk_29_method_65_code, exceptionTable := #[], attributes := #[] }
def k17m1 : Method := { name := "max", desc := "(II)I", sig := { parameters := [.int, .int], returnType := some .int }, accessFlags := 9, code := some k17c1 }
def k17c2 : Code := { maxStack := 2, maxLocals := 2, code := jdk_29_method_69_code, exceptionTable := #[], attributes := #[] }
def k17m2 : Method := { name := "min", desc := "(II)I", sig := { parameters := [.int, .int], returnType := some .int }, accessFlags := 9, code := some k17c2 }
/-- java/lang/Math -/
def k17 : Class := { plain "java/lang/Math" (some 0) with
  accessFlags := 49
  interfaces := #[]
  cf := some (fileOf pool17 1 #[.nestMembers #[98]] #[{ accessFlags := 2, nameIndex := 7, descriptorIndex := 8, attributes := #[] }, { accessFlags := 9, nameIndex := 198, descriptorIndex := 335, attributes := #[] }, { accessFlags := 9, nameIndex := 201, descriptorIndex := 335, attributes := #[] }] 49 4 #[] #[{ accessFlags := 25, nameIndex := 354, descriptorIndex := 339, attributes := #[] }, { accessFlags := 25, nameIndex := 358, descriptorIndex := 339, attributes := #[] }, { accessFlags := 25, nameIndex := 361, descriptorIndex := 339, attributes := #[] }, { accessFlags := 26, nameIndex := 364, descriptorIndex := 339, attributes := #[] }, { accessFlags := 26, nameIndex := 365, descriptorIndex := 339, attributes := #[] }, { accessFlags := 26, nameIndex := 172, descriptorIndex := 173, attributes := #[] }, { accessFlags := 26, nameIndex := 176, descriptorIndex := 173, attributes := #[] }, { accessFlags := 8, nameIndex := 344, descriptorIndex := 339, attributes := #[] }, { accessFlags := 8, nameIndex := 338, descriptorIndex := 339, attributes := #[] }, { accessFlags := 4120, nameIndex := 245, descriptorIndex := 246, attributes := #[] }])
  fields := #[{ name := "E", type := .double, accessFlags := 25, slot := 0, constantValue := 0 }, { name := "PI", type := .double, accessFlags := 25, slot := 1, constantValue := 0 }, { name := "TAU", type := .double, accessFlags := 25, slot := 2, constantValue := 0 }, { name := "DEGREES_TO_RADIANS", type := .double, accessFlags := 26, slot := 3, constantValue := 0 }, { name := "RADIANS_TO_DEGREES", type := .double, accessFlags := 26, slot := 4, constantValue := 0 }, { name := "negativeZeroFloatBits", type := .long, accessFlags := 26, slot := 5, constantValue := 0 }, { name := "negativeZeroDoubleBits", type := .long, accessFlags := 26, slot := 6, constantValue := 0 }, { name := "twoToTheDoubleScaleUp", type := .double, accessFlags := 8, slot := 7, constantValue := 0 }, { name := "twoToTheDoubleScaleDown", type := .double, accessFlags := 8, slot := 8, constantValue := 0 }, { name := "$assertionsDisabled", type := .boolean, accessFlags := 4120, slot := 9, constantValue := 0 }]
  methods := #[k17m0, k17m1, k17m2]
  instanceTypes := #[]
  staticTypes := #[.double, .double, .double, .double, .double, .long, .long, .double, .double, .boolean]
  resolved := Array.replicate 460 none
  statics := none }

def pool18 : Array CpInfo := pool [(1, .class_ 2), (0, u "java/lang/Cloneable"), (0, .class_ 4), (0, u "java/lang/Object")] 2

/-- java/lang/Cloneable -/
def k18 : Class := { plain "java/lang/Cloneable" (some 0) with
  accessFlags := 1537
  interfaces := #[]
  cf := some (fileOf pool18 1 #[] #[] 1537 3 #[] #[])
  fields := #[]
  methods := #[]
  instanceTypes := #[]
  staticTypes := #[]
  resolved := Array.replicate 7 none
  statics := none }

def pool19 : Array CpInfo := pool [(9, u "<init>"), (6, .class_ 18), (1, u "java/lang/Object"), (0, u "()V"), (1, .class_ 23), (1, u "jdk/internal/util/ArraysSupport"), (0, u "LOG2_ARRAY_LONG_INDEX_SCALE"), (0, u "I"), (2, u "U"), (0, u "Ljdk/internal/misc/Unsafe;"), (8, u "BIG_ENDIAN"), (0, u "Z"), (8, u "LOG2_BYTE_BIT_SIZE"), (4, u "LOG2_ARRAY_INT_INDEX_SCALE"), (54, u "JLA"), (0, u "Ljdk/internal/access/JavaLangAccess;"), (11, u "LOG2_ARRAY_BOOLEAN_INDEX_SCALE"), (9, u "LOG2_ARRAY_BYTE_INDEX_SCALE"), (5, u "LOG2_ARRAY_CHAR_INDEX_SCALE"), (5, u "LOG2_ARRAY_SHORT_INDEX_SCALE"), (18, u "LOG2_ARRAY_FLOAT_INDEX_SCALE"), (24, u "LOG2_ARRAY_DOUBLE_INDEX_SCALE"), (6, .methodref 195 196), (0, .class_ 197), (0, .nameAndType 198 199), (0, u "java/lang/Math"), (0, u "max"), (0, u "(II)I"), (0, .integer 2147483639), (76, u "T_BOOLEAN"), (2, u "T_CHAR"), (1, u "T_FLOAT"), (1, u "T_DOUBLE"), (1, u "T_BYTE"), (1, u "T_SHORT"), (1, u "T_INT"), (1, u "T_LONG"), (1, u "SOFT_MAX_ARRAY_LENGTH"), (56, u "newLength"), (0, u "(III)I")] 25

def k19m0 : Method := { name := "<init>", desc := "()V", sig := { parameters := [], returnType := none }, accessFlags := 2, code := none }
def k19c1 : Code := { maxStack := 3, maxLocals := 4, code := jdk_48_method_27_code, exceptionTable := #[], attributes := #[] }
def k19m1 : Method := { name := "newLength", desc := "(III)I", sig := { parameters := [.int, .int, .int], returnType := some .int }, accessFlags := 9, code := some k19c1 }
/-- jdk/internal/util/ArraysSupport -/
def k19 : Class := { plain "jdk/internal/util/ArraysSupport" (some 0) with
  accessFlags := 33
  interfaces := #[]
  cf := some (fileOf pool19 21 #[] #[{ accessFlags := 2, nameIndex := 9, descriptorIndex := 19, attributes := #[] }, { accessFlags := 9, nameIndex := 351, descriptorIndex := 352, attributes := #[] }] 33 16 #[] #[{ accessFlags := 24, nameIndex := 28, descriptorIndex := 29, attributes := #[] }, { accessFlags := 26, nameIndex := 38, descriptorIndex := 39, attributes := #[] }, { accessFlags := 25, nameIndex := 121, descriptorIndex := 25, attributes := #[] }, { accessFlags := 25, nameIndex := 131, descriptorIndex := 25, attributes := #[] }, { accessFlags := 25, nameIndex := 137, descriptorIndex := 25, attributes := #[] }, { accessFlags := 25, nameIndex := 143, descriptorIndex := 25, attributes := #[] }, { accessFlags := 25, nameIndex := 53, descriptorIndex := 25, attributes := #[] }, { accessFlags := 25, nameIndex := 24, descriptorIndex := 25, attributes := #[] }, { accessFlags := 25, nameIndex := 162, descriptorIndex := 25, attributes := #[] }, { accessFlags := 25, nameIndex := 187, descriptorIndex := 25, attributes := #[] }, { accessFlags := 26, nameIndex := 48, descriptorIndex := 25, attributes := #[] }, { accessFlags := 25, nameIndex := 277, descriptorIndex := 25, attributes := #[] }, { accessFlags := 25, nameIndex := 280, descriptorIndex := 25, attributes := #[] }, { accessFlags := 25, nameIndex := 282, descriptorIndex := 25, attributes := #[] }, { accessFlags := 25, nameIndex := 284, descriptorIndex := 25, attributes := #[] }, { accessFlags := 25, nameIndex := 286, descriptorIndex := 25, attributes := #[] }, { accessFlags := 25, nameIndex := 288, descriptorIndex := 25, attributes := #[] }, { accessFlags := 25, nameIndex := 290, descriptorIndex := 25, attributes := #[] }, { accessFlags := 25, nameIndex := 292, descriptorIndex := 25, attributes := #[] }, { accessFlags := 26, nameIndex := 108, descriptorIndex := 109, attributes := #[] }, { accessFlags := 25, nameIndex := 294, descriptorIndex := 25, attributes := #[] }])
  fields := #[{ name := "U", type := (.object "jdk/internal/misc/Unsafe"), accessFlags := 24, slot := 0, constantValue := 0 }, { name := "BIG_ENDIAN", type := .boolean, accessFlags := 26, slot := 1, constantValue := 0 }, { name := "LOG2_ARRAY_BOOLEAN_INDEX_SCALE", type := .int, accessFlags := 25, slot := 2, constantValue := 0 }, { name := "LOG2_ARRAY_BYTE_INDEX_SCALE", type := .int, accessFlags := 25, slot := 3, constantValue := 0 }, { name := "LOG2_ARRAY_CHAR_INDEX_SCALE", type := .int, accessFlags := 25, slot := 4, constantValue := 0 }, { name := "LOG2_ARRAY_SHORT_INDEX_SCALE", type := .int, accessFlags := 25, slot := 5, constantValue := 0 }, { name := "LOG2_ARRAY_INT_INDEX_SCALE", type := .int, accessFlags := 25, slot := 6, constantValue := 0 }, { name := "LOG2_ARRAY_LONG_INDEX_SCALE", type := .int, accessFlags := 25, slot := 7, constantValue := 0 }, { name := "LOG2_ARRAY_FLOAT_INDEX_SCALE", type := .int, accessFlags := 25, slot := 8, constantValue := 0 }, { name := "LOG2_ARRAY_DOUBLE_INDEX_SCALE", type := .int, accessFlags := 25, slot := 9, constantValue := 0 }, { name := "LOG2_BYTE_BIT_SIZE", type := .int, accessFlags := 26, slot := 10, constantValue := 0 }, { name := "T_BOOLEAN", type := .int, accessFlags := 25, slot := 11, constantValue := 0 }, { name := "T_CHAR", type := .int, accessFlags := 25, slot := 12, constantValue := 0 }, { name := "T_FLOAT", type := .int, accessFlags := 25, slot := 13, constantValue := 0 }, { name := "T_DOUBLE", type := .int, accessFlags := 25, slot := 14, constantValue := 0 }, { name := "T_BYTE", type := .int, accessFlags := 25, slot := 15, constantValue := 0 }, { name := "T_SHORT", type := .int, accessFlags := 25, slot := 16, constantValue := 0 }, { name := "T_INT", type := .int, accessFlags := 25, slot := 17, constantValue := 0 }, { name := "T_LONG", type := .int, accessFlags := 25, slot := 18, constantValue := 0 }, { name := "JLA", type := (.object "jdk/internal/access/JavaLangAccess"), accessFlags := 26, slot := 19, constantValue := 0 }, { name := "SOFT_MAX_ARRAY_LENGTH", type := .int, accessFlags := 25, slot := 20, constantValue := 0 }]
  methods := #[k19m0, k19m1]
  instanceTypes := #[]
  staticTypes := #[(.object "jdk/internal/misc/Unsafe"), .boolean, .int, .int, .int, .int, .int, .int, .int, .int, .int, .int, .int, .int, .int, .int, .int, .int, .int, (.object "jdk/internal/access/JavaLangAccess"), .int]
  resolved := Array.replicate 378 none
  statics := none }

/-- the primitive byte -/
def k20 : Class := { plain "byte" none with kind := .primitive 'B', accessFlags := 0x411 }
/-- [B -/
def k21 : Class := { plain "[B" (some 0) with kind := .array 20 .byte, interfaces := #[18, 2], accessFlags := 1041 }

/-- the primitive char -/
def k22 : Class := { plain "char" none with kind := .primitive 'C', accessFlags := 0x411 }
/-- [C -/
def k23 : Class := { plain "[C" (some 0) with kind := .array 22 .char, interfaces := #[18, 2], accessFlags := 1041 }

/-- the primitive int -/
def k24 : Class := { plain "int" none with kind := .primitive 'I', accessFlags := 0x411 }
/-- [I -/
def k25 : Class := { plain "[I" (some 0) with kind := .array 24 .int, interfaces := #[18, 2], accessFlags := 1041 }

def heap : Heap := #[{ cls := 7, slots := #[.long 0, .int 1, .null, .int 0, .null, .int 0, .int 0], vm := .statics 7 },
  { cls := 14, slots := #[.null, .null, .null], vm := .statics 14 }]
def classes : Array Class := #[k0, k1, k2, k3, k4, k5, k6, k7, k8, k9, k10, k11, k12, k13, k14, k15, k16, k17, k18, k19, k20, k21, k22, k23, k24, k25]
def interned : List (Array UInt16 × Addr) := []
def slotsUsed : Nat := 10
def theMethod : MethodId := ⟨1, 3⟩
def args0 : Array Value := #[.int 50331713, .int 33554497]
def aboutOver (below : List Frame) : State where
  vm := { classes := classes, interned := interned.toArray }
  heap := heap
  slotsUsed := slotsUsed
  threads := #[{ frames := .invoking theMethod args0 :: below }]
def below0 : List Frame := [.native { method := ⟨0, 0⟩, args := #[] }]
def about1 : State := aboutOver below0
def p0 : Program := .bare "" "" ""
def e0 : Env := launch0.env 0 0 0
theorem w_frames : about1.frames = Frame.invoking theMethod args0 :: below0 := rfl
set_option maxRecDepth 65536 in
theorem w_args : argsFit about1.vm theMethod args0 = true := by decide +kernel
set_option maxRecDepth 65536 in
theorem w_heap : heapFits about1 = true := by decide +kernel
set_option maxRecDepth 65536 in
theorem w_runnable : about1.curStatus? = some .runnable := by decide +kernel
set_option maxRecDepth 65536 in
theorem w_alone : about1.alone = true := by decide +kernel
set_option maxRecDepth 65536 in
theorem w_named : about1.methodNamed? x = some theMethod := by decide +kernel
set_option maxRecDepth 65536 in
theorem w_hears : about1.hears theMethod below0 = true := by decide +kernel
set_option maxRecDepth 65536 in
theorem w_ripe : about1.ripe theMethod args0 below0 = true := by decide +kernel
theorem w_running : about1.status = .running := rfl
set_option maxRecDepth 65536 in
theorem w_room : about1.hasRoom e0.platform room_1 = true :=
  launch0.hasRoom_least _ room_1 (by decide +kernel) (by decide +kernel) (by decide +kernel) (by decide +kernel) (by decide +kernel) (by decide +kernel)
theorem allAtoms_all (ts : List Jvm.Cond) (a : Array Jvm.Value) (st : Jvm.State) : (allAtoms ts).before a st = ts.all (fun c => c.before a st) := by
  induction ts with
  | nil => rfl
  | cons c t ih =>
    show (Jvm.Cond.and c (allAtoms t)).before a st = _
    rw [Jvm.Cond.before_and, ih, List.all_cons]
def words1 : List Jvm.Cond := Jvm.Cond.code x code maxLocals ret :: tables_1
/-- a 'code' word, met by the world's own term for the bytes: nothing is compared byte by byte -/
theorem code_word {y : MethodName} {bytes : ByteArray} {mx : Nat} {rt : Option FieldType} {a : Array Value} {s : State} {m : MethodId} {meth : Method} {c : Code} (h1 : s.methodNamed? y = some m) (h2 : s.vm.method? m = some meth) (h3 : meth.code = some c) (h4 : c.code = bytes)
    (h5 : (c.maxLocals == mx && c.exceptionTable.isEmpty && decide (c.maxStack ≤ mostOperands) && decide (meth.sig.returnType = rt) && !meth.locks && decide (parseMethodDescriptor y.desc = some meth.sig)) = true) : (Jvm.Cond.code y bytes mx rt).before a s = true := by
  simp only [Bool.and_eq_true, beq_iff_eq, Bool.not_eq_true', decide_eq_true_eq] at h5
  obtain ⟨⟨⟨⟨⟨g1, g2⟩, g3⟩, g4⟩, g5⟩, g6⟩ := h5
  simp [Cond.before, Cond.holds, Cond.value, h1, h2, h3, h4, g1, g2, g3, g4, g5, g6]
def isCode : Jvm.Cond → Bool
  | .code _ _ _ _ => true
  | _ => false
theorem all_split {L : List Jvm.Cond} {P : Jvm.Cond → Bool} (h1 : L.all (fun c => isCode c || P c) = true) (h2 : ∀ c ∈ L.filter isCode, P c = true) : L.all P = true := by
  refine List.all_eq_true.mpr fun c hc => ?_
  have h := List.all_eq_true.mp h1 c hc
  rcases Bool.eq_false_or_eq_true (isCode c) with hi | hi
  · exact h2 c (List.mem_filter.mpr ⟨hc, hi⟩)
  · simpa [hi] using h
set_option maxRecDepth 65536 in
theorem w_c0 : (Jvm.Cond.code x code maxLocals ret).before args0 about1 = true := code_word (m := ⟨1, 3⟩) (meth := k1m3) (c := k1c3) (by decide +kernel) rfl rfl rfl (by decide +kernel)
set_option maxRecDepth 65536 in
theorem w_c1 : (Jvm.Cond.code ({ cls := "com/example/lakehouse_catalog/lakehousecatalog/iceberg/IcebergRoutesEndpointPinLaw", name := "mk", desc := "(ICCC)Ljava/lang/String;" } : Jvm.MethodName) method_2_code (4 : Nat) (Option.some (Jvm.ClassFile.FieldType.object "java/lang/String"))).before args0 about1 = true := code_word (m := ⟨1, 1⟩) (meth := k1m1) (c := k1c1) (by decide +kernel) rfl rfl rfl (by decide +kernel)
set_option maxRecDepth 65536 in
theorem w_c2 : (Jvm.Cond.code ({ cls := "java/lang/String", name := "<init>", desc := "([C)V" } : Jvm.MethodName) jdk_42_method_3_code (2 : Nat) (Option.none : Option Jvm.ClassFile.FieldType)).before args0 about1 = true := code_word (m := ⟨7, 1⟩) (meth := k7m1) (c := k7c1) (by decide +kernel) rfl rfl rfl (by decide +kernel)
set_option maxRecDepth 65536 in
theorem w_c3 : (Jvm.Cond.code ({ cls := "java/lang/String", name := "<init>", desc := "([CIILjava/lang/Void;)V" } : Jvm.MethodName) jdk_42_method_149_code (6 : Nat) (Option.none : Option Jvm.ClassFile.FieldType)).before args0 about1 = true := code_word (m := ⟨7, 8⟩) (meth := k7m8) (c := k7c8) (by decide +kernel) rfl rfl rfl (by decide +kernel)
set_option maxRecDepth 65536 in
theorem w_c4 : (Jvm.Cond.code ({ cls := "java/lang/Object", name := "<init>", desc := "()V" } : Jvm.MethodName) object_method_1_code (1 : Nat) (Option.none : Option Jvm.ClassFile.FieldType)).before args0 about1 = true := code_word (m := ⟨0, 0⟩) (meth := k0m0) (c := k0c0) (by decide +kernel) rfl rfl rfl (by decide +kernel)
set_option maxRecDepth 65536 in
theorem w_c5 : (Jvm.Cond.code ({ cls := "com/example/lakehouse_catalog/lakehousecatalog/iceberg/IcebergRoutesEndpointPinLaw", name := "pat", desc := "(ICCC)Ljava/lang/String;" } : Jvm.MethodName) method_3_code (4 : Nat) (Option.some (Jvm.ClassFile.FieldType.object "java/lang/String"))).before args0 about1 = true := code_word (m := ⟨1, 2⟩) (meth := k1m2) (c := k1c2) (by decide +kernel) rfl rfl rfl (by decide +kernel)
set_option maxRecDepth 65536 in
theorem w_c6 : (Jvm.Cond.code ({ cls := "java/lang/StringUTF16", name := "compress", desc := "([CII)[B" } : Jvm.MethodName) jdk_52_method_16_code (6 : Nat) (Option.some (Jvm.ClassFile.FieldType.array Jvm.ClassFile.FieldType.byte))).before args0 about1 = true := code_word (m := ⟨8, 2⟩) (meth := k8m2) (c := k8c2) (by decide +kernel) rfl rfl rfl (by decide +kernel)
set_option maxRecDepth 65536 in
theorem w_c7 : (Jvm.Cond.code ({ cls := "java/lang/StringUTF16", name := "compress", desc := "([CI[BII)I" } : Jvm.MethodName) jdk_52_method_21_code (7 : Nat) (Option.some Jvm.ClassFile.FieldType.int)).before args0 about1 = true := code_word (m := ⟨8, 3⟩) (meth := k8m3) (c := k8c3) (by decide +kernel) rfl rfl rfl (by decide +kernel)
set_option maxRecDepth 65536 in
theorem w_c8 : (Jvm.Cond.code ({ cls := "java/lang/StringUTF16", name := "coderFromArrayLen", desc := "([BI)B" } : Jvm.MethodName) jdk_52_method_15_code (2 : Nat) (Option.some Jvm.ClassFile.FieldType.byte)).before args0 about1 = true := code_word (m := ⟨8, 1⟩) (meth := k8m1) (c := k8c1) (by decide +kernel) rfl rfl rfl (by decide +kernel)
set_option maxRecDepth 65536 in
theorem w_c9 : (Jvm.Cond.code ({ cls := "com/example/lakehouse_catalog/lakehousecatalog/iceberg/IcebergRoutes", name := "endpoint", desc := "(Ljava/lang/String;Ljava/lang/String;)Ljava/lang/String;" } : Jvm.MethodName) prog_17_method_3_code (2 : Nat) (Option.some (Jvm.ClassFile.FieldType.object "java/lang/String"))).before args0 about1 = true := code_word (m := ⟨9, 1⟩) (meth := k9m1) (c := k9c1) (by decide +kernel) rfl rfl rfl (by decide +kernel)
set_option maxRecDepth 65536 in
theorem w_c10 : (Jvm.Cond.code ({ cls := "java/lang/StringBuilder", name := "<init>", desc := "()V" } : Jvm.MethodName) jdk_67_method_1_code (1 : Nat) (Option.none : Option Jvm.ClassFile.FieldType)).before args0 about1 = true := code_word (m := ⟨12, 0⟩) (meth := k12m0) (c := k12c0) (by decide +kernel) rfl rfl rfl (by decide +kernel)
set_option maxRecDepth 65536 in
theorem w_c11 : (Jvm.Cond.code ({ cls := "java/lang/AbstractStringBuilder", name := "<init>", desc := "(I)V" } : Jvm.MethodName) jdk_68_method_2_code (2 : Nat) (Option.none : Option Jvm.ClassFile.FieldType)).before args0 about1 = true := code_word (m := ⟨11, 1⟩) (meth := k11m1) (c := k11c1) (by decide +kernel) rfl rfl rfl (by decide +kernel)
set_option maxRecDepth 65536 in
theorem w_c12 : (Jvm.Cond.code ({ cls := "java/lang/StringBuilder", name := "append", desc := "(Ljava/lang/String;)Ljava/lang/StringBuilder;" } : Jvm.MethodName) jdk_67_method_7_code (2 : Nat) (Option.some (Jvm.ClassFile.FieldType.object "java/lang/StringBuilder"))).before args0 about1 = true := code_word (m := ⟨12, 1⟩) (meth := k12m1) (c := k12c1) (by decide +kernel) rfl rfl rfl (by decide +kernel)
set_option maxRecDepth 65536 in
theorem w_c13 : (Jvm.Cond.code ({ cls := "java/lang/AbstractStringBuilder", name := "append", desc := "(Ljava/lang/String;)Ljava/lang/AbstractStringBuilder;" } : Jvm.MethodName) jdk_68_method_22_code (3 : Nat) (Option.some (Jvm.ClassFile.FieldType.object "java/lang/AbstractStringBuilder"))).before args0 about1 = true := code_word (m := ⟨11, 5⟩) (meth := k11m5) (c := k11c5) (by decide +kernel) rfl rfl rfl (by decide +kernel)
set_option maxRecDepth 65536 in
theorem w_c14 : (Jvm.Cond.code ({ cls := "java/lang/String", name := "length", desc := "()I" } : Jvm.MethodName) jdk_42_method_54_code (1 : Nat) (Option.some Jvm.ClassFile.FieldType.int)).before args0 about1 = true := code_word (m := ⟨7, 3⟩) (meth := k7m3) (c := k7c3) (by decide +kernel) rfl rfl rfl (by decide +kernel)
set_option maxRecDepth 65536 in
theorem w_c15 : (Jvm.Cond.code ({ cls := "java/lang/String", name := "coder", desc := "()B" } : Jvm.MethodName) jdk_42_method_152_code (1 : Nat) (Option.some Jvm.ClassFile.FieldType.byte)).before args0 about1 = true := code_word (m := ⟨7, 11⟩) (meth := k7m11) (c := k7c11) (by decide +kernel) rfl rfl rfl (by decide +kernel)
set_option maxRecDepth 65536 in
theorem w_c16 : (Jvm.Cond.code ({ cls := "java/lang/AbstractStringBuilder", name := "ensureCapacityInternal", desc := "(I)V" } : Jvm.MethodName) jdk_68_method_9_code (3 : Nat) (Option.none : Option Jvm.ClassFile.FieldType)).before args0 about1 = true := code_word (m := ⟨11, 3⟩) (meth := k11m3) (c := k11c3) (by decide +kernel) rfl rfl rfl (by decide +kernel)
set_option maxRecDepth 65536 in
theorem w_c17 : (Jvm.Cond.code ({ cls := "java/lang/AbstractStringBuilder", name := "putStringAt", desc := "(ILjava/lang/String;)V" } : Jvm.MethodName) jdk_68_method_73_code (3 : Nat) (Option.none : Option Jvm.ClassFile.FieldType)).before args0 about1 = true := code_word (m := ⟨11, 9⟩) (meth := k11m9) (c := k11c9) (by decide +kernel) rfl rfl rfl (by decide +kernel)
set_option maxRecDepth 65536 in
theorem w_c18 : (Jvm.Cond.code ({ cls := "java/lang/AbstractStringBuilder", name := "inflateIfNeededFor", desc := "(Ljava/lang/String;)V" } : Jvm.MethodName) jdk_68_method_71_code (2 : Nat) (Option.none : Option Jvm.ClassFile.FieldType)).before args0 about1 = true := code_word (m := ⟨11, 8⟩) (meth := k11m8) (c := k11c8) (by decide +kernel) rfl rfl rfl (by decide +kernel)
set_option maxRecDepth 65536 in
theorem w_c19 : (Jvm.Cond.code ({ cls := "java/lang/String", name := "getBytes", desc := "([BIB)V" } : Jvm.MethodName) jdk_42_method_147_code (4 : Nat) (Option.none : Option Jvm.ClassFile.FieldType)).before args0 about1 = true := code_word (m := ⟨7, 7⟩) (meth := k7m7) (c := k7c7) (by decide +kernel) rfl rfl rfl (by decide +kernel)
set_option maxRecDepth 65536 in
theorem w_c20 : (Jvm.Cond.code ({ cls := "java/lang/String", name := "substring", desc := "(I)Ljava/lang/String;" } : Jvm.MethodName) jdk_42_method_91_code (2 : Nat) (Option.some (Jvm.ClassFile.FieldType.object "java/lang/String"))).before args0 about1 = true := code_word (m := ⟨7, 5⟩) (meth := k7m5) (c := k7c5) (by decide +kernel) rfl rfl rfl (by decide +kernel)
set_option maxRecDepth 65536 in
theorem w_c21 : (Jvm.Cond.code ({ cls := "java/lang/String", name := "substring", desc := "(II)Ljava/lang/String;" } : Jvm.MethodName) jdk_42_method_92_code (5 : Nat) (Option.some (Jvm.ClassFile.FieldType.object "java/lang/String"))).before args0 about1 = true := code_word (m := ⟨7, 6⟩) (meth := k7m6) (c := k7c6) (by decide +kernel) rfl rfl rfl (by decide +kernel)
set_option maxRecDepth 65536 in
theorem w_c22 : (Jvm.Cond.code ({ cls := "java/lang/String", name := "checkBoundsBeginEnd", desc := "(III)V" } : Jvm.MethodName) jdk_42_method_158_code (3 : Nat) (Option.none : Option Jvm.ClassFile.FieldType)).before args0 about1 = true := code_word (m := ⟨7, 14⟩) (meth := k7m14) (c := k7c14) (by decide +kernel) rfl rfl rfl (by decide +kernel)
set_option maxRecDepth 65536 in
theorem w_c23 : (Jvm.Cond.code ({ cls := "jdk/internal/util/Preconditions", name := "checkFromToIndex", desc := "(IIILjava/util/function/BiFunction;)I" } : Jvm.MethodName) jdk_41_method_12_code (4 : Nat) (Option.some Jvm.ClassFile.FieldType.int)).before args0 about1 = true := code_word (m := ⟨14, 2⟩) (meth := k14m2) (c := k14c2) (by decide +kernel) rfl rfl rfl (by decide +kernel)
set_option maxRecDepth 65536 in
theorem w_c24 : (Jvm.Cond.code ({ cls := "java/lang/String", name := "isLatin1", desc := "()Z" } : Jvm.MethodName) jdk_42_method_154_code (1 : Nat) (Option.some Jvm.ClassFile.FieldType.boolean)).before args0 about1 = true := code_word (m := ⟨7, 12⟩) (meth := k7m12) (c := k7c12) (by decide +kernel) rfl rfl rfl (by decide +kernel)
set_option maxRecDepth 65536 in
theorem w_c25 : (Jvm.Cond.code ({ cls := "java/lang/StringLatin1", name := "newString", desc := "([BII)Ljava/lang/String;" } : Jvm.MethodName) jdk_43_method_47_code (3 : Nat) (Option.some (Jvm.ClassFile.FieldType.object "java/lang/String"))).before args0 about1 = true := code_word (m := ⟨15, 2⟩) (meth := k15m2) (c := k15c2) (by decide +kernel) rfl rfl rfl (by decide +kernel)
set_option maxRecDepth 65536 in
theorem w_c26 : (Jvm.Cond.code ({ cls := "java/lang/StringBuilder", name := "toString", desc := "()Ljava/lang/String;" } : Jvm.MethodName) jdk_67_method_42_code (1 : Nat) (Option.some (Jvm.ClassFile.FieldType.object "java/lang/String"))).before args0 about1 = true := code_word (m := ⟨12, 2⟩) (meth := k12m2) (c := k12c2) (by decide +kernel) rfl rfl rfl (by decide +kernel)
set_option maxRecDepth 65536 in
theorem w_c27 : (Jvm.Cond.code ({ cls := "java/lang/String", name := "<init>", desc := "(Ljava/lang/StringBuilder;)V" } : Jvm.MethodName) jdk_42_method_53_code (2 : Nat) (Option.none : Option Jvm.ClassFile.FieldType)).before args0 about1 = true := code_word (m := ⟨7, 2⟩) (meth := k7m2) (c := k7c2) (by decide +kernel) rfl rfl rfl (by decide +kernel)
set_option maxRecDepth 65536 in
theorem w_c28 : (Jvm.Cond.code ({ cls := "java/lang/String", name := "<init>", desc := "(Ljava/lang/AbstractStringBuilder;Ljava/lang/Void;)V" } : Jvm.MethodName) jdk_42_method_150_code (5 : Nat) (Option.none : Option Jvm.ClassFile.FieldType)).before args0 about1 = true := code_word (m := ⟨7, 9⟩) (meth := k7m9) (c := k7c9) (by decide +kernel) rfl rfl rfl (by decide +kernel)
set_option maxRecDepth 65536 in
theorem w_c29 : (Jvm.Cond.code ({ cls := "java/lang/AbstractStringBuilder", name := "getValue", desc := "()[B" } : Jvm.MethodName) jdk_68_method_64_code (1 : Nat) (Option.some (Jvm.ClassFile.FieldType.array Jvm.ClassFile.FieldType.byte))).before args0 about1 = true := code_word (m := ⟨11, 6⟩) (meth := k11m6) (c := k11c6) (by decide +kernel) rfl rfl rfl (by decide +kernel)
set_option maxRecDepth 65536 in
theorem w_c30 : (Jvm.Cond.code ({ cls := "java/lang/StringBuilder", name := "length", desc := "()I" } : Jvm.MethodName) jdk_67_method_93_code (1 : Nat) (Option.some Jvm.ClassFile.FieldType.int)).before args0 about1 = true := code_word (m := ⟨12, 3⟩) (meth := k12m3) (c := k12c3) (by decide +kernel) rfl rfl rfl (by decide +kernel)
set_option maxRecDepth 65536 in
theorem w_c31 : (Jvm.Cond.code ({ cls := "java/lang/AbstractStringBuilder", name := "length", desc := "()I" } : Jvm.MethodName) jdk_68_method_6_code (1 : Nat) (Option.some Jvm.ClassFile.FieldType.int)).before args0 about1 = true := code_word (m := ⟨11, 2⟩) (meth := k11m2) (c := k11c2) (by decide +kernel) rfl rfl rfl (by decide +kernel)
set_option maxRecDepth 65536 in
theorem w_c32 : (Jvm.Cond.code ({ cls := "java/lang/AbstractStringBuilder", name := "isLatin1", desc := "()Z" } : Jvm.MethodName) jdk_68_method_68_code (1 : Nat) (Option.some Jvm.ClassFile.FieldType.boolean)).before args0 about1 = true := code_word (m := ⟨11, 7⟩) (meth := k11m7) (c := k11c7) (by decide +kernel) rfl rfl rfl (by decide +kernel)
set_option maxRecDepth 65536 in
theorem w_c33 : (Jvm.Cond.code ({ cls := "java/util/Arrays", name := "copyOfRange", desc := "([BII)[B" } : Jvm.MethodName) jdk_65_method_132_code (3 : Nat) (Option.some (Jvm.ClassFile.FieldType.array Jvm.ClassFile.FieldType.byte))).before args0 about1 = true := code_word (m := ⟨16, 3⟩) (meth := k16m3) (c := k16c3) (by decide +kernel) rfl rfl rfl (by decide +kernel)
set_option maxRecDepth 65536 in
theorem w_c34 : (Jvm.Cond.code ({ cls := "java/util/Arrays", name := "copyOfRangeByte", desc := "([BII)[B" } : Jvm.MethodName) jdk_65_method_133_code (5 : Nat) (Option.some (Jvm.ClassFile.FieldType.array Jvm.ClassFile.FieldType.byte))).before args0 about1 = true := code_word (m := ⟨16, 4⟩) (meth := k16m4) (c := k16c4) (by decide +kernel) rfl rfl rfl (by decide +kernel)
set_option maxRecDepth 65536 in
theorem w_c35 : (Jvm.Cond.code ({ cls := "java/util/Arrays", name := "checkLength", desc := "(II)V" } : Jvm.MethodName) jdk_65_method_131_code (2 : Nat) (Option.none : Option Jvm.ClassFile.FieldType)).before args0 about1 = true := code_word (m := ⟨16, 2⟩) (meth := k16m2) (c := k16c2) (by decide +kernel) rfl rfl rfl (by decide +kernel)
set_option maxRecDepth 65536 in
theorem w_c36 : (Jvm.Cond.code ({ cls := "java/lang/Math", name := "min", desc := "(II)I" } : Jvm.MethodName) jdk_29_method_69_code (2 : Nat) (Option.some Jvm.ClassFile.FieldType.int)).before args0 about1 = true := code_word (m := ⟨17, 2⟩) (meth := k17m2) (c := k17c2) (by decide +kernel) rfl rfl rfl (by decide +kernel)
set_option maxRecDepth 65536 in
theorem w_c37 : (Jvm.Cond.code ({ cls := "java/lang/String", name := "charAt", desc := "(I)C" } : Jvm.MethodName) jdk_42_method_56_code (2 : Nat) (Option.some Jvm.ClassFile.FieldType.char)).before args0 about1 = true := code_word (m := ⟨7, 4⟩) (meth := k7m4) (c := k7c4) (by decide +kernel) rfl rfl rfl (by decide +kernel)
set_option maxRecDepth 65536 in
theorem w_c38 : (Jvm.Cond.code ({ cls := "java/lang/StringLatin1", name := "charAt", desc := "([BI)C" } : Jvm.MethodName) jdk_43_method_2_code (2 : Nat) (Option.some Jvm.ClassFile.FieldType.char)).before args0 about1 = true := code_word (m := ⟨15, 1⟩) (meth := k15m1) (c := k15c1) (by decide +kernel) rfl rfl rfl (by decide +kernel)
set_option maxRecDepth 65536 in
theorem w_c39 : (Jvm.Cond.code ({ cls := "java/lang/String", name := "checkIndex", desc := "(II)V" } : Jvm.MethodName) jdk_42_method_155_code (2 : Nat) (Option.none : Option Jvm.ClassFile.FieldType)).before args0 about1 = true := code_word (m := ⟨7, 13⟩) (meth := k7m13) (c := k7c13) (by decide +kernel) rfl rfl rfl (by decide +kernel)
set_option maxRecDepth 65536 in
theorem w_c40 : (Jvm.Cond.code ({ cls := "jdk/internal/util/Preconditions", name := "checkIndex", desc := "(IILjava/util/function/BiFunction;)I" } : Jvm.MethodName) jdk_41_method_11_code (3 : Nat) (Option.some Jvm.ClassFile.FieldType.int)).before args0 about1 = true := code_word (m := ⟨14, 1⟩) (meth := k14m1) (c := k14c1) (by decide +kernel) rfl rfl rfl (by decide +kernel)
set_option maxRecDepth 65536 in
theorem w_c41 : (Jvm.Cond.code ({ cls := "java/lang/String", name := "<init>", desc := "([BB)V" } : Jvm.MethodName) jdk_42_method_151_code (3 : Nat) (Option.none : Option Jvm.ClassFile.FieldType)).before args0 about1 = true := code_word (m := ⟨7, 10⟩) (meth := k7m10) (c := k7c10) (by decide +kernel) rfl rfl rfl (by decide +kernel)
set_option maxRecDepth 65536 in
theorem w_c42 : (Jvm.Cond.code ({ cls := "java/lang/AbstractStringBuilder", name := "newCapacity", desc := "(I)I" } : Jvm.MethodName) jdk_68_method_10_code (6 : Nat) (Option.some Jvm.ClassFile.FieldType.int)).before args0 about1 = true := code_word (m := ⟨11, 4⟩) (meth := k11m4) (c := k11c4) (by decide +kernel) rfl rfl rfl (by decide +kernel)
set_option maxRecDepth 65536 in
theorem w_c43 : (Jvm.Cond.code ({ cls := "jdk/internal/util/ArraysSupport", name := "newLength", desc := "(III)I" } : Jvm.MethodName) jdk_48_method_27_code (4 : Nat) (Option.some Jvm.ClassFile.FieldType.int)).before args0 about1 = true := code_word (m := ⟨19, 1⟩) (meth := k19m1) (c := k19c1) (by decide +kernel) rfl rfl rfl (by decide +kernel)
set_option maxRecDepth 65536 in
theorem w_c44 : (Jvm.Cond.code ({ cls := "java/lang/Math", name := "max", desc := "(II)I" } : Jvm.MethodName) jdk_29_method_65_code (2 : Nat) (Option.some Jvm.ClassFile.FieldType.int)).before args0 about1 = true := code_word (m := ⟨17, 1⟩) (meth := k17m1) (c := k17c1) (by decide +kernel) rfl rfl rfl (by decide +kernel)
set_option maxRecDepth 65536 in
theorem w_c45 : (Jvm.Cond.code ({ cls := "java/util/Arrays", name := "copyOf", desc := "([BI)[B" } : Jvm.MethodName) jdk_65_method_121_code (3 : Nat) (Option.some (Jvm.ClassFile.FieldType.array Jvm.ClassFile.FieldType.byte))).before args0 about1 = true := code_word (m := ⟨16, 1⟩) (meth := k16m1) (c := k16c1) (by decide +kernel) rfl rfl rfl (by decide +kernel)
def codes1 : List Jvm.Cond := [Jvm.Cond.code x code maxLocals ret, Jvm.Cond.code ({ cls := "com/example/lakehouse_catalog/lakehousecatalog/iceberg/IcebergRoutesEndpointPinLaw", name := "mk", desc := "(ICCC)Ljava/lang/String;" } : Jvm.MethodName) method_2_code (4 : Nat) (Option.some (Jvm.ClassFile.FieldType.object "java/lang/String")), Jvm.Cond.code ({ cls := "java/lang/String", name := "<init>", desc := "([C)V" } : Jvm.MethodName) jdk_42_method_3_code (2 : Nat) (Option.none : Option Jvm.ClassFile.FieldType), Jvm.Cond.code ({ cls := "java/lang/String", name := "<init>", desc := "([CIILjava/lang/Void;)V" } : Jvm.MethodName) jdk_42_method_149_code (6 : Nat) (Option.none : Option Jvm.ClassFile.FieldType), Jvm.Cond.code ({ cls := "java/lang/Object", name := "<init>", desc := "()V" } : Jvm.MethodName) object_method_1_code (1 : Nat) (Option.none : Option Jvm.ClassFile.FieldType), Jvm.Cond.code ({ cls := "com/example/lakehouse_catalog/lakehousecatalog/iceberg/IcebergRoutesEndpointPinLaw", name := "pat", desc := "(ICCC)Ljava/lang/String;" } : Jvm.MethodName) method_3_code (4 : Nat) (Option.some (Jvm.ClassFile.FieldType.object "java/lang/String")), Jvm.Cond.code ({ cls := "java/lang/StringUTF16", name := "compress", desc := "([CII)[B" } : Jvm.MethodName) jdk_52_method_16_code (6 : Nat) (Option.some (Jvm.ClassFile.FieldType.array Jvm.ClassFile.FieldType.byte)), Jvm.Cond.code ({ cls := "java/lang/StringUTF16", name := "compress", desc := "([CI[BII)I" } : Jvm.MethodName) jdk_52_method_21_code (7 : Nat) (Option.some Jvm.ClassFile.FieldType.int), Jvm.Cond.code ({ cls := "java/lang/StringUTF16", name := "coderFromArrayLen", desc := "([BI)B" } : Jvm.MethodName) jdk_52_method_15_code (2 : Nat) (Option.some Jvm.ClassFile.FieldType.byte), Jvm.Cond.code ({ cls := "com/example/lakehouse_catalog/lakehousecatalog/iceberg/IcebergRoutes", name := "endpoint", desc := "(Ljava/lang/String;Ljava/lang/String;)Ljava/lang/String;" } : Jvm.MethodName) prog_17_method_3_code (2 : Nat) (Option.some (Jvm.ClassFile.FieldType.object "java/lang/String")), Jvm.Cond.code ({ cls := "java/lang/StringBuilder", name := "<init>", desc := "()V" } : Jvm.MethodName) jdk_67_method_1_code (1 : Nat) (Option.none : Option Jvm.ClassFile.FieldType), Jvm.Cond.code ({ cls := "java/lang/AbstractStringBuilder", name := "<init>", desc := "(I)V" } : Jvm.MethodName) jdk_68_method_2_code (2 : Nat) (Option.none : Option Jvm.ClassFile.FieldType), Jvm.Cond.code ({ cls := "java/lang/StringBuilder", name := "append", desc := "(Ljava/lang/String;)Ljava/lang/StringBuilder;" } : Jvm.MethodName) jdk_67_method_7_code (2 : Nat) (Option.some (Jvm.ClassFile.FieldType.object "java/lang/StringBuilder")), Jvm.Cond.code ({ cls := "java/lang/AbstractStringBuilder", name := "append", desc := "(Ljava/lang/String;)Ljava/lang/AbstractStringBuilder;" } : Jvm.MethodName) jdk_68_method_22_code (3 : Nat) (Option.some (Jvm.ClassFile.FieldType.object "java/lang/AbstractStringBuilder")), Jvm.Cond.code ({ cls := "java/lang/String", name := "length", desc := "()I" } : Jvm.MethodName) jdk_42_method_54_code (1 : Nat) (Option.some Jvm.ClassFile.FieldType.int), Jvm.Cond.code ({ cls := "java/lang/String", name := "coder", desc := "()B" } : Jvm.MethodName) jdk_42_method_152_code (1 : Nat) (Option.some Jvm.ClassFile.FieldType.byte), Jvm.Cond.code ({ cls := "java/lang/AbstractStringBuilder", name := "ensureCapacityInternal", desc := "(I)V" } : Jvm.MethodName) jdk_68_method_9_code (3 : Nat) (Option.none : Option Jvm.ClassFile.FieldType), Jvm.Cond.code ({ cls := "java/lang/AbstractStringBuilder", name := "putStringAt", desc := "(ILjava/lang/String;)V" } : Jvm.MethodName) jdk_68_method_73_code (3 : Nat) (Option.none : Option Jvm.ClassFile.FieldType), Jvm.Cond.code ({ cls := "java/lang/AbstractStringBuilder", name := "inflateIfNeededFor", desc := "(Ljava/lang/String;)V" } : Jvm.MethodName) jdk_68_method_71_code (2 : Nat) (Option.none : Option Jvm.ClassFile.FieldType), Jvm.Cond.code ({ cls := "java/lang/String", name := "getBytes", desc := "([BIB)V" } : Jvm.MethodName) jdk_42_method_147_code (4 : Nat) (Option.none : Option Jvm.ClassFile.FieldType), Jvm.Cond.code ({ cls := "java/lang/String", name := "substring", desc := "(I)Ljava/lang/String;" } : Jvm.MethodName) jdk_42_method_91_code (2 : Nat) (Option.some (Jvm.ClassFile.FieldType.object "java/lang/String")), Jvm.Cond.code ({ cls := "java/lang/String", name := "substring", desc := "(II)Ljava/lang/String;" } : Jvm.MethodName) jdk_42_method_92_code (5 : Nat) (Option.some (Jvm.ClassFile.FieldType.object "java/lang/String")), Jvm.Cond.code ({ cls := "java/lang/String", name := "checkBoundsBeginEnd", desc := "(III)V" } : Jvm.MethodName) jdk_42_method_158_code (3 : Nat) (Option.none : Option Jvm.ClassFile.FieldType), Jvm.Cond.code ({ cls := "jdk/internal/util/Preconditions", name := "checkFromToIndex", desc := "(IIILjava/util/function/BiFunction;)I" } : Jvm.MethodName) jdk_41_method_12_code (4 : Nat) (Option.some Jvm.ClassFile.FieldType.int), Jvm.Cond.code ({ cls := "java/lang/String", name := "isLatin1", desc := "()Z" } : Jvm.MethodName) jdk_42_method_154_code (1 : Nat) (Option.some Jvm.ClassFile.FieldType.boolean), Jvm.Cond.code ({ cls := "java/lang/StringLatin1", name := "newString", desc := "([BII)Ljava/lang/String;" } : Jvm.MethodName) jdk_43_method_47_code (3 : Nat) (Option.some (Jvm.ClassFile.FieldType.object "java/lang/String")), Jvm.Cond.code ({ cls := "java/lang/StringBuilder", name := "toString", desc := "()Ljava/lang/String;" } : Jvm.MethodName) jdk_67_method_42_code (1 : Nat) (Option.some (Jvm.ClassFile.FieldType.object "java/lang/String")), Jvm.Cond.code ({ cls := "java/lang/String", name := "<init>", desc := "(Ljava/lang/StringBuilder;)V" } : Jvm.MethodName) jdk_42_method_53_code (2 : Nat) (Option.none : Option Jvm.ClassFile.FieldType), Jvm.Cond.code ({ cls := "java/lang/String", name := "<init>", desc := "(Ljava/lang/AbstractStringBuilder;Ljava/lang/Void;)V" } : Jvm.MethodName) jdk_42_method_150_code (5 : Nat) (Option.none : Option Jvm.ClassFile.FieldType), Jvm.Cond.code ({ cls := "java/lang/AbstractStringBuilder", name := "getValue", desc := "()[B" } : Jvm.MethodName) jdk_68_method_64_code (1 : Nat) (Option.some (Jvm.ClassFile.FieldType.array Jvm.ClassFile.FieldType.byte)), Jvm.Cond.code ({ cls := "java/lang/StringBuilder", name := "length", desc := "()I" } : Jvm.MethodName) jdk_67_method_93_code (1 : Nat) (Option.some Jvm.ClassFile.FieldType.int), Jvm.Cond.code ({ cls := "java/lang/AbstractStringBuilder", name := "length", desc := "()I" } : Jvm.MethodName) jdk_68_method_6_code (1 : Nat) (Option.some Jvm.ClassFile.FieldType.int), Jvm.Cond.code ({ cls := "java/lang/AbstractStringBuilder", name := "isLatin1", desc := "()Z" } : Jvm.MethodName) jdk_68_method_68_code (1 : Nat) (Option.some Jvm.ClassFile.FieldType.boolean), Jvm.Cond.code ({ cls := "java/util/Arrays", name := "copyOfRange", desc := "([BII)[B" } : Jvm.MethodName) jdk_65_method_132_code (3 : Nat) (Option.some (Jvm.ClassFile.FieldType.array Jvm.ClassFile.FieldType.byte)), Jvm.Cond.code ({ cls := "java/util/Arrays", name := "copyOfRangeByte", desc := "([BII)[B" } : Jvm.MethodName) jdk_65_method_133_code (5 : Nat) (Option.some (Jvm.ClassFile.FieldType.array Jvm.ClassFile.FieldType.byte)), Jvm.Cond.code ({ cls := "java/util/Arrays", name := "checkLength", desc := "(II)V" } : Jvm.MethodName) jdk_65_method_131_code (2 : Nat) (Option.none : Option Jvm.ClassFile.FieldType), Jvm.Cond.code ({ cls := "java/lang/Math", name := "min", desc := "(II)I" } : Jvm.MethodName) jdk_29_method_69_code (2 : Nat) (Option.some Jvm.ClassFile.FieldType.int), Jvm.Cond.code ({ cls := "java/lang/String", name := "charAt", desc := "(I)C" } : Jvm.MethodName) jdk_42_method_56_code (2 : Nat) (Option.some Jvm.ClassFile.FieldType.char), Jvm.Cond.code ({ cls := "java/lang/StringLatin1", name := "charAt", desc := "([BI)C" } : Jvm.MethodName) jdk_43_method_2_code (2 : Nat) (Option.some Jvm.ClassFile.FieldType.char), Jvm.Cond.code ({ cls := "java/lang/String", name := "checkIndex", desc := "(II)V" } : Jvm.MethodName) jdk_42_method_155_code (2 : Nat) (Option.none : Option Jvm.ClassFile.FieldType), Jvm.Cond.code ({ cls := "jdk/internal/util/Preconditions", name := "checkIndex", desc := "(IILjava/util/function/BiFunction;)I" } : Jvm.MethodName) jdk_41_method_11_code (3 : Nat) (Option.some Jvm.ClassFile.FieldType.int), Jvm.Cond.code ({ cls := "java/lang/String", name := "<init>", desc := "([BB)V" } : Jvm.MethodName) jdk_42_method_151_code (3 : Nat) (Option.none : Option Jvm.ClassFile.FieldType), Jvm.Cond.code ({ cls := "java/lang/AbstractStringBuilder", name := "newCapacity", desc := "(I)I" } : Jvm.MethodName) jdk_68_method_10_code (6 : Nat) (Option.some Jvm.ClassFile.FieldType.int), Jvm.Cond.code ({ cls := "jdk/internal/util/ArraysSupport", name := "newLength", desc := "(III)I" } : Jvm.MethodName) jdk_48_method_27_code (4 : Nat) (Option.some Jvm.ClassFile.FieldType.int), Jvm.Cond.code ({ cls := "java/lang/Math", name := "max", desc := "(II)I" } : Jvm.MethodName) jdk_29_method_65_code (2 : Nat) (Option.some Jvm.ClassFile.FieldType.int), Jvm.Cond.code ({ cls := "java/util/Arrays", name := "copyOf", desc := "([BI)[B" } : Jvm.MethodName) jdk_65_method_121_code (3 : Nat) (Option.some (Jvm.ClassFile.FieldType.array Jvm.ClassFile.FieldType.byte))]
set_option maxRecDepth 65536 in
theorem codes_eq : words1.filter isCode = codes1 := rfl
theorem w_codes : ∀ c ∈ words1.filter isCode, c.before args0 about1 = true := by
  rw [codes_eq]
  intro c hc
  simp only [codes1, List.mem_cons, List.not_mem_nil, or_false] at hc
  rcases hc with rfl | rfl | rfl | rfl | rfl | rfl | rfl | rfl | rfl | rfl | rfl | rfl | rfl | rfl | rfl | rfl | rfl | rfl | rfl | rfl | rfl | rfl | rfl | rfl | rfl | rfl | rfl | rfl | rfl | rfl | rfl | rfl | rfl | rfl | rfl | rfl | rfl | rfl | rfl | rfl | rfl | rfl | rfl | rfl | rfl | rfl
  · exact w_c0
  · exact w_c1
  · exact w_c2
  · exact w_c3
  · exact w_c4
  · exact w_c5
  · exact w_c6
  · exact w_c7
  · exact w_c8
  · exact w_c9
  · exact w_c10
  · exact w_c11
  · exact w_c12
  · exact w_c13
  · exact w_c14
  · exact w_c15
  · exact w_c16
  · exact w_c17
  · exact w_c18
  · exact w_c19
  · exact w_c20
  · exact w_c21
  · exact w_c22
  · exact w_c23
  · exact w_c24
  · exact w_c25
  · exact w_c26
  · exact w_c27
  · exact w_c28
  · exact w_c29
  · exact w_c30
  · exact w_c31
  · exact w_c32
  · exact w_c33
  · exact w_c34
  · exact w_c35
  · exact w_c36
  · exact w_c37
  · exact w_c38
  · exact w_c39
  · exact w_c40
  · exact w_c41
  · exact w_c42
  · exact w_c43
  · exact w_c44
  · exact w_c45
set_option maxRecDepth 65536 in
theorem w_t1 : (words1.take 24).all (fun c => isCode c || c.before args0 about1) = true := by decide +kernel
set_option maxRecDepth 65536 in
theorem w_t2 : ((words1.drop 24).take 24).all (fun c => isCode c || c.before args0 about1) = true := by decide +kernel
set_option maxRecDepth 65536 in
theorem w_t3 : (((words1.drop 24).drop 24).take 24).all (fun c => isCode c || c.before args0 about1) = true := by decide +kernel
set_option maxRecDepth 65536 in
theorem w_t4 : ((((words1.drop 24).drop 24).drop 24).take 24).all (fun c => isCode c || c.before args0 about1) = true := by decide +kernel
set_option maxRecDepth 65536 in
theorem w_t5 : (((((words1.drop 24).drop 24).drop 24).drop 24).take 24).all (fun c => isCode c || c.before args0 about1) = true := by decide +kernel
set_option maxRecDepth 65536 in
theorem w_t6 : ((((((words1.drop 24).drop 24).drop 24).drop 24).drop 24).take 24).all (fun c => isCode c || c.before args0 about1) = true := by decide +kernel
set_option maxRecDepth 65536 in
theorem w_t7 : (((((((words1.drop 24).drop 24).drop 24).drop 24).drop 24).drop 24).take 24).all (fun c => isCode c || c.before args0 about1) = true := by decide +kernel
set_option maxRecDepth 65536 in
theorem w_t8 : ((((((((words1.drop 24).drop 24).drop 24).drop 24).drop 24).drop 24).drop 24).take 24).all (fun c => isCode c || c.before args0 about1) = true := by decide +kernel
set_option maxRecDepth 65536 in
theorem w_t9 : (((((((((words1.drop 24).drop 24).drop 24).drop 24).drop 24).drop 24).drop 24).drop 24).take 24).all (fun c => isCode c || c.before args0 about1) = true := by decide +kernel
set_option maxRecDepth 65536 in
theorem w_t10 : (((((((((words1.drop 24).drop 24).drop 24).drop 24).drop 24).drop 24).drop 24).drop 24).drop 24).all (fun c => isCode c || c.before args0 about1) = true := by decide +kernel
theorem w_tables : (allAtoms (Jvm.Cond.code x code maxLocals ret :: tables_1)).before args0 about1 = true := by
  rw [allAtoms_all]
  show words1.all (fun c => c.before args0 about1) = true
  refine all_split ?_ w_codes
  rw [← List.take_append_drop 24 words1, List.all_append, w_t1, ← List.take_append_drop 24 (words1.drop 24), List.all_append, w_t2, ← List.take_append_drop 24 ((words1.drop 24).drop 24), List.all_append, w_t3, ← List.take_append_drop 24 (((words1.drop 24).drop 24).drop 24), List.all_append, w_t4, ← List.take_append_drop 24 ((((words1.drop 24).drop 24).drop 24).drop 24), List.all_append, w_t5, ← List.take_append_drop 24 (((((words1.drop 24).drop 24).drop 24).drop 24).drop 24), List.all_append, w_t6, ← List.take_append_drop 24 ((((((words1.drop 24).drop 24).drop 24).drop 24).drop 24).drop 24), List.all_append, w_t7, ← List.take_append_drop 24 (((((((words1.drop 24).drop 24).drop 24).drop 24).drop 24).drop 24).drop 24), List.all_append, w_t8, ← List.take_append_drop 24 ((((((((words1.drop 24).drop 24).drop 24).drop 24).drop 24).drop 24).drop 24).drop 24), List.all_append, w_t9, w_t10]
  rfl
set_option maxRecDepth 65536 in
theorem w_rest : rest_1_c.before args0 about1 = true := by decide +kernel
set_option maxRecDepth 65536 in
theorem w_case : (Jvm.Cond.and given_1 narrow_1).before args0 about1 = true := by decide +kernel
set_option maxRecDepth 65536 in
theorem w_consts : constsHeld consts_1 about1 := Jvm.Lit.constsHeldB_iff.mp (by decide +kernel)
theorem w_applies : (headSpec (Jvm.Cond.code x code maxLocals ret :: tables_1) room_1).applies x e0.platform about1 = true :=
  (Spec.applies_iff w_frames).mpr ⟨w_running, w_runnable, w_alone, w_named, w_hears, w_ripe, w_room, w_tables⟩
theorem atStart : AtStart classFile x code maxLocals ret World_1 tables_1 room_1 Calls_1 rest_1 Pre_1 launch0 p0 e0 about1 theMethod args0 below0 :=
  ⟨lists_1, trivial, launch0.admits_env _ _ _, launch0.least_env, fairChoices_fair.cas, fairChoices_fair.clock, w_frames, w_args, w_heap, w_applies, ⟨w_consts, trivial⟩, w_rest, w_case⟩
end start1
theorem witness_1 : WitnessClaimed_1 := ⟨start1.p0, start1.e0, start1.about1, start1.theMethod, start1.args0, start1.below0, start1.atStart⟩
end Jvm.Pilot.@@N@@
