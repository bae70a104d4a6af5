import JvmDerived
import JvmDerived.Pilot.@@N@@Statement
import JvmDerived.Pilot.@@N@@Code
set_option linter.unusedVariables false
set_option linter.unusedSimpArgs false
set_option maxRecDepth 65536
set_option maxHeartbeats 40000000
@@BLOCK:NumsL.lean.txt@@
namespace Jvm.Pilot.@@N@@
open Jvm Jvm.ClassFile Sem Op Lib Jvm.Free Jvm.Stand Jvm.LawKit Jvm.RoadKit Bundle Jvm.Pilot.@@N@@.Jvm.D
abbrev HW (a0 : Array Value) (Z : State) : Prop := ∀ d ∈ tables_1, d.before a0 Z = true
theorem w_ {a0 : Array Value} {Z : State} (hw : HW a0 Z) (i : Nat) {d : Jvm.Cond} (h : tables_1[i]? = some d) : d.before a0 Z = true := hw _ (List.mem_of_getElem? h)
abbrev vr (a : Addr) : Slot := .val (.ref a)
abbrev vi (n : Int32) : Slot := .val (.int n)
abbrev un : Slot := .unset
abbrev SA (p : Program) (e : Env) (below : List Frame) (T : State) (m : MethodId) (pc : Nat) (L : Array Slot) (S : List Value) (t : State) : Prop := Steps p.tables e below (T.setTop (mkF m pc L S)) t
def CT (l : Launch) (Z : State) (y : MethodName) (bytes : ByteArray) (mx : Nat) (rt : Option FieldType) (rm : Room) (as : Array Value) (h0 : Heap) (Q : Option Value → Heap → List Loc → Prop) : Prop :=
  MetFree l y (head1 [Jvm.Cond.code y bytes mx rt] rm) (fun a U => a = as ∧ Z.Warmed39 U.vm ∧ U.heap = h0) (fun _ _ _ _ _ => True) (fun _ U o U' => ∃ v L, o = .returned v ∧ Q v U'.heap L ∧ FrameEnd U o U' L rm.cells rm.slots)
theorem ct_intro {l : Launch} {Z : State} {y : MethodName} {bytes : ByteArray} {mx : Nat} {rt : Option FieldType} {rm : Room} {as : Array Value} {h0 : Heap} {Q : Option Value → Heap → List Loc → Prop}
    (H : ∀ (p : Program) (e : Env) (s : State) (m : MethodId) (below : List Frame) (meth : Method) (c : Code) (s₁ E0 : State), p.tables.exec = Jvm.exec → (∀ {pc : Nat} {r : Except DecodeError (Instr × Nat)}, decode bytes pc = r → decode c.code pc = r) → c.maxLocals = mx → s.vm.findClass y.cls = some m.cls → meth.name = y.name → meth.sig.returnType = rt → Stand p l e rm s m as below meth c s₁ [] 0 0 → s₁.heap = h0 → Z.Warmed39 s.vm →
      (∀ t, Steps p.tables e below (s₁.setTop (entryFrame m as mx)) t → Steps p.tables e below E0 t) →
      ∃ (v : Option Value) (T : State) (locs : List Loc) (cells slots : Nat), Stand p l e rm s m as below meth c T locs cells slots ∧ (rt = none → v = none) ∧ Q v T.heap locs ∧ cells ≤ rm.cells ∧ slots ≤ rm.slots ∧
        ∀ fs, (∀ (f : JFrame) (acts : List Action), f.method = m → f.locked = none → f.entered = [] → (doReturn e (T.setTop f) acts v).1 = T.setFrames fs) → Steps p.tables e below E0 (T.setFrames fs)) (hpl : plainFor y = true := by first | exact plainFor_of_name (by first | (simp [plainName, overriddenIn]; done) | decide +kernel) | exact Jvm.Free.JP.mathPlain rfl (by decide +kernel)) : CT l Z y bytes mx rt rm as h0 Q := by
  refine MetFree.of_bodySF hpl hisR ?_
  intro p e s m args below meth c s₁ Bd hml0 hP hK
  obtain ⟨rfl, hZ, hh⟩ := hP
  have e0 : s₁.heap = h0 := by rw [← hh, Bd.state]; rfl
  obtain ⟨v, T, locs, cells, slots, X, hv, hQ, hc, hs, hst⟩ := H p e s m below meth c s₁ (s₁.setTop (entryFrame m _ mx)) Bd.exec (fun q => hb Bd.bytes q) hml0 (findClass_of_methodNamed Bd.named) (name_of_methodNamed Bd.named Bd.method).1 Bd.returns (Stand.of_body Bd) e0 hZ (fun _ k => k)
  obtain ⟨fs, hr, hrun, hended, hW, hsame⟩ := X.leave (v := v) (fun h => hv (by rw [← Bd.returns]; exact h))
  exact ⟨_, _, hst fs hr, hrun, hended, _, _, rfl, hQ, ⟨_, rfl⟩, hW, hsame.mono hc hs⟩
theorem ctp {p : Program} {e : Env} {below : List Frame} {s₁ E0 : State} {m : MethodId} {as : Array Value} {mx : Nat} (L : Array Slot) (hE : ∀ t, Steps p.tables e below (s₁.setTop (entryFrame m as mx)) t → Steps p.tables e below E0 t) (h : entryFrame m as mx = mkF m 0 L [] := by first | (simp [entryFrame, mkF, argsToLocals, Value.category, maxLocals]; done) | rfl) : ∀ t, SA p e below s₁ m 0 L [] t → Steps p.tables e below E0 t := fun t k => hE t (castTop h k)
abbrev IFW (a0 : Array Value) (Z : State) (K : String) (xi y : MethodName) (bytes : ByteArray) (mx : Nat) (rt : Option FieldType) : Prop := (Jvm.Cond.declares xi).before a0 Z = true ∧ (Jvm.Cond.selects K xi y).before a0 Z = true ∧ (Jvm.Cond.instanceMethod y).before a0 Z = true ∧ (Jvm.Cond.publicMethod y).before a0 Z = true ∧ (Jvm.Cond.unhidden K xi.name xi.desc).before a0 Z = true ∧ (Jvm.Cond.castable K xi.cls).before a0 Z = true ∧ (Jvm.Cond.initialized y.cls).before a0 Z = true ∧ (Jvm.Cond.code y bytes mx rt).before a0 Z = true
section Calls
variable {p : Program} {l : Launch} {e : Env} {R : Room} {s : State} {m : MethodId} {args : Array Value} {below : List Frame} {meth : Method} {c : Code} {T : State} {locs : List Loc} {cells slots : Nat} {Z : State} {a0 : Array Value} {h : Heap} {bytes : ByteArray} {mx : Nat} {rt : Option FieldType} {rm : Room} {as : Array Value} {Q : Option Value → Heap → List Loc → Prop} {W : Nat} {own : String} {index : Nat}
theorem kS {y : MethodName} (X : Stand p l e R s m args below meth c T locs cells slots) (hx : p.tables.exec = Jvm.exec) (hZ : Z.Warmed39 s.vm) (hown : s.vm.findClass own = some m.cls) (C : CT l Z y bytes mx rt rm as h Q) (w1 : (Jvm.Cond.methodLink own index y).before a0 Z = true) (w2 : (Jvm.Cond.static y).before a0 Z = true) (w3 : (Jvm.Cond.initialized y.cls).before a0 Z = true) (w4 : (Jvm.Cond.code y bytes mx rt).before a0 Z = true)
    (eT : T.heap = h) {g : JFrame} (hg : g.method = m) {ml : Nat} (hml : c.maxLocals = ml) (hsz : g.locals.size = ml) {argsL rest : List Value} (hlen : ∀ sig, parseMethodDescriptor y.desc = some sig → argsL.length = sig.parameters.length) (hstack : g.stack = argsL.reverse ++ rest) (has : argsL.toArray = as)
    (hW : 2 * g.monitorRoom + (rest.map fun v => v.category).sum = W) (hd : decode c.code g.pc = .ok (.invokestatic index, 3)) (hf : rm.frames + 1 ≤ R.frames := by decide) (hl : W + (mx + 11) + rm.locals ≤ R.locals := by decide) (hc : cells + rm.cells ≤ R.cells := by decide) (hs : slots + rm.slots ≤ R.slots := by decide) (hy : y.cls ≠ "java/lang/invoke/MethodHandle" ∧ y.cls ≠ "java/lang/invoke/VarHandle" := by decide) :
    ∃ (v : Option Value) (T' : State) (L : List Loc), Stand p l e R s m args below meth c T' (locs ++ L) (cells + rm.cells) (slots + rm.slots) ∧ Q v T'.heap L ∧ ∀ t, Steps p.tables e below (T'.setTop { g with pc := g.pc + 3, stack := v.toList ++ rest }) t → Steps p.tables e below (T.setTop g) t := by
  obtain ⟨v, _, ⟨T', L', k', n'⟩, -, X', ⟨Lc, hQ, h1, h2, h3⟩, st⟩ := Jvm.LawKit.callS X hx (y := y) hown (mvT hZ w1) (mvT hZ w2) (mvT hZ w3) (mvT hZ w4) hy (backOf (W := W) C hZ w4 w3 hf hl) hg (hsz.trans hml.symm) hlen hstack (Nat.le_of_eq hW) hd (fun _ _ => ⟨has, eT, hc, hs⟩)
  dsimp only [Pt.U, Pt.locs, Pt.cells, Pt.slots] at X' h1 h2 h3 st hQ
  subst h1 h2 h3
  exact ⟨v, T', Lc, X', hQ, st⟩
theorem kI {y : MethodName} (X : Stand p l e R s m args below meth c T locs cells slots) (hx : p.tables.exec = Jvm.exec) (hZ : Z.Warmed39 s.vm) (hown : s.vm.findClass own = some m.cls) (C : CT l Z y bytes mx none rm as h Q) (hy1 : y.name = "<init>") (w1 : (Jvm.Cond.methodLink own index y).before a0 Z = true) (w2 : (Jvm.Cond.instanceMethod y).before a0 Z = true) (w3 : (Jvm.Cond.initialized y.cls).before a0 Z = true) (w4 : (Jvm.Cond.code y bytes mx none).before a0 Z = true)
    (eT : T.heap = h) {g : JFrame} (hg : g.method = m) {ml : Nat} (hml : c.maxLocals = ml) (hsz : g.locals.size = ml) {a : Addr} {argsL rest : List Value} (hlen : ∀ sig, parseMethodDescriptor y.desc = some sig → argsL.length = sig.parameters.length) (hstack : g.stack = argsL.reverse ++ .ref a :: rest) (has : (.ref a :: argsL).toArray = as)
    (hW : 2 * g.monitorRoom + (rest.map fun v => v.category).sum = W) (hd : decode c.code g.pc = .ok (.invokespecial index, 3)) (hf : rm.frames + 1 ≤ R.frames := by decide) (hl : W + (mx + 11) + rm.locals ≤ R.locals := by decide) (hc : cells + rm.cells ≤ R.cells := by decide) (hs : slots + rm.slots ≤ R.slots := by decide) (hy : y.cls ≠ "java/lang/invoke/MethodHandle" ∧ y.cls ≠ "java/lang/invoke/VarHandle" := by decide) :
    ∃ (v : Option Value) (T' : State) (L : List Loc), Stand p l e R s m args below meth c T' (locs ++ L) (cells + rm.cells) (slots + rm.slots) ∧ Q v T'.heap L ∧ ∀ t, Steps p.tables e below (T'.setTop { g with pc := g.pc + 3, stack := v.toList ++ rest }) t → Steps p.tables e below (T.setTop g) t := by
  obtain ⟨v, _, ⟨T', L', k', n'⟩, -, X', ⟨Lc, hQ, h1, h2, h3⟩, st⟩ := X.specialBack hx (y := y) hy1 hown (mvT hZ w1) (mvT hZ w2) (mvT hZ w4) hy (backOf (W := W) C hZ w4 w3 hf hl) hg (hsz.trans hml.symm) (Steps.refl _) hlen hstack (Nat.le_of_eq hW) hd (fun _ _ => ⟨has, eT, hc, hs⟩)
  dsimp only [Pt.U, Pt.locs, Pt.cells, Pt.slots] at X' h1 h2 h3 st hQ
  subst h1 h2 h3
  exact ⟨v, T', Lc, X', hQ, fun t k => st.trans k⟩
theorem kV {y z : MethodName} {K : String} {b : Addr} (X : Stand p l e R s m args below meth c T locs cells slots) (hx : p.tables.exec = Jvm.exec) (hZ : Z.Warmed39 s.vm) (hown : s.vm.findClass own = some m.cls) (C : CT l Z z bytes mx rt rm as h Q) (E : Exa Z h b K) (hnf : NotFace s y) (w1 : (Jvm.Cond.methodLink own index y).before a0 Z = true) (w2 : (Jvm.Cond.declares y).before a0 Z = true) (w5 : (Jvm.Cond.selects K y z).before a0 Z = true) (w6 : (Jvm.Cond.instanceMethod z).before a0 Z = true) (w3 : (Jvm.Cond.initialized z.cls).before a0 Z = true) (w4 : (Jvm.Cond.code z bytes mx rt).before a0 Z = true)
    (eT : T.heap = h) {g : JFrame} (hg : g.method = m) {ml : Nat} (hml : c.maxLocals = ml) (hsz : g.locals.size = ml) {argsL rest : List Value} (hlen : ∀ sig, parseMethodDescriptor y.desc = some sig → argsL.length = sig.parameters.length) (hstack : g.stack = argsL.reverse ++ .ref b :: rest) (has : (.ref b :: argsL).toArray = as)
    (hW : 2 * g.monitorRoom + (rest.map fun v => v.category).sum = W) (hd : decode c.code g.pc = .ok (.invokevirtual index, 3)) (hf : rm.frames + 1 ≤ R.frames := by decide) (hl : W + (mx + 11) + rm.locals ≤ R.locals := by decide) (hc : cells + rm.cells ≤ R.cells := by decide) (hs : slots + rm.slots ≤ R.slots := by decide) (hy : y.cls ≠ "java/lang/invoke/MethodHandle" ∧ y.cls ≠ "java/lang/invoke/VarHandle" := by decide) :
    ∃ (v : Option Value) (T' : State) (L : List Loc), Stand p l e R s m args below meth c T' (locs ++ L) (cells + rm.cells) (slots + rm.slots) ∧ Q v T'.heap L ∧ ∀ t, Steps p.tables e below (T'.setTop { g with pc := g.pc + 3, stack := v.toList ++ rest }) t → Steps p.tables e below (T.setTop g) t := by
  obtain ⟨cq, kq, qa, qb, qc⟩ := isOf hZ eT E
  obtain ⟨v, _, ⟨T', L', k', n'⟩, -, X', ⟨Lc, hQ, h1, h2, h3⟩, st⟩ := X.virtualBack hx (y := y) (z := z) hown (mvT hZ w1) (mvT hZ w2) hnf (mvT hZ w5) (mvT hZ w6) hy (backOf (W := W) C hZ w4 w3 hf hl) qa qc hg (hsz.trans hml.symm) (Steps.refl _) hlen hstack (Nat.le_of_eq hW) hd (fun _ _ => ⟨has, eT, hc, hs⟩)
  dsimp only [Pt.U, Pt.locs, Pt.cells, Pt.slots] at X' h1 h2 h3 st hQ
  subst h1 h2 h3
  exact ⟨v, T', Lc, X', hQ, fun t k => st.trans k⟩
theorem kU {x y : MethodName} {K owner : String} {b : Addr} (X : Stand p l e R s m args below meth c T locs cells slots) (hx : p.tables.exec = Jvm.exec) (hZ : Z.Warmed39 s.vm) (hown : s.vm.findClass own = some m.cls) (C : CT l Z y bytes mx rt rm as h Q) (E : Exa Z h b K) (w1 : (Jvm.Cond.methodLink own index x).before a0 Z = true) (w7 : (Jvm.Cond.sameMethod x.cls owner x.name x.desc).before a0 Z = true) (w2 : (Jvm.Cond.declares ⟨owner, x.name, x.desc⟩).before a0 Z = true) (w5 : (Jvm.Cond.selects K x y).before a0 Z = true) (w6 : (Jvm.Cond.instanceMethod y).before a0 Z = true) (w3 : (Jvm.Cond.initialized y.cls).before a0 Z = true) (w4 : (Jvm.Cond.code y bytes mx rt).before a0 Z = true)
    (eT : T.heap = h) {g : JFrame} (hg : g.method = m) {ml : Nat} (hml : c.maxLocals = ml) (hsz : g.locals.size = ml) {argsL rest : List Value} (hlen : ∀ sig, parseMethodDescriptor x.desc = some sig → argsL.length = sig.parameters.length) (hstack : g.stack = argsL.reverse ++ .ref b :: rest) (has : (.ref b :: argsL).toArray = as)
    (hW : 2 * g.monitorRoom + (rest.map fun v => v.category).sum = W) (hd : decode c.code g.pc = .ok (.invokevirtual index, 3)) (hf : rm.frames + 1 ≤ R.frames := by decide) (hl : W + (mx + 11) + rm.locals ≤ R.locals := by decide) (hc : cells + rm.cells ≤ R.cells := by decide) (hs : slots + rm.slots ≤ R.slots := by decide) (hy : owner ≠ "java/lang/invoke/MethodHandle" ∧ owner ≠ "java/lang/invoke/VarHandle" := by decide) :
    ∃ (v : Option Value) (T' : State) (L : List Loc), Stand p l e R s m args below meth c T' (locs ++ L) (cells + rm.cells) (slots + rm.slots) ∧ Q v T'.heap L ∧ ∀ t, Steps p.tables e below (T'.setTop { g with pc := g.pc + 3, stack := v.toList ++ rest }) t → Steps p.tables e below (T.setTop g) t := by
  obtain ⟨cq, kq, qa, qb, qc⟩ := isOf hZ eT E
  obtain ⟨v, _, ⟨T', L', k', n'⟩, -, X', ⟨Lc, hQ, h1, h2, h3⟩, st⟩ := X.virtualBackUp hx (x := x) (y := y) (owner := owner) hown (mvT hZ w1) (mvT hZ w7) (mvT hZ w2) hy (mvT hZ w5) (mvT hZ w6) (backOf (W := W) C hZ w4 w3 hf hl) qa qc hg (hsz.trans hml.symm) (Steps.refl _) hlen hstack (Nat.le_of_eq hW) hd (fun _ _ => ⟨has, eT, hc, hs⟩)
  dsimp only [Pt.U, Pt.locs, Pt.cells, Pt.slots] at X' h1 h2 h3 st hQ
  subst h1 h2 h3
  exact ⟨v, T', Lc, X', hQ, fun t k => st.trans k⟩
theorem own_selects {args : Array Value} {s : State} {y z z' : MethodName} (hinst : (Jvm.Cond.instanceMethod y).before args s = true) (hpriv : s.PrivateAt y) (hsel : (Jvm.Cond.selects y.cls z z').before args s = true) (hcls : z'.cls = y.cls) (hy : y.cls ≠ "java/lang/invoke/MethodHandle" ∧ y.cls ≠ "java/lang/invoke/VarHandle") : (Jvm.Cond.selects y.cls y y).before args s = true := by
  obtain ⟨mk, methM, hnamed, hmethM, -, -⟩ := Cond.instanceMethod_spec hinst
  obtain ⟨c2, r2, m2, q1, q2, q3, q4, kP, hkP, hkPi⟩ := Cond.selects_spec hsel
  have e1 := findClass_of_methodNamed hnamed
  have e2 := findClass_of_methodNamed q3
  rw [hcls] at e2
  have e3 : m2.cls = mk.cls := Option.some.inj (e2.symm.trans e1)
  rw [e3] at hkP
  have e4 := State.methodFound?_of_named hnamed hy
  have e5 : selectMethod {} s.vm c2 mk = .method mk := selectMethod_private hmethM (hpriv mk methM hnamed hmethM)
  simp [Cond.before, Cond.holds, Cond.value, q1, e4, hnamed, e5, hkP, hkPi]
theorem kP {y z z' : MethodName} {K : String} {b : Addr} (X : Stand p l e R s m args below meth c T locs cells slots) (hx : p.tables.exec = Jvm.exec) (hZ : Z.Warmed39 s.vm) (hown : s.vm.findClass own = some m.cls) (C : CT l Z y bytes mx rt rm as h Q) (E : Exa Z h b K) (w1 : (Jvm.Cond.methodLink own index y).before a0 Z = true) (w6 : (Jvm.Cond.instanceMethod y).before a0 Z = true) (w8 : (Jvm.Cond.privateMethod y).before a0 Z = true) (w5 : (Jvm.Cond.selects y.cls z z').before a0 Z = true) (hcls : z'.cls = y.cls) (w3 : (Jvm.Cond.initialized y.cls).before a0 Z = true) (w4 : (Jvm.Cond.code y bytes mx rt).before a0 Z = true)
    (eT : T.heap = h) {g : JFrame} (hg : g.method = m) {ml : Nat} (hml : c.maxLocals = ml) (hsz : g.locals.size = ml) {argsL rest : List Value} (hlen : ∀ sig, parseMethodDescriptor y.desc = some sig → argsL.length = sig.parameters.length) (hstack : g.stack = argsL.reverse ++ .ref b :: rest) (has : (.ref b :: argsL).toArray = as)
    (hW : 2 * g.monitorRoom + (rest.map fun v => v.category).sum = W) (hd : decode c.code g.pc = .ok (.invokevirtual index, 3)) (hf : rm.frames + 1 ≤ R.frames := by decide) (hl : W + (mx + 11) + rm.locals ≤ R.locals := by decide) (hc : cells + rm.cells ≤ R.cells := by decide) (hs : slots + rm.slots ≤ R.slots := by decide) (hy : y.cls ≠ "java/lang/invoke/MethodHandle" ∧ y.cls ≠ "java/lang/invoke/VarHandle" := by decide) :
    ∃ (v : Option Value) (T' : State) (L : List Loc), Stand p l e R s m args below meth c T' (locs ++ L) (cells + rm.cells) (slots + rm.slots) ∧ Q v T'.heap L ∧ ∀ t, Steps p.tables e below (T'.setTop { g with pc := g.pc + 3, stack := v.toList ++ rest }) t → Steps p.tables e below (T.setTop g) t := by
  obtain ⟨cq, q, q'⟩ := E.cell
  obtain ⟨v, _, ⟨T', L', k', n'⟩, -, X', ⟨Lc, hQ, h1, h2, h3⟩, st⟩ := X.privateBack hx (y := y) hown (mvT hZ w1) (mvT hZ w6) (own_selects (args := args) (mvT hZ w6) (Cond.privateMethod_at (mvP hZ w8 (args := #[]))) (mvT hZ w5) hcls hy) (Cond.privateMethod_at (mvP hZ w8 (args := #[]))) (mvT hZ w4) hy (backOf (W := W) C hZ w4 w3 hf hl) hg (hsz.trans hml.symm) (Steps.refl _) (a := b) (by rw [eT]; exact q) q' hlen hstack (Nat.le_of_eq hW) hd (fun _ _ => ⟨has, eT, hc, hs⟩)
  dsimp only [Pt.U, Pt.locs, Pt.cells, Pt.slots] at X' h1 h2 h3 st hQ
  subst h1 h2 h3
  exact ⟨v, T', Lc, X', hQ, fun t k => st.trans k⟩
theorem kF {xi y : MethodName} {K : String} {b : Addr} {count : Nat} (X : Stand p l e R s m args below meth c T locs cells slots) (hx : p.tables.exec = Jvm.exec) (hZ : Z.Warmed39 s.vm) (hown : s.vm.findClass own = some m.cls) (C : CT l Z y bytes mx rt rm as h Q) (E : Exa Z h b K) (w1 : (Jvm.Cond.methodLink own index xi).before a0 Z = true) (w2 : (Jvm.Cond.declares xi).before a0 Z = true) (w9 : (Jvm.Cond.interfaceMethod xi.cls xi.cls xi.name xi.desc).before args s = true) (w5 : (Jvm.Cond.selects K xi y).before a0 Z = true) (w6 : (Jvm.Cond.instanceMethod y).before a0 Z = true) (w10 : (Jvm.Cond.publicMethod y).before a0 Z = true) (w11 : (Jvm.Cond.unhidden K xi.name xi.desc).before a0 Z = true) (w12 : (Jvm.Cond.castable K xi.cls).before a0 Z = true) (w3 : (Jvm.Cond.initialized y.cls).before a0 Z = true) (w4 : (Jvm.Cond.code y bytes mx rt).before a0 Z = true)
    (eT : T.heap = h) {g : JFrame} (hg : g.method = m) {ml : Nat} (hml : c.maxLocals = ml) (hsz : g.locals.size = ml) {argsL rest : List Value} (hlen : ∀ sig, parseMethodDescriptor xi.desc = some sig → argsL.length = sig.parameters.length) (hstack : g.stack = argsL.reverse ++ .ref b :: rest) (has : (.ref b :: argsL).toArray = as)
    (hW : 2 * g.monitorRoom + (rest.map fun v => v.category).sum = W) (hd : decode c.code g.pc = .ok (.invokeinterface index count, 5)) (hf : rm.frames + 1 ≤ R.frames := by decide) (hl : W + (mx + 11) + rm.locals ≤ R.locals := by decide) (hc : cells + rm.cells ≤ R.cells := by decide) (hs : slots + rm.slots ≤ R.slots := by decide) (hy : xi.cls ≠ "java/lang/invoke/MethodHandle" ∧ xi.cls ≠ "java/lang/invoke/VarHandle" := by decide) :
    ∃ (v : Option Value) (T' : State) (L : List Loc), Stand p l e R s m args below meth c T' (locs ++ L) (cells + rm.cells) (slots + rm.slots) ∧ Q v T'.heap L ∧ ∀ t, Steps p.tables e below (T'.setTop { g with pc := g.pc + 5, stack := v.toList ++ rest }) t → Steps p.tables e below (T.setTop g) t := by
  obtain ⟨cq, kq, qa, qb, qc⟩ := isOf hZ eT E
  obtain ⟨v, _, ⟨T', L', k', n'⟩, -, X', ⟨Lc, hQ, h1, h2, h3⟩, st⟩ := X.interfaceBack hx (xi := xi) (y := y) hown (mvT hZ w1) (mvT hZ w2) w9 (mvT hZ w5) (mvT hZ w6) (mvT hZ w10) (mvT hZ w11) (mvT hZ w12) hy (backOf (W := W) C hZ w4 w3 hf hl) qa qb qc hg (hsz.trans hml.symm) (Steps.refl _) hlen hstack (Nat.le_of_eq hW) hd (fun _ _ => ⟨has, eT, hc, hs⟩)
  dsimp only [Pt.U, Pt.locs, Pt.cells, Pt.slots] at X' h1 h2 h3 st hQ
  subst h1 h2 h3
  exact ⟨v, T', Lc, X', hQ, fun t k => st.trans k⟩
theorem kG {xi y : MethodName} {K : String} {b : Addr} {count : Nat} (X : Stand p l e R s m args below meth c T locs cells slots) (hx : p.tables.exec = Jvm.exec) (hZ : Z.Warmed39 s.vm) (hown : s.vm.findClass own = some m.cls) (C : CT l Z y bytes mx rt rm as h Q) (E : Exa Z h b K) (w1 : (Jvm.Cond.methodLink own index xi).before a0 Z = true) (w9 : (Jvm.Cond.interfaceMethod xi.cls xi.cls xi.name xi.desc).before args s = true) (I : IFW a0 Z K xi y bytes mx rt)
    (eT : T.heap = h) {g : JFrame} (hg : g.method = m) {ml : Nat} (hml : c.maxLocals = ml) (hsz : g.locals.size = ml) {argsL rest : List Value} (hlen : ∀ sig, parseMethodDescriptor xi.desc = some sig → argsL.length = sig.parameters.length) (hstack : g.stack = argsL.reverse ++ .ref b :: rest) (has : (.ref b :: argsL).toArray = as)
    (hW : 2 * g.monitorRoom + (rest.map fun v => v.category).sum = W) (hd : decode c.code g.pc = .ok (.invokeinterface index count, 5)) (hf : rm.frames + 1 ≤ R.frames := by decide) (hl : W + (mx + 11) + rm.locals ≤ R.locals := by decide) (hc : cells + rm.cells ≤ R.cells := by decide) (hs : slots + rm.slots ≤ R.slots := by decide) (hy : xi.cls ≠ "java/lang/invoke/MethodHandle" ∧ xi.cls ≠ "java/lang/invoke/VarHandle" := by decide) :
    ∃ (v : Option Value) (T' : State) (L : List Loc), Stand p l e R s m args below meth c T' (locs ++ L) (cells + rm.cells) (slots + rm.slots) ∧ Q v T'.heap L ∧ ∀ t, Steps p.tables e below (T'.setTop { g with pc := g.pc + 5, stack := v.toList ++ rest }) t → Steps p.tables e below (T.setTop g) t := kF X hx hZ hown C E w1 I.1 w9 I.2.1 I.2.2.1 I.2.2.2.1 I.2.2.2.2.1 I.2.2.2.2.2.1 I.2.2.2.2.2.2.1 I.2.2.2.2.2.2.2 eT hg hml hsz hlen hstack has hW hd hf hl hc hs hy
end Calls
/-- an array of n places, whatever lies in them -/
def ALen (Z : State) (h : Heap) (a : Addr) (ty : FieldType) (n : Int32) : Prop := ∃ c : Cell, Arr Z h a c ty ∧ c.slots.size = n.toNatClampNeg ∧ ¬ n < 0
theorem ALen.lt {Z : State} {h : Heap} {a : Addr} {ty : FieldType} {n : Int32} (F : ALen Z h a ty n) : a < h.size := by obtain ⟨c, A, -⟩ := F; exact A.lt
theorem ALen.ext {Z : State} {h h' : Heap} {a : Addr} {ty : FieldType} {n : Int32} (F : ALen Z h a ty n) (E : Ext h h') : ALen Z h' a ty n := by obtain ⟨c, A, r⟩ := F; exact ⟨c, A.ext E, r⟩
theorem ALen.keep {Z : State} {h h' : Heap} {ws : List Addr} {a : Addr} {ty : FieldType} {n : Int32} (F : ALen Z h a ty n) (K : Keep h h' ws) : ALen Z h' a ty n := by
  obtain ⟨c, ⟨A1, A2, A3⟩, r1, r2⟩ := F
  obtain ⟨c', e1, e2, e3, e4⟩ := K.2.2 a c A1
  exact ⟨c', ⟨e1, ⟨by rw [e3]; exact A2.1, by rw [e2]; exact A2.2⟩, by rw [e3]; exact A3⟩, by rw [e4]; exact r1, r2⟩
theorem ALen.wr {Z : State} {h h' : Heap} {a b : Addr} {sl : Nat} {v : Value} {ty : FieldType} {n : Int32} (F : ALen Z h a ty n) (W : Wr h h' b sl v) : ALen Z h' a ty n := F.keep (Keep.of_wr W)
theorem nf_of {args : Array Value} {s : State} {C : String} {x y y' : MethodName} (hsel : (Jvm.Cond.selects C x y').before args s = true) (h : y'.cls = y.cls) : NotFace s y := fun r0 h0 => by
  obtain ⟨c2, r2, m2, q1, q2, q3, q4, kP, hkP, hkPi⟩ := Cond.selects_spec hsel
  have e1 := findClass_of_methodNamed h0
  have e2 := findClass_of_methodNamed q3
  rw [h] at e2
  rw [Option.some.inj (e2.symm.trans e1)] at hkP
  exact ⟨kP, hkP, hkPi⟩
abbrev R4 (i : Int32) : Prop := i = 1 ∨ i = 2 ∨ i = 3 ∨ i = 4
/-- the heap of the start lies in h, and n0 is its size -/
def OL (Z : State) (n0 : Nat) (h : Heap) : Prop := n0 = Z.heap.size ∧ Ext Z.heap h
theorem OL.le {Z : State} {n0 : Nat} {h : Heap} (O : OL Z n0 h) : n0 ≤ h.size := O.1 ▸ O.2.1
theorem OL.keep {Z : State} {n0 : Nat} {h h' : Heap} {ws : List Addr} (O : OL Z n0 h) (K : Keep h h' ws) (q : ∀ w ∈ ws, n0 ≤ w) : OL Z n0 h' :=
  ⟨O.1, Nat.le_trans O.2.1 K.1, fun x c hc => K.2.1 x c (O.2.2 x c hc) fun hm => by
    have h1 := q x hm
    have h2 := (Array.getElem?_eq_some_iff.mp hc).1
    rw [O.1] at h1
    exact Nat.lt_irrefl _ (Nat.lt_of_lt_of_le h2 h1)⟩
/-- the statics that the bodies read, at the start -/
def SB (Z : State) (cv : Int32) (de ca : Addr) : Prop := Sta Z Z.heap "java/lang/String" "COMPACT_STRINGS" "Z" (.int cv) ∧ ¬ cv = 0 ∧ Sta Z Z.heap "java/util/ArrayList" "DEFAULTCAPACITY_EMPTY_ELEMENTDATA" "[Ljava/lang/Object;" (.ref de) ∧ ALen Z Z.heap de (.object "java/lang/Object") 0 ∧ Sta Z Z.heap "java/lang/Integer$IntegerCache" "high" "I" (.int 127) ∧ Sta Z Z.heap "java/lang/Integer$IntegerCache" "cache" "[Ljava/lang/Integer;" (.ref ca) ∧ ∃ cl : Cell, Arr Z Z.heap ca cl (.object "java/lang/Integer") ∧ cl.slots.size = 256 ∧ ∀ i : Nat, i < 256 → ∃ w : Addr, cl.slots[i]? = some (.ref w) ∧ Exa Z Z.heap w "java/lang/Integer" ∧ Fld Z Z.heap w "java/lang/Integer" "value" "I" (.int (i.toInt32 - 128))
def QP0 (val : Option Value) (h0 : Heap) (n0 : Nat) (v : Option Value) (h : Heap) (L : List Loc) : Prop := v = val ∧ Fr n0 L ∧ h = h0
theorem CT.mono {l : Launch} {Z : State} {y : MethodName} {bytes : ByteArray} {mx : Nat} {rt : Option FieldType} {rm : Room} {as : Array Value} {h0 : Heap} {Q Q' : Option Value → Heap → List Loc → Prop} (C : CT l Z y bytes mx rt rm as h0 Q) (k : ∀ v h L, Q v h L → Q' v h L) : CT l Z y bytes mx rt rm as h0 Q' := by
  intro p e ha hc hk s m args below hf hap hP hK
  obtain ⟨n, o, h1, h2, h3, v, L, q1, q2, q3⟩ := C p e ha hc hk s m args below hf hap hP hK
  exact ⟨n, o, h1, h2, h3, v, L, q1, k _ _ _ q2, q3⟩
def up (f : Int32 → Int32) (j x : Int32) : Int32 → Int32 := fun i => if i = j then x else f i
/-- a table of booleans by a function -/
def AB (Z : State) (h : Heap) (a : Addr) (n : Int32) (f : Int32 → Int32) : Prop := ∃ c : Cell, Arr Z h a c .boolean ∧ c.slots.size = n.toNatClampNeg ∧ ¬ n < 0 ∧ ∀ j : Int32, ¬ j < 0 → j < n → c.slots[j.toNatClampNeg]? = some (.int (f j))
theorem own_clamp {i j : Int32} (hi : ¬ i < 0) (hj : ¬ j < 0) (h : ¬ i = j) : i.toNatClampNeg ≠ j.toNatClampNeg := fun q => h (Int32.toInt_inj.mp (by rw [nat_of hi, nat_of hj, q]))
theorem own_clamp_lt {i n : Int32} (hi : ¬ i < 0) (h : i < n) : i.toNatClampNeg < n.toNatClampNeg := by
  rw [Int32.lt_iff_toInt_lt] at h hi
  have : (0 : Int32).toInt = 0 := rfl
  simp only [Int32.toNatClampNeg]
  omega
section
variable {Z : State} {h h' : Heap} {a b : Addr} {n j x : Int32} {f : Int32 → Int32} {ws : List Addr} {sl : Nat} {v : Value} {cA : ClassId}
theorem AB.lt (F : AB Z h a n f) : a < h.size := by obtain ⟨c, A, -⟩ := F; exact A.lt
theorem AB.ext (F : AB Z h a n f) (E : Ext h h') : AB Z h' a n f := by obtain ⟨c, A, r⟩ := F; exact ⟨c, A.ext E, r⟩
theorem AB.keep (F : AB Z h a n f) (K : Keep h h' ws) (q : a ∉ ws) : AB Z h' a n f := by obtain ⟨c, A, r⟩ := F; exact ⟨c, ⟨K.2.1 a c A.1 q, A.2⟩, r⟩
theorem AB.other (F : AB Z h a n f) (W : Wr h h' b sl v) (q : a ≠ b) : AB Z h' a n f := by obtain ⟨c, A, r⟩ := F; exact ⟨c, A.other W q, r⟩
theorem AB.inb {c : Cell} (S : c.slots.size = n.toNatClampNeg) (hj : ¬ j < 0) (hn : j < n) : ¬ (j < 0 ∨ c.slots.size ≤ j.toNatClampNeg) := fun q => q.elim hj fun q => Nat.lt_irrefl _ (Nat.lt_of_lt_of_le (own_clamp_lt hj hn) (S ▸ q))
theorem AB.set (F : AB Z h a n f) (W : Wr h h' a j.toNatClampNeg (.int x)) (hj : ¬ j < 0) (hn : j < n) : AB Z h' a n (up f j x) := by
  obtain ⟨c, A, S, M, H⟩ := F
  have hlt : j.toNatClampNeg < c.slots.size := by rw [S]; exact own_clamp_lt hj hn
  refine ⟨_, A.same W, by rw [sz_set]; exact S, M, fun i hi hin => ?_⟩
  by_cases q : i = j
  · subst q
    simp [Cell.setSlot, up, hlt]
  · simp only [Cell.setSlot, up, if_neg q]
    rw [Array.getElem?_setIfInBounds_ne (own_clamp hj hi fun z => q z.symm)]
    exact H i hi hin
theorem AB.new (A : Arr Z h a (newA cA .boolean n) .boolean) (hn : ¬ n < 0) : AB Z h a n (fun _ => 0) :=
  ⟨_, A, sz_new _ _ _, hn, fun j hj hjn => by
    have := own_clamp_lt hj hjn
    simp [newA, this]
    rfl⟩
end
/-- a count: 0 to 12 -/
abbrev BD (i : Int32) : Prop := ∃ k : Nat, k ≤ 12 ∧ i = k.toInt32
theorem bd_lo {i : Int32} (q : BD i) : ¬ i < (-128 : Int32) := by obtain ⟨k, hk, rfl⟩ := q; revert k; decide
theorem bd_hi {i : Int32} (q : BD i) : ¬ (127 : Int32) < i := by obtain ⟨k, hk, rfl⟩ := q; revert k; decide
theorem bd_nn {i : Int32} (q : BD i) : ¬ i < 0 := by obtain ⟨k, hk, rfl⟩ := q; revert k; decide
theorem bd_cap {i : Int32} (q : BD i) : i.toNatClampNeg ≤ 12 := by obtain ⟨k, hk, rfl⟩ := q; revert k; decide
theorem bd_nn1 {i : Int32} (q : BD i) : ¬ (i + 1) < 0 := by obtain ⟨k, hk, rfl⟩ := q; revert k; decide
theorem bd_cap1 {i : Int32} (q : BD i) : (i + 1).toNatClampNeg ≤ 13 := by obtain ⟨k, hk, rfl⟩ := q; revert k; decide
theorem bd_at {i : Int32} {Z : State} {h : Heap} {cl : Cell} (q : BD i) (S : cl.slots.size = 256) (H : ∀ i : Nat, i < 256 → ∃ w : Addr, cl.slots[i]? = some (.ref w) ∧ Exa Z h w "java/lang/Integer" ∧ Fld Z h w "java/lang/Integer" "value" "I" (.int (i.toInt32 - 128))) : ¬ ((i + (128 : Int32)) < 0 ∨ cl.slots.size ≤ (i + (128 : Int32)).toNatClampNeg) ∧ ∃ w : Addr, cl.slots[(i + (128 : Int32)).toNatClampNeg]? = some (.ref w) ∧ Exa Z h w "java/lang/Integer" ∧ Fld Z h w "java/lang/Integer" "value" "I" (.int i) := by
  obtain ⟨k, hk, rfl⟩ := q
  have e1 : ∀ k : Nat, k ≤ 12 → (k.toInt32 + (128 : Int32)).toNatClampNeg = k + 128 ∧ ¬ (k.toInt32 + (128 : Int32)) < 0 ∧ (k + 128).toInt32 - (128 : Int32) = k.toInt32 := by decide
  obtain ⟨e1, e2, e3⟩ := e1 k hk
  obtain ⟨w, h1, h2, h3⟩ := H (k + 128) (by omega)
  rw [e3] at h3
  exact ⟨fun q => q.elim e2 fun q => by rw [e1, S] at q; omega, w, by rw [e1]; exact h1, h2, h3⟩
theorem bd0 : BD 0 := ⟨0, by decide, rfl⟩
theorem bd1 {a : Int32} (ha : R4 a) : BD ((0 : Int32) + a) := by rcases ha with rfl | rfl | rfl | rfl <;> decide
theorem bd2 {a b : Int32} (ha : R4 a) (hb : R4 b) : BD (((0 : Int32) + a) + b) := by rcases ha with rfl | rfl | rfl | rfl <;> rcases hb with rfl | rfl | rfl | rfl <;> decide
theorem bd3 {a b c : Int32} (ha : R4 a) (hb : R4 b) (hc : R4 c) : BD ((((0 : Int32) + a) + b) + c) := by rcases ha with rfl | rfl | rfl | rfl <;> rcases hb with rfl | rfl | rfl | rfl <;> rcases hc with rfl | rfl | rfl | rfl <;> decide
theorem ix1_1 {a : Int32} (ha : R4 a) : ¬ (((0 : Int32) + a) - (1 : Int32)) < 0 ∧ (((0 : Int32) + a) - (1 : Int32)) < ((0 : Int32) + a) := by
  rcases ha with rfl | rfl | rfl | rfl <;> decide
theorem ix1_2 {a b : Int32} (ha : R4 a) (hb : R4 b) : ¬ (((0 : Int32) + a) - (1 : Int32)) < 0 ∧ (((0 : Int32) + a) - (1 : Int32)) < (((0 : Int32) + a) + b) := by
  rcases ha with rfl | rfl | rfl | rfl <;> rcases hb with rfl | rfl | rfl | rfl <;> decide
theorem ix1_3 {a b c : Int32} (ha : R4 a) (hb : R4 b) (hc : R4 c) : ¬ (((0 : Int32) + a) - (1 : Int32)) < 0 ∧ (((0 : Int32) + a) - (1 : Int32)) < ((((0 : Int32) + a) + b) + c) := by
  rcases ha with rfl | rfl | rfl | rfl <;> rcases hb with rfl | rfl | rfl | rfl <;> rcases hc with rfl | rfl | rfl | rfl <;> decide
theorem ix2_2 {a b : Int32} (ha : R4 a) (hb : R4 b) : ¬ ((((0 : Int32) + a) + b) - (1 : Int32)) < 0 ∧ ((((0 : Int32) + a) + b) - (1 : Int32)) < (((0 : Int32) + a) + b) := by
  rcases ha with rfl | rfl | rfl | rfl <;> rcases hb with rfl | rfl | rfl | rfl <;> decide
theorem ix2_3 {a b c : Int32} (ha : R4 a) (hb : R4 b) (hc : R4 c) : ¬ ((((0 : Int32) + a) + b) - (1 : Int32)) < 0 ∧ ((((0 : Int32) + a) + b) - (1 : Int32)) < ((((0 : Int32) + a) + b) + c) := by
  rcases ha with rfl | rfl | rfl | rfl <;> rcases hb with rfl | rfl | rfl | rfl <;> rcases hc with rfl | rfl | rfl | rfl <;> decide
theorem ix3_3 {a b c : Int32} (ha : R4 a) (hb : R4 b) (hc : R4 c) : ¬ (((((0 : Int32) + a) + b) + c) - (1 : Int32)) < 0 ∧ (((((0 : Int32) + a) + b) + c) - (1 : Int32)) < ((((0 : Int32) + a) + b) + c) := by
  rcases ha with rfl | rfl | rfl | rfl <;> rcases hb with rfl | rfl | rfl | rfl <;> rcases hc with rfl | rfl | rfl | rfl <;> decide
abbrev BD1 (n : Int32) : Prop := ∃ k : Nat, k ≤ 12 ∧ n = k.toInt32 + 1
theorem bd_suc {i : Int32} (q : BD i) : BD1 (i + (1 : Int32)) := by obtain ⟨k, hk, rfl⟩ := q; exact ⟨k, hk, rfl⟩
theorem gl0 : ∀ k : Nat, k ≤ 12 → ∀ j : Nat, j ≤ k → ¬ j.toInt32 < 0 ∧ ¬ (j.toInt32 + (1 : Int32)) < 0 ∧ j.toInt32 < k.toInt32 + 1 ∧ ((j.toInt32 + (1 : Int32)) < k.toInt32 + 1 ↔ j < k) ∧ j.toInt32 + (1 : Int32) = (j + 1).toInt32 ∧ (k.toInt32 + 1).toNatClampNeg ≤ 13 ∧ ¬ (k.toInt32 + 1) < 0 := by decide
theorem Arv.zset {Z : State} {h h' : Heap} {a : Addr} {k : ClassId} {n : Int32} {sl : Nat} (F : Arv Z h a k .int n [] (.int 0)) (W : Wr h h' a sl (.int 0)) : Arv Z h' a k .int n [] (.int 0) := by
  obtain ⟨c, A, q1, S, M, H, G⟩ := F
  refine ⟨_, A.same W, q1, by rw [sz_set]; exact S, M, fun i hi => ?_, fun i hi => rfl⟩
  rw [sz_set] at hi
  by_cases q : sl = i
  · subst q
    simp [Cell.setSlot, hi]
  · simp only [Cell.setSlot]
    rw [Array.getElem?_setIfInBounds_ne q]
    exact H i hi
theorem AB.at {c : Cell} {n j k : Int32} {f : Int32 → Int32} (H : ∀ j : Int32, ¬ j < 0 → j < n → c.slots[j.toNatClampNeg]? = some (.int (f j))) (hj : ¬ j < 0) (hn : j < n) (q : f j = k) : c.slots[j.toNatClampNeg]? = some (.int k) := by rw [H j hj hn, q]
def Q1 (n0 : Nat) (v : Option Value) (h : Heap) (L : List Loc) : Prop := v = some (.int 1) ∧ Fr n0 L
def CTW (l : Launch) (Z : State) (ws : List Jvm.Cond) (as : Array Value) (h0 : Heap) (Q : Option Value → Heap → List Loc → Prop) : Prop :=
  MetFree l x (head1 (Jvm.Cond.code x code maxLocals ret :: ws) room_1) (fun a U => a = as ∧ Z.Warmed39 U.vm ∧ U.heap = h0) (fun _ _ _ _ _ => True) (fun _ U o U' => ∃ v L, o = .returned v ∧ Q v U'.heap L ∧ FrameEnd U o U' L room_1.cells room_1.slots)
theorem ctw_intro {l : Launch} {Z : State} {ws : List Jvm.Cond} {as : Array Value} {h0 : Heap} {Q : Option Value → Heap → List Loc → Prop} (hpl : plainFor x = true)
    (H : ∀ (p : Program) (e : Env) (s : State) (m : MethodId) (below : List Frame) (meth : Method) (c : Code) (s₁ E0 : State), p.tables.exec = Jvm.exec → (∀ {pc : Nat} {r : Except DecodeError (Instr × Nat)}, decode code pc = r → decode c.code pc = r) → c.maxLocals = maxLocals → s.vm.findClass x.cls = some m.cls → meth.name = x.name → meth.sig.returnType = ret → Stand p l e room_1 s m as below meth c s₁ [] 0 0 → s₁.heap = h0 → Z.Warmed39 s.vm →
      (∀ t, Steps p.tables e below (s₁.setTop (entryFrame m as maxLocals)) t → Steps p.tables e below E0 t) →
      ∃ (v : Option Value) (T : State) (locs : List Loc) (cells slots : Nat), Stand p l e room_1 s m as below meth c T locs cells slots ∧ (ret = none → v = none) ∧ Q v T.heap locs ∧ cells ≤ room_1.cells ∧ slots ≤ room_1.slots ∧
        ∀ fs, (∀ (f : JFrame) (acts : List Action), f.method = m → f.locked = none → f.entered = [] → (doReturn e (T.setTop f) acts v).1 = T.setFrames fs) → Steps p.tables e below E0 (T.setFrames fs)) : CTW l Z ws as h0 Q := by
  refine MetFree.of_bodySF hpl hisR ?_
  intro p e s m args below meth c s₁ Bd hml0 hP hK
  obtain ⟨rfl, hZ, hh⟩ := hP
  have e0 : s₁.heap = h0 := by rw [← hh, Bd.state]; rfl
  obtain ⟨v, T, locs, cells, slots, X, hv, hQ, hc, hs, hst⟩ := H p e s m below meth c s₁ (s₁.setTop (entryFrame m _ maxLocals)) Bd.exec (fun q => hb Bd.bytes q) hml0 (findClass_of_methodNamed Bd.named) (name_of_methodNamed Bd.named Bd.method).1 Bd.returns (Stand.of_body Bd) e0 hZ (fun _ k => k)
  obtain ⟨fs, hr, hrun, hended, hW, hsame⟩ := X.leave (v := v) (fun h => hv (by rw [← Bd.returns]; exact h))
  exact ⟨_, _, hst fs hr, hrun, hended, _, _, rfl, hQ, ⟨_, rfl⟩, hW, hsame.mono hc hs⟩
theorem gF {p : Program} {l : Launch} {e : Env} {R : Room} {s : State} {m : MethodId} {args : Array Value} {below : List Frame} {meth : Method} {c : Code} {T : State} {locs : List Loc} {cells slots : Nat} {Z : State} {a0 : Array Value} {h : Heap} (X : Stand p l e R s m args below meth c T locs cells slots) (hx : p.tables.exec = Jvm.exec) (hZ : Z.Warmed39 s.vm) {own R0 O n d : String} {index : Nat} (hown : s.vm.findClass own = some m.cls) (w : (Jvm.Cond.fieldLink own index R0 n d).before a0 Z = true) (via : Via Z R0 O n d) (eT : T.heap = h) {a : Addr} {v : Value} (F : Fld Z h a O n d v) {g : JFrame} (hg : g.method = m) {rest : List Value} (hs : g.stack = .ref a :: rest) (hd : decode c.code g.pc = .ok (.getfield index, 3)) : ∃ T', Stand p l e R s m args below meth c T' locs cells slots ∧ T'.heap = h ∧ ∀ target, Steps p.tables e below (T'.setTop { g with pc := g.pc + 3, stack := v :: rest }) target → Steps p.tables e below (T.setTop g) target := getF X hx hZ hown (host := "") (Or.inl w) via eT F hg hs hd
variable {l : Launch} {Z : State} {a0 : Array Value} {cv : Int32} {de ca : Addr} {h0 : Heap} {n0 : Nat}
theorem own_eq_int {args : Array Value} {s : State} {t : Term} {k : Int32} (h : (Jvm.Cond.eq t (.int k)).value args s none s [] = some true) : t.eval args s none [] s = some (.int k) := by
  simp only [Cond.value, Term.eval] at h
  cases ht : t.eval args s none [] s with
  | none => simp [ht] at h
  | some x => cases x <;> simp [ht] at h ⊢; exact h
theorem own_fld {args : Array Value} {s : State} {t : Term} {a : Addr} {C n d : String} {k : Int32} (ev : t.eval args s none [] s = some (.ref a)) (h : (Jvm.Cond.eq (.field t C n d) (.int k)).value args s none s [] = some true) : Fld s s.heap a C n d (.int k) :=
  Fld.start ((fld_at ev).symm.trans (own_eq_int h))
theorem own_toInt32_inj {i j : Nat} (hi : i < 2 ^ 31) (hj : j < 2 ^ 31) (h : i.toInt32 = j.toInt32) : i = j := by
  have := congrArg Int32.toInt h
  rw [len_toInt hi, len_toInt hj] at this
  omega
theorem own_inj {Z : State} {h : Heap} {w : Nat → Addr} {n : Nat} (hn : n < 2 ^ 31) (F : ∀ i, i < n → Fld Z h (w i) "java/lang/Enum" "ordinal" "I" (.int i.toInt32)) : ∀ i j, i < n → j < n → w i = w j → i = j := fun i j hi hj e => by
  by_cases q : i = j
  · exact q
  · exact absurd e (Fld.ne (F i hi) (F j hj) fun h => q (own_toInt32_inj (by omega) (by omega) (Value.int.inj h)))
theorem own_i32 {i : Int32} {N : Nat} (hN : N < 2 ^ 31) (h0 : 0 ≤ i.toInt) (h1 : i.toInt < N) : ∃ k : Nat, k < N ∧ i = k.toInt32 := by
  refine ⟨i.toInt.toNat, by omega, Int32.toInt_inj.mp ?_⟩
  rw [len_toInt (by omega)]
  omega
theorem own_mod (x n : Int32) (N : Nat) (hN : n.toInt = N) (h : 0 < N) : ∃ k : Nat, k < N ∧ (x &&& (2147483647 : Int32)) % n = k.toInt32 := by
  have e1 : (x &&& (2147483647 : Int32)).toInt = x.toInt % 2 ^ 31 := Jvm.Kit.i32_mask x 2147483647 (k := 31) (by decide) (by decide)
  have e2 : ((x &&& (2147483647 : Int32)) % n).toInt = (x &&& (2147483647 : Int32)).toInt % n.toInt := Jvm.Kit.i32_rem_nonneg (by omega)
  have hlt := n.toInt_lt
  have h3 : 0 ≤ (x &&& (2147483647 : Int32)).toInt % n.toInt := Int.emod_nonneg _ (by omega)
  have h4 : (x &&& (2147483647 : Int32)).toInt % n.toInt < n.toInt := Int.emod_lt_of_pos _ (by omega)
  exact own_i32 (by omega) (by omega) (by omega)
theorem own_mask (x n : Int32) {k : Nat} (hk : k < 31) (hm : n.toBitVec.toNat = 2 ^ k - 1) : ∃ j : Nat, j < 2 ^ k ∧ x &&& n = j.toInt32 := by
  have e1 : (x &&& n).toInt = x.toInt % 2 ^ k := Jvm.Kit.i32_mask x n (k := k) (by omega) hm
  have hp : (2 : Nat) ^ k < 2 ^ 31 := Nat.pow_lt_pow_right (by decide) hk
  have hp1 : (0 : Int) < 2 ^ k := Int.pow_pos (by decide)
  have h3 : 0 ≤ x.toInt % 2 ^ k := Int.emod_nonneg _ (by omega)
  have h4 : x.toInt % 2 ^ k < 2 ^ k := Int.emod_lt_of_pos _ hp1
  refine own_i32 hp (by rw [e1]; exact h3) (by rw [e1]; push_cast; exact h4)
theorem n3 (x : Int32) : ((1 : Int32) + ((x &&& (2147483647 : Int32)) % (3 : Int32))) = 1 ∨ ((1 : Int32) + ((x &&& (2147483647 : Int32)) % (3 : Int32))) = 2 ∨ ((1 : Int32) + ((x &&& (2147483647 : Int32)) % (3 : Int32))) = 3 := by
  obtain ⟨j, hj, e⟩ := own_mod x 3 3 (by decide) (by decide)
  rw [e]
  have k : ∀ j : Nat, j < 3 → ((1 : Int32) + j.toInt32) = 1 ∨ ((1 : Int32) + j.toInt32) = 2 ∨ ((1 : Int32) + j.toInt32) = 3 := by decide
  exact k j hj
theorem r4 (x : Int32) : R4 ((1 : Int32) + (x &&& (3 : Int32))) := by
  obtain ⟨j, hj, e⟩ := own_mask x 3 (k := 2) (by decide) (by decide)
  rw [e]
  have k : ∀ j : Nat, j < 4 → R4 ((1 : Int32) + j.toInt32) := by decide
  exact k j hj
theorem sm (x n : Int32) (h : 1 ≤ n.toInt) : ¬ (x &&& (2147483647 : Int32)) % n < 0 ∧ (x &&& (2147483647 : Int32)) % n < n := by
  have e1 : (x &&& (2147483647 : Int32)).toInt = x.toInt % 2 ^ 31 := Jvm.Kit.i32_mask x 2147483647 (k := 31) (by decide) (by decide)
  have e2 : ((x &&& (2147483647 : Int32)) % n).toInt = (x &&& (2147483647 : Int32)).toInt % n.toInt := Jvm.Kit.i32_rem_nonneg (by omega)
  have h3 := Int.emod_nonneg (x &&& (2147483647 : Int32)).toInt (b := n.toInt) (by omega)
  have h4 := Int.emod_lt_of_pos (x &&& (2147483647 : Int32)).toInt (b := n.toInt) (by omega)
  have h0 : (0 : Int32).toInt = 0 := rfl
  rw [Int32.lt_iff_toInt_lt, Int32.lt_iff_toInt_lt, e2]
  exact ⟨by omega, h4⟩
theorem pos1 {a : Int32} (ha : R4 a) : 1 ≤ a.toInt := by
  rcases ha with rfl | rfl | rfl | rfl <;> decide
theorem nz1 {a : Int32} (ha : R4 a) : ¬ a = 0 := by
  rcases ha with rfl | rfl | rfl | rfl <;> decide
theorem top1 {a : Int32} (ha : R4 a) : a.toInt ≤ 12 := by
  rcases ha with rfl | rfl | rfl | rfl <;> decide
theorem fk1 {a s : Int32} (ha : R4 a) (h0 : ¬ s < 0) (h1 : s < a) (h2 : ¬ s = (0 : Int32)) : ¬ (s - (1 : Int32)) < 0 ∧ (s - (1 : Int32)) < ((0 : Int32) + a) ∧ (up (fun _ => 0) (((0 : Int32) + a) - (1 : Int32)) (1 : Int32)) (s - (1 : Int32)) = (if False then 1 else 0) := by
  have t := top1 ha
  obtain ⟨S, hS, rfl⟩ : ∃ S : Nat, S < 12 ∧ s = S.toInt32 := own_i32 (by decide) (by rw [Int32.lt_iff_toInt_lt] at h0; have : (0 : Int32).toInt = 0 := rfl; omega) (by rw [Int32.lt_iff_toInt_lt] at h1; omega)
  have k : ∀ S : Nat, S < 12 → S.toInt32 < 0 ∨ ¬ S.toInt32 < a ∨ S.toInt32 = (0 : Int32) ∨ ¬ (S.toInt32 - (1 : Int32)) < 0 ∧ (S.toInt32 - (1 : Int32)) < ((0 : Int32) + a) ∧ (up (fun _ => 0) (((0 : Int32) + a) - (1 : Int32)) (1 : Int32)) (S.toInt32 - (1 : Int32)) = (if False then 1 else 0) := by
    clear h0 h1 h2 t
    rcases ha with rfl | rfl | rfl | rfl <;> decide +kernel
  rcases k S hS with q | q | q | q
  · exact absurd q h0
  · exact absurd h1 q
  · exact absurd q h2
  · exact q
theorem pos2 {a b : Int32} (ha : R4 a) (hb : R4 b) : 1 ≤ (a + b).toInt := by
  rcases ha with rfl | rfl | rfl | rfl <;> rcases hb with rfl | rfl | rfl | rfl <;> decide
theorem nz2 {a b : Int32} (ha : R4 a) (hb : R4 b) : ¬ (a + b) = 0 := by
  rcases ha with rfl | rfl | rfl | rfl <;> rcases hb with rfl | rfl | rfl | rfl <;> decide
theorem top2 {a b : Int32} (ha : R4 a) (hb : R4 b) : (a + b).toInt ≤ 12 := by
  rcases ha with rfl | rfl | rfl | rfl <;> rcases hb with rfl | rfl | rfl | rfl <;> decide
theorem fk2 {a b s : Int32} (ha : R4 a) (hb : R4 b) (h0 : ¬ s < 0) (h1 : s < (a + b)) (h2 : ¬ s = (0 : Int32)) : ¬ (s - (1 : Int32)) < 0 ∧ (s - (1 : Int32)) < (((0 : Int32) + a) + b) ∧ (up (up (fun _ => 0) (((0 : Int32) + a) - (1 : Int32)) (1 : Int32)) ((((0 : Int32) + a) + b) - (1 : Int32)) (1 : Int32)) (s - (1 : Int32)) = (if s = a then 1 else 0) := by
  have t := top2 ha hb
  obtain ⟨S, hS, rfl⟩ : ∃ S : Nat, S < 12 ∧ s = S.toInt32 := own_i32 (by decide) (by rw [Int32.lt_iff_toInt_lt] at h0; have : (0 : Int32).toInt = 0 := rfl; omega) (by rw [Int32.lt_iff_toInt_lt] at h1; omega)
  have k : ∀ S : Nat, S < 12 → S.toInt32 < 0 ∨ ¬ S.toInt32 < (a + b) ∨ S.toInt32 = (0 : Int32) ∨ ¬ (S.toInt32 - (1 : Int32)) < 0 ∧ (S.toInt32 - (1 : Int32)) < (((0 : Int32) + a) + b) ∧ (up (up (fun _ => 0) (((0 : Int32) + a) - (1 : Int32)) (1 : Int32)) ((((0 : Int32) + a) + b) - (1 : Int32)) (1 : Int32)) (S.toInt32 - (1 : Int32)) = (if S.toInt32 = a then 1 else 0) := by
    clear h0 h1 h2 t
    rcases ha with rfl | rfl | rfl | rfl <;> rcases hb with rfl | rfl | rfl | rfl <;> decide +kernel
  rcases k S hS with q | q | q | q
  · exact absurd q h0
  · exact absurd h1 q
  · exact absurd q h2
  · exact q
theorem pos3 {a b c : Int32} (ha : R4 a) (hb : R4 b) (hc : R4 c) : 1 ≤ ((a + b) + c).toInt := by
  rcases ha with rfl | rfl | rfl | rfl <;> rcases hb with rfl | rfl | rfl | rfl <;> rcases hc with rfl | rfl | rfl | rfl <;> decide
theorem nz3 {a b c : Int32} (ha : R4 a) (hb : R4 b) (hc : R4 c) : ¬ ((a + b) + c) = 0 := by
  rcases ha with rfl | rfl | rfl | rfl <;> rcases hb with rfl | rfl | rfl | rfl <;> rcases hc with rfl | rfl | rfl | rfl <;> decide
theorem top3 {a b c : Int32} (ha : R4 a) (hb : R4 b) (hc : R4 c) : ((a + b) + c).toInt ≤ 12 := by
  rcases ha with rfl | rfl | rfl | rfl <;> rcases hb with rfl | rfl | rfl | rfl <;> rcases hc with rfl | rfl | rfl | rfl <;> decide
theorem fk3 {a b c s : Int32} (ha : R4 a) (hb : R4 b) (hc : R4 c) (h0 : ¬ s < 0) (h1 : s < ((a + b) + c)) (h2 : ¬ s = (0 : Int32)) : ¬ (s - (1 : Int32)) < 0 ∧ (s - (1 : Int32)) < ((((0 : Int32) + a) + b) + c) ∧ (up (up (up (fun _ => 0) (((0 : Int32) + a) - (1 : Int32)) (1 : Int32)) ((((0 : Int32) + a) + b) - (1 : Int32)) (1 : Int32)) (((((0 : Int32) + a) + b) + c) - (1 : Int32)) (1 : Int32)) (s - (1 : Int32)) = (if s = a ∨ s = (a + b) then 1 else 0) := by
  have t := top3 ha hb hc
  obtain ⟨S, hS, rfl⟩ : ∃ S : Nat, S < 12 ∧ s = S.toInt32 := own_i32 (by decide) (by rw [Int32.lt_iff_toInt_lt] at h0; have : (0 : Int32).toInt = 0 := rfl; omega) (by rw [Int32.lt_iff_toInt_lt] at h1; omega)
  have k : ∀ S : Nat, S < 12 → S.toInt32 < 0 ∨ ¬ S.toInt32 < ((a + b) + c) ∨ S.toInt32 = (0 : Int32) ∨ ¬ (S.toInt32 - (1 : Int32)) < 0 ∧ (S.toInt32 - (1 : Int32)) < ((((0 : Int32) + a) + b) + c) ∧ (up (up (up (fun _ => 0) (((0 : Int32) + a) - (1 : Int32)) (1 : Int32)) ((((0 : Int32) + a) + b) - (1 : Int32)) (1 : Int32)) (((((0 : Int32) + a) + b) + c) - (1 : Int32)) (1 : Int32)) (S.toInt32 - (1 : Int32)) = (if S.toInt32 = a ∨ S.toInt32 = (a + b) then 1 else 0) := by
    clear h0 h1 h2 t
    rcases ha with rfl | rfl | rfl | rfl <;> rcases hb with rfl | rfl | rfl | rfl <;> rcases hc with rfl | rfl | rfl | rfl <;> decide +kernel
  rcases k S hS with q | q | q | q
  · exact absurd q h0
  · exact absurd h1 q
  · exact absurd q h2
  · exact q
abbrev P0 (Z : State) (h : Heap) (a : Addr) (v : Value) : Prop := Fld Z h a "java/util/HashMap" "loadFactor" "F" v
abbrev P1 (Z : State) (h : Heap) (a : Addr) (v : Value) : Prop := Fld Z h a "java/util/LinkedHashMap" "putMode" "I" v
abbrev P2 (Z : State) (h : Heap) (a : Addr) (v : Value) : Prop := Fld Z h a "java/util/LinkedHashMap" "accessOrder" "Z" v
abbrev P3 (Z : State) (h : Heap) (a : Addr) (v : Value) : Prop := Fld Z h a "java/util/HashMap" "table" "[Ljava/util/HashMap$Node;" v
abbrev P4 (Z : State) (h : Heap) (a : Addr) (v : Value) : Prop := Fld Z h a "java/util/HashMap" "threshold" "I" v
abbrev P5 (Z : State) (h : Heap) (a : Addr) (v : Value) : Prop := Fld Z h a "java/util/LinkedHashMap" "tail" "Ljava/util/LinkedHashMap$Entry;" v
abbrev P6 (Z : State) (h : Heap) (a : Addr) (v : Value) : Prop := Fld Z h a "java/util/LinkedHashMap" "head" "Ljava/util/LinkedHashMap$Entry;" v
abbrev P7 (Z : State) (h : Heap) (a : Addr) (v : Value) : Prop := Fld Z h a "java/util/HashMap" "modCount" "I" v
abbrev P8 (Z : State) (h : Heap) (a : Addr) (v : Value) : Prop := Fld Z h a "java/util/HashMap" "size" "I" v
abbrev P9 (Z : State) (h : Heap) (a : Addr) (v : Value) : Prop := Fld Z h a "java/util/HashMap" "entrySet" "Ljava/util/Set;" v
abbrev B1 := jdk_94_method_16_code
theorem d1_0 : decode B1 0 = .ok (.aload_n 0, 1) := by decide +kernel
theorem d1_1 : decode B1 1 = .ok (.invokespecial 87, 3) := by decide +kernel
abbrev B2 := jdk_69_method_7_code
theorem d2_0 : decode B2 0 = .ok (.aload_n 0, 1) := by decide +kernel
theorem d2_1 : decode B2 1 = .ok (.invokespecial 43, 3) := by decide +kernel
abbrev B3 := jdk_71_method_1_code
theorem d3_0 : decode B3 0 = .ok (.aload_n 0, 1) := by decide +kernel
theorem d3_1 : decode B3 1 = .ok (.invokespecial 1, 3) := by decide +kernel
theorem d3_4 : decode B3 4 = .ok (.return_, 1) := by decide +kernel
abbrev y0 : MethodName := ⟨"java/util/AbstractMap", "<init>", "()V"⟩
/-- AbstractMap.init#0 -/
theorem t1 (hw : HW a0 Z) (SB0 : SB Z cv de ca) (r0 : Addr) (O0 : OL Z n0 h0)   : CT l Z y0 B3 1 none ⟨1, 0, 0, 12⟩ #[(.ref r0)] h0 (QP0 none h0 n0) := by
  refine ct_intro ?_
  intro p e s m below meth c s₁ E0 hx D hml hown hnm hrt X0 e0 hZ hE
  have N0 := Fr.nil n0
  have pre0 := ctp #[vr r0] hE
  obtain ⟨T1, X1, e1, st1⟩ := initO X0 hx hZ hown (w_ hw 19 rfl) (w_ hw 20 rfl) (w_ hw 21 rfl) e0 (g := (mkF m 1 #[vr r0] [(.ref r0)])) rfl (by rw [hml]; rfl) rfl (D d3_1) (by decide) (W := 0) (by show 2 * 0 + _ ≤ _; exact Nat.le_of_eq rfl) (by decide)
  refine ⟨none, T1, _, _, _, X1, fun _ => rfl, (by rw [e1]; exact ⟨rfl, N0, rfl⟩), (by decide), (by decide), fun fs hr => pre0 _ ?_⟩
  show SA p e below s₁ m 0 #[vr r0] [] _
  refine XS.aloadN X0.here hx rfl (D d3_0) rfl rfl ?_
  refine st1 _ ?_
  show SA p e below T1 m 4 #[vr r0] [] _
  exact X1.returnOut hx hrt (D d3_4) hr
theorem pd0 : parseMethodDescriptor "()V" = some ⟨[], none⟩ := by decide +kernel
theorem d2_4 : decode B2 4 = .ok (.aload_n 0, 1) := by decide +kernel
theorem d2_5 : decode B2 5 = .ok (.ldc 92, 2) := by decide +kernel
theorem d2_7 : decode B2 7 = .ok (.putfield 81, 3) := by decide +kernel
abbrev E_0 (Z : State) (h : Heap) (a : Addr) : Prop := Exa Z h a "java/util/LinkedHashMap"
theorem d2_10 : decode B2 10 = .ok (.return_, 1) := by decide +kernel
abbrev S_0 (Z : State) := Jvm.RoadKit.slotOf Z "java/util/LinkedHashMap" "putMode" "I"
abbrev S_1 (Z : State) := Jvm.RoadKit.slotOf Z "java/util/HashMap" "loadFactor" "F"
theorem ly0 {a0 Z} (hw : HW a0 Z) : Laid Z a0 "java/util/LinkedHashMap" "java/util/LinkedHashMap" "putMode" "I" := (Or.inl (w_ hw 26 rfl))
theorem ly1 {a0 Z} (hw : HW a0 Z) : Laid Z a0 "java/util/LinkedHashMap" "java/util/HashMap" "loadFactor" "F" := (Or.inr (w_ hw 24 rfl))
theorem pf0 : parseFieldDescriptor "I" = some .int := by decide
theorem pf1 : parseFieldDescriptor "F" = some .float := by decide
theorem sn0 {a0 Z} (hw : HW a0 Z) : S_0 Z ≠ S_1 Z := Jvm.RoadKit.slot_ne (ly0 hw) (ly1 hw) (by decide) pf0 pf1
abbrev S_2 (Z : State) := Jvm.RoadKit.slotOf Z "java/util/LinkedHashMap" "accessOrder" "Z"
theorem ly2 {a0 Z} (hw : HW a0 Z) : Laid Z a0 "java/util/LinkedHashMap" "java/util/LinkedHashMap" "accessOrder" "Z" := (Or.inr (w_ hw 28 rfl))
theorem pf2 : parseFieldDescriptor "Z" = some .boolean := by decide
theorem sn1 {a0 Z} (hw : HW a0 Z) : S_2 Z ≠ S_1 Z := Jvm.RoadKit.slot_ne (ly2 hw) (ly1 hw) (by decide) pf2 pf1
abbrev S_3 (Z : State) := Jvm.RoadKit.slotOf Z "java/util/HashMap" "table" "[Ljava/util/HashMap$Node;"
theorem ly3 {a0 Z} (hw : HW a0 Z) : Laid Z a0 "java/util/LinkedHashMap" "java/util/HashMap" "table" "[Ljava/util/HashMap$Node;" := (Or.inl (w_ hw 151 rfl))
theorem pf3 : parseFieldDescriptor "[Ljava/util/HashMap$Node;" = some (.array (.object "java/util/HashMap$Node")) := by decide
theorem sn2 {a0 Z} (hw : HW a0 Z) : S_3 Z ≠ S_1 Z := Jvm.RoadKit.slot_ne (ly3 hw) (ly1 hw) (by decide) pf3 pf1
abbrev S_4 (Z : State) := Jvm.RoadKit.slotOf Z "java/util/HashMap" "threshold" "I"
theorem ly4 {a0 Z} (hw : HW a0 Z) : Laid Z a0 "java/util/LinkedHashMap" "java/util/HashMap" "threshold" "I" := (Or.inl (w_ hw 158 rfl))
theorem sn3 {a0 Z} (hw : HW a0 Z) : S_4 Z ≠ S_1 Z := Jvm.RoadKit.slot_ne (ly4 hw) (ly1 hw) (by decide) pf0 pf1
abbrev S_5 (Z : State) := Jvm.RoadKit.slotOf Z "java/util/LinkedHashMap" "tail" "Ljava/util/LinkedHashMap$Entry;"
theorem ly5 {a0 Z} (hw : HW a0 Z) : Laid Z a0 "java/util/LinkedHashMap" "java/util/LinkedHashMap" "tail" "Ljava/util/LinkedHashMap$Entry;" := (Or.inl (w_ hw 195 rfl))
theorem pf4 : parseFieldDescriptor "Ljava/util/LinkedHashMap$Entry;" = some (.object "java/util/LinkedHashMap$Entry") := by decide
theorem sn4 {a0 Z} (hw : HW a0 Z) : S_5 Z ≠ S_1 Z := Jvm.RoadKit.slot_ne (ly5 hw) (ly1 hw) (by decide) pf4 pf1
abbrev S_6 (Z : State) := Jvm.RoadKit.slotOf Z "java/util/LinkedHashMap" "head" "Ljava/util/LinkedHashMap$Entry;"
theorem ly6 {a0 Z} (hw : HW a0 Z) : Laid Z a0 "java/util/LinkedHashMap" "java/util/LinkedHashMap" "head" "Ljava/util/LinkedHashMap$Entry;" := (Or.inl (w_ hw 197 rfl))
theorem sn5 {a0 Z} (hw : HW a0 Z) : S_6 Z ≠ S_1 Z := Jvm.RoadKit.slot_ne (ly6 hw) (ly1 hw) (by decide) pf4 pf1
abbrev S_7 (Z : State) := Jvm.RoadKit.slotOf Z "java/util/HashMap" "modCount" "I"
theorem ly7 {a0 Z} (hw : HW a0 Z) : Laid Z a0 "java/util/LinkedHashMap" "java/util/HashMap" "modCount" "I" := (Or.inl (w_ hw 199 rfl))
theorem sn6 {a0 Z} (hw : HW a0 Z) : S_7 Z ≠ S_1 Z := Jvm.RoadKit.slot_ne (ly7 hw) (ly1 hw) (by decide) pf0 pf1
abbrev S_8 (Z : State) := Jvm.RoadKit.slotOf Z "java/util/HashMap" "size" "I"
theorem ly8 {a0 Z} (hw : HW a0 Z) : Laid Z a0 "java/util/LinkedHashMap" "java/util/HashMap" "size" "I" := (Or.inl (w_ hw 201 rfl))
theorem sn7 {a0 Z} (hw : HW a0 Z) : S_8 Z ≠ S_1 Z := Jvm.RoadKit.slot_ne (ly8 hw) (ly1 hw) (by decide) pf0 pf1
abbrev S_9 (Z : State) := Jvm.RoadKit.slotOf Z "java/util/HashMap" "entrySet" "Ljava/util/Set;"
theorem ly9 {a0 Z} (hw : HW a0 Z) : Laid Z a0 "java/util/LinkedHashMap" "java/util/HashMap" "entrySet" "Ljava/util/Set;" := (Or.inl (w_ hw 242 rfl))
theorem pf5 : parseFieldDescriptor "Ljava/util/Set;" = some (.object "java/util/Set") := by decide
theorem sn8 {a0 Z} (hw : HW a0 Z) : S_9 Z ≠ S_1 Z := Jvm.RoadKit.slot_ne (ly9 hw) (ly1 hw) (by decide) pf5 pf1
abbrev y1 : MethodName := ⟨"java/util/HashMap", "<init>", "()V"⟩
def Q2 (Z : State) (cv : Int32) (de ca : Addr) (r0 : Addr) (h0 : Heap) (n0 : Nat) (v : Option Value) (h : Heap) (L : List Loc) : Prop := v = none ∧ Fr n0 L ∧ Keep h0 h [r0] ∧ P1 Z h r0 (.int 0) ∧ P2 Z h r0 (.int 0) ∧ P3 Z h r0 .null ∧ P4 Z h r0 (.int 0) ∧ P5 Z h r0 .null ∧ P6 Z h r0 .null ∧ P7 Z h r0 (.int 0) ∧ P8 Z h r0 (.int 0) ∧ P9 Z h r0 .null
/-- HashMap.init#0 -/
theorem t2 (hw : HW a0 Z) (SB0 : SB Z cv de ca) (r0 : Addr) (O0 : OL Z n0 h0) (q0 : E_0 Z h0 r0) (q1 : P0 Z h0 r0 (.float (0 : UInt32))) (q2 : P1 Z h0 r0 (.int 0)) (q3 : P2 Z h0 r0 (.int 0)) (q4 : P3 Z h0 r0 .null) (q5 : P4 Z h0 r0 (.int 0)) (q6 : P5 Z h0 r0 .null) (q7 : P6 Z h0 r0 .null) (q8 : P7 Z h0 r0 (.int 0)) (q9 : P8 Z h0 r0 (.int 0)) (q10 : P9 Z h0 r0 .null) (ge0 : n0 ≤ r0) : CT l Z y1 B2 1 none ⟨2, 0, 0, 24⟩ #[(.ref r0)] h0 (Q2 Z cv de ca r0 h0 n0) := by
  refine ct_intro ?_
  intro p e s m below meth c s₁ E0 hx D hml hown hnm hrt X0 e0 hZ hE
  have Z0 := O0.le
  have K0 := Keep.refl h0 [r0]
  have hws : ∀ w ∈ ([r0] : List Addr), n0 ≤ w := (allS ge0 all0)
  have N0 := Fr.nil n0
  have pre0 := ctp #[vr r0] hE
  obtain ⟨v1, T1, L1, X1, Q1, st1⟩ := kI X0 hx hZ hown (t1 hw SB0 r0 (O0.keep K0 hws) ) rfl (w_ hw 13 rfl) (w_ hw 14 rfl) (w_ hw 17 rfl) (w_ hw 18 rfl) e0 (g := (mkF m 1 #[vr r0] [(.ref r0)])) rfl hml rfl (argsL := []) (rest := []) (lenOf pd0 rfl) rfl rfl (W := 0) rfl (D d2_1)
  obtain ⟨rfl, M1, e1⟩ := Q1
  have N1 := N0.app M1
  obtain ⟨T2, h2, X2, e2, W2, st2⟩ := putF X1 hx hZ hown (host := "") (Or.inl (w_ hw 23 rfl)) Via.refl e1 q1 q0 (Or.inr ⟨(w_ hw 24 rfl), rfl, hnm⟩) (w_ hw 2 rfl) (ty := .float) (by decide) rfl rfl (g := (mkF m 7 #[vr r0] [(.float (1061158912 : UInt32)), (.ref r0)])) rfl rfl (D d2_7)
  have N2 := Fr.snoc X2 N1 ge0
  have k2 := K0.wr W2 (Or.inl (List.mem_of_getElem? (i := 0) rfl))
  have v2 := q1.same W2
  have f3 := (q2.other W2 (Or.inr (sn0 hw)))
  have f4 := (q3.other W2 (Or.inr (sn1 hw)))
  have f5 := (q4.other W2 (Or.inr (sn2 hw)))
  have f6 := (q5.other W2 (Or.inr (sn3 hw)))
  have f7 := (q6.other W2 (Or.inr (sn4 hw)))
  have f8 := (q7.other W2 (Or.inr (sn5 hw)))
  have f9 := (q8.other W2 (Or.inr (sn6 hw)))
  have f10 := (q9.other W2 (Or.inr (sn7 hw)))
  have f11 := (q10.other W2 (Or.inr (sn8 hw)))
  refine ⟨none, T2, _, _, _, X2, fun _ => rfl, (by rw [e2]; exact ⟨rfl, N2, k2, f3, f4, f5, f6, f7, f8, f9, f10, f11⟩), (by decide), (by decide), fun fs hr => pre0 _ ?_⟩
  show SA p e below s₁ m 0 #[vr r0] [] _
  refine XS.aloadN X0.here hx rfl (D d2_0) rfl rfl ?_
  refine st1 _ ?_
  refine XS.aloadN X1.here hx rfl (D d2_4) rfl rfl ?_
  refine X1.ldcFloatC hx hown (mvT hZ (w_ hw 22 rfl)) (g := (mkF m 5 #[vr r0] [(.ref r0)])) rfl (D d2_5) _ ?_
  show SA p e below T1 m 7 #[vr r0] [(.float (1061158912 : UInt32)), (.ref r0)] _
  refine st2 _ ?_
  show SA p e below T2 m 10 #[vr r0] [] _
  exact X2.returnOut hx hrt (D d2_10) hr
theorem d1_4 : decode B1 4 = .ok (.aload_n 0, 1) := by decide +kernel
theorem d1_5 : decode B1 5 = .ok (.iconst 0, 1) := by decide +kernel
theorem d1_6 : decode B1 6 = .ok (.putfield 1, 3) := by decide +kernel
theorem d1_9 : decode B1 9 = .ok (.aload_n 0, 1) := by decide +kernel
theorem d1_10 : decode B1 10 = .ok (.iconst 0, 1) := by decide +kernel
theorem d1_11 : decode B1 11 = .ok (.putfield 64, 3) := by decide +kernel
theorem sn9 {a0 Z} (hw : HW a0 Z) : S_2 Z ≠ S_0 Z := Jvm.RoadKit.slot_ne (ly2 hw) (ly0 hw) (by decide) pf2 pf0
theorem d1_14 : decode B1 14 = .ok (.return_, 1) := by decide +kernel
theorem sn10 {a0 Z} (hw : HW a0 Z) : S_3 Z ≠ S_0 Z := Jvm.RoadKit.slot_ne (ly3 hw) (ly0 hw) (by decide) pf3 pf0
theorem sn11 {a0 Z} (hw : HW a0 Z) : S_3 Z ≠ S_2 Z := Jvm.RoadKit.slot_ne (ly3 hw) (ly2 hw) (by decide) pf3 pf2
theorem sn12 {a0 Z} (hw : HW a0 Z) : S_4 Z ≠ S_0 Z := Jvm.RoadKit.slot_ne (ly4 hw) (ly0 hw) (by decide) pf0 pf0
theorem sn13 {a0 Z} (hw : HW a0 Z) : S_4 Z ≠ S_2 Z := Jvm.RoadKit.slot_ne (ly4 hw) (ly2 hw) (by decide) pf0 pf2
theorem sn14 {a0 Z} (hw : HW a0 Z) : S_5 Z ≠ S_0 Z := Jvm.RoadKit.slot_ne (ly5 hw) (ly0 hw) (by decide) pf4 pf0
theorem sn15 {a0 Z} (hw : HW a0 Z) : S_5 Z ≠ S_2 Z := Jvm.RoadKit.slot_ne (ly5 hw) (ly2 hw) (by decide) pf4 pf2
theorem sn16 {a0 Z} (hw : HW a0 Z) : S_6 Z ≠ S_0 Z := Jvm.RoadKit.slot_ne (ly6 hw) (ly0 hw) (by decide) pf4 pf0
theorem sn17 {a0 Z} (hw : HW a0 Z) : S_6 Z ≠ S_2 Z := Jvm.RoadKit.slot_ne (ly6 hw) (ly2 hw) (by decide) pf4 pf2
theorem sn18 {a0 Z} (hw : HW a0 Z) : S_7 Z ≠ S_0 Z := Jvm.RoadKit.slot_ne (ly7 hw) (ly0 hw) (by decide) pf0 pf0
theorem sn19 {a0 Z} (hw : HW a0 Z) : S_7 Z ≠ S_2 Z := Jvm.RoadKit.slot_ne (ly7 hw) (ly2 hw) (by decide) pf0 pf2
theorem sn20 {a0 Z} (hw : HW a0 Z) : S_8 Z ≠ S_0 Z := Jvm.RoadKit.slot_ne (ly8 hw) (ly0 hw) (by decide) pf0 pf0
theorem sn21 {a0 Z} (hw : HW a0 Z) : S_8 Z ≠ S_2 Z := Jvm.RoadKit.slot_ne (ly8 hw) (ly2 hw) (by decide) pf0 pf2
theorem sn22 {a0 Z} (hw : HW a0 Z) : S_9 Z ≠ S_0 Z := Jvm.RoadKit.slot_ne (ly9 hw) (ly0 hw) (by decide) pf5 pf0
theorem sn23 {a0 Z} (hw : HW a0 Z) : S_9 Z ≠ S_2 Z := Jvm.RoadKit.slot_ne (ly9 hw) (ly2 hw) (by decide) pf5 pf2
abbrev y2 : MethodName := ⟨"java/util/LinkedHashMap", "<init>", "()V"⟩
def Q3 (Z : State) (cv : Int32) (de ca : Addr) (r0 : Addr) (h0 : Heap) (n0 : Nat) (v : Option Value) (h : Heap) (L : List Loc) : Prop := v = none ∧ Fr n0 L ∧ Keep h0 h [r0] ∧ P1 Z h r0 (.int 0) ∧ P2 Z h r0 (.int 0) ∧ P3 Z h r0 .null ∧ P4 Z h r0 (.int 0) ∧ P5 Z h r0 .null ∧ P6 Z h r0 .null ∧ P7 Z h r0 (.int 0) ∧ P8 Z h r0 (.int 0) ∧ P9 Z h r0 .null
/-- LinkedHashMap.init#0 -/
theorem t3 (hw : HW a0 Z) (SB0 : SB Z cv de ca) (r0 : Addr) (O0 : OL Z n0 h0) (q0 : E_0 Z h0 r0) (q1 : P0 Z h0 r0 (.float (0 : UInt32))) (q2 : P1 Z h0 r0 (.int 0)) (q3 : P2 Z h0 r0 (.int 0)) (q4 : P3 Z h0 r0 .null) (q5 : P4 Z h0 r0 (.int 0)) (q6 : P5 Z h0 r0 .null) (q7 : P6 Z h0 r0 .null) (q8 : P7 Z h0 r0 (.int 0)) (q9 : P8 Z h0 r0 (.int 0)) (q10 : P9 Z h0 r0 .null) (ge0 : n0 ≤ r0) : CT l Z y2 B1 1 none ⟨3, 0, 0, 36⟩ #[(.ref r0)] h0 (Q3 Z cv de ca r0 h0 n0) := by
  refine ct_intro ?_
  intro p e s m below meth c s₁ E0 hx D hml hown hnm hrt X0 e0 hZ hE
  have Z0 := O0.le
  have K0 := Keep.refl h0 [r0]
  have hws : ∀ w ∈ ([r0] : List Addr), n0 ≤ w := (allS ge0 all0)
  have N0 := Fr.nil n0
  have pre0 := ctp #[vr r0] hE
  obtain ⟨v1, T1, L1, X1, Q1, st1⟩ := kI X0 hx hZ hown (t2 hw SB0 r0 (O0.keep K0 hws) q0 q1 q2 q3 q4 q5 q6 q7 q8 q9 q10 ge0) rfl (w_ hw 7 rfl) (w_ hw 8 rfl) (w_ hw 11 rfl) (w_ hw 12 rfl) e0 (g := (mkF m 1 #[vr r0] [(.ref r0)])) rfl hml rfl (argsL := []) (rest := []) (lenOf pd0 rfl) rfl rfl (W := 0) rfl (D d1_1)
  obtain ⟨h1, e1⟩ : ∃ z, T1.heap = z := ⟨_, rfl⟩
  rw [e1] at Q1
  obtain ⟨rfl, M1, K1, F1_0, F1_1, F1_2, F1_3, F1_4, F1_5, F1_6, F1_7, F1_8⟩ := Q1
  have N1 := N0.app M1
  have k1 := K0.trans K1 (allS (Or.inl (List.mem_of_getElem? (i := 0) rfl)) all0)
  have f2 := (q0.keep K1)
  obtain ⟨T3, h3, X3, e3, W3, st3⟩ := putF X1 hx hZ hown (host := "") (Or.inl (w_ hw 25 rfl)) Via.refl e1 F1_0 f2 (Or.inl (w_ hw 26 rfl)) (w_ hw 2 rfl) (ty := .int) (by decide) rfl rfl (g := (mkF m 6 #[vr r0] [(.int 0), (.ref r0)])) rfl rfl (D d1_6)
  have N3 := Fr.snoc X3 N1 ge0
  have k3 := k1.wr W3 (Or.inl (List.mem_of_getElem? (i := 0) rfl))
  have v3 := F1_0.same W3
  have f4 := (F1_1.other W3 (Or.inr (sn9 hw)))
  have f5 := (f2.wr W3)
  obtain ⟨T6, h6, X6, e6, W6, st6⟩ := putFN X3 hx hZ hown (w_ hw 27 rfl) Via.refl e3 f4 f5 (Or.inr ⟨(w_ hw 28 rfl), rfl, hnm⟩) (w_ hw 2 rfl) (ty := .boolean) (v' := (.int 0)) (by decide) rfl rfl (g := (mkF m 11 #[vr r0] [(.int 0), (.ref r0)])) rfl rfl (D d1_11)
  have N6 := Fr.snoc X6 N3 ge0
  have k6 := k3.wr W6 (Or.inl (List.mem_of_getElem? (i := 0) rfl))
  have v6 := f4.same W6
  have f7 := (v3.other W6 (Or.inr (Ne.symm (sn9 hw))))
  have f8 := ((F1_2.other W3 (Or.inr (sn10 hw))).other W6 (Or.inr (sn11 hw)))
  have f9 := ((F1_3.other W3 (Or.inr (sn12 hw))).other W6 (Or.inr (sn13 hw)))
  have f10 := ((F1_4.other W3 (Or.inr (sn14 hw))).other W6 (Or.inr (sn15 hw)))
  have f11 := ((F1_5.other W3 (Or.inr (sn16 hw))).other W6 (Or.inr (sn17 hw)))
  have f12 := ((F1_6.other W3 (Or.inr (sn18 hw))).other W6 (Or.inr (sn19 hw)))
  have f13 := ((F1_7.other W3 (Or.inr (sn20 hw))).other W6 (Or.inr (sn21 hw)))
  have f14 := ((F1_8.other W3 (Or.inr (sn22 hw))).other W6 (Or.inr (sn23 hw)))
  refine ⟨none, T6, _, _, _, X6, fun _ => rfl, (by rw [e6]; exact ⟨rfl, N6, k6, f7, v6, f8, f9, f10, f11, f12, f13, f14⟩), (by decide), (by decide), fun fs hr => pre0 _ ?_⟩
  show SA p e below s₁ m 0 #[vr r0] [] _
  refine XS.aloadN X0.here hx rfl (D d1_0) rfl rfl ?_
  refine st1 _ ?_
  refine XS.aloadN X1.here hx rfl (D d1_4) rfl rfl ?_
  refine XS.iconst X1.here hx rfl (D d1_5) ?_
  refine st3 _ ?_
  refine XS.aloadN X3.here hx rfl (D d1_9) rfl rfl ?_
  refine XS.iconst X3.here hx rfl (D d1_10) ?_
  refine st6 _ ?_
  show SA p e below T6 m 14 #[vr r0] [] _
  exact X6.returnOut hx hrt (D d1_14) hr
abbrev B5 := jdk_42_method_139_code
theorem d5_0 : decode B5 0 = .ok (.getstatic 38, 3) := by decide +kernel
theorem d5_3 : decode B5 3 = .ok (.ifCond .eq 23, 3) := by decide +kernel
theorem d5_6 : decode B5 6 = .ok (.iload_n 0, 1) := by decide +kernel
theorem d5_7 : decode B5 7 = .ok (.invokestatic 1015, 3) := by decide +kernel
abbrev B6 := jdk_43_method_3_code
theorem d6_0 : decode B6 0 = .ok (.iload_n 0, 1) := by decide +kernel
theorem d6_1 : decode B6 1 = .ok (.sipush 255, 3) := by decide +kernel
theorem d6_4 : decode B6 4 = .ok (.if_icmp .gt 7, 3) := by decide +kernel
theorem d6_7 : decode B6 7 = .ok (.iconst 1, 1) := by decide +kernel
theorem d6_8 : decode B6 8 = .ok (.goto 4, 3) := by decide +kernel
theorem d6_12 : decode B6 12 = .ok (.ireturn, 1) := by decide +kernel
abbrev y3 : MethodName := ⟨"java/lang/StringLatin1", "canEncode", "(C)Z"⟩
/-- StringLatin1.canEncode#0 -/
theorem t4 (hw : HW a0 Z) (SB0 : SB Z cv de ca)  (O0 : OL Z n0 h0)   : CT l Z y3 B6 1 (some .boolean) ⟨0, 0, 0, 0⟩ #[(.int 97)] h0 (QP0 (some (.int 1)) h0 n0) := by
  refine ct_intro ?_
  intro p e s m below meth c s₁ E0 hx D hml hown hnm hrt X0 e0 hZ hE
  have N0 := Fr.nil n0
  have pre0 := ctp #[vi 97] hE
  refine ⟨(some (.int 1)), s₁, _, _, _, X0, (fun hh => by cases hh), (by rw [e0]; exact ⟨rfl, N0, rfl⟩), (by decide), (by decide), fun fs hr => pre0 _ ?_⟩
  show SA p e below s₁ m 0 #[vi 97] [] _
  refine XS.iloadN X0.here hx rfl (D d6_0) rfl ?_
  refine XS.sipush X0.here hx rfl (D d6_1) ?_
  refine XS.icmpNo X0.here hx rfl (D d6_4) rfl (flt (by decide : ¬ ((255 : Int32) < (97 : Int32)))).2.2.1 ?_
  refine XS.iconst X0.here hx rfl (D d6_7) ?_
  refine XS.goto X0.here hx rfl (pc0 := 8) (pc' := 12) rfl (D d6_8) (by decide) (by decide) ?_
  show SA p e below s₁ m 12 #[vi 97] [(.int 1)] _
  exact retN X0 hx (t := .boolean) hrt (by simp) (D d6_12) hr
theorem pd1 : parseMethodDescriptor "(C)Z" = some ⟨[.char], some .boolean⟩ := by decide +kernel
theorem d5_10 : decode B5 10 = .ok (.ifCond .eq 16, 3) := by decide +kernel
theorem d5_13 : decode B5 13 = .ok (.new 10, 3) := by decide +kernel
abbrev P10 (Z : State) (h : Heap) (a : Addr) (v : Value) : Prop := Fld Z h a "java/lang/String" "value" "[B" v
abbrev P11 (Z : State) (h : Heap) (a : Addr) (v : Value) : Prop := Fld Z h a "java/lang/String" "coder" "B" v
abbrev P12 (Z : State) (h : Heap) (a : Addr) (v : Value) : Prop := Fld Z h a "java/lang/String" "hash" "I" v
abbrev P13 (Z : State) (h : Heap) (a : Addr) (v : Value) : Prop := Fld Z h a "java/lang/String" "hashIsZero" "Z" v
theorem d5_16 : decode B5 16 = .ok (.dup, 1) := by decide +kernel
theorem d5_17 : decode B5 17 = .ok (.iload_n 0, 1) := by decide +kernel
theorem d5_18 : decode B5 18 = .ok (.invokestatic 1018, 3) := by decide +kernel
abbrev B7 := jdk_43_method_46_code
theorem d7_0 : decode B7 0 = .ok (.iconst 1, 1) := by decide +kernel
theorem d7_1 : decode B7 1 = .ok (.newarray .byte, 2) := by decide +kernel
theorem d7_3 : decode B7 3 = .ok (.dup, 1) := by decide +kernel
theorem d7_4 : decode B7 4 = .ok (.iconst 0, 1) := by decide +kernel
theorem d7_5 : decode B7 5 = .ok (.iload_n 0, 1) := by decide +kernel
theorem d7_6 : decode B7 6 = .ok (.i2b, 1) := by decide +kernel
theorem d7_7 : decode B7 7 = .ok (.bastore, 1) := by decide +kernel
theorem d7_8 : decode B7 8 = .ok (.areturn, 1) := by decide +kernel
abbrev E_1 (Z : State) (h : Heap) (a : Addr) : Prop := Exa Z h a "[B"
abbrev y4 : MethodName := ⟨"java/lang/StringLatin1", "toBytes", "(C)[B"⟩
def Q5 (Z : State) (cv : Int32) (de ca : Addr)  (h0 : Heap) (n0 : Nat) (v : Option Value) (h : Heap) (L : List Loc) : Prop := ∃ (b1 : Addr) (c1 : ClassId), v = (some (.ref b1)) ∧ Fr n0 L ∧ Keep h0 h [] ∧ h0.size ≤ b1 ∧ E_1 Z h b1 ∧ Arv Z h b1 c1 .byte (1 : Int32) [(.int 97)] (.int 0)
/-- StringLatin1.toBytes#0 -/
theorem t5 (hw : HW a0 Z) (SB0 : SB Z cv de ca)  (O0 : OL Z n0 h0)   : CT l Z y4 B7 1 (some (.array .byte)) ⟨0, 1, 1, 0⟩ #[(.int 97)] h0 (Q5 Z cv de ca  h0 n0) := by
  refine ct_intro ?_
  intro p e s m below meth c s₁ E0 hx D hml hown hnm hrt X0 e0 hZ hE
  have Z0 := O0.le
  have K0 := Keep.refl h0 []
  have hws : ∀ w ∈ ([] : List Addr), n0 ≤ w := all0
  have N0 := Fr.nil n0
  have pre0 := ctp #[vi 97] hE
  obtain ⟨T1, h1, c1, X1, e1, E1, A1, B1, st1⟩ := newPE X0 hx hZ (w_ hw 43 rfl) e0 (g := (mkF m 1 #[vi 97] [(.int 1)])) rfl (D d7_1) rfl (by decide) (cap := 1) (by decide) (by decide) (by decide) (by decide) (ad := "[B") (by decide)
  obtain ⟨b1, g1⟩ : ∃ z, z = h0.size := ⟨_, rfl⟩
  rw [← g1] at A1 B1 st1
  have z1 : h0.size ≤ b1 := Nat.le_trans K0.1 (Nat.le_of_eq g1.symm)
  have k1 := K0.ext E1
  have v1 : Arv Z h1 b1 c1 .byte (1 : Int32) [(.int 0)] (.int 0) := (Arv.new A1 (by decide)).pad (pad_rep [] (.int 0) 1)
  obtain ⟨_, Ar2, C2, S2, M2, H2, G2⟩ := id v1
  obtain ⟨T3, h3, X3, e3, W3, st3⟩ := stB X1 hx hZ e1 Ar2 (j := (0 : Int32)) (inb_of S2 ⟨by decide, by decide⟩) (g := (mkF m 7 #[vi 97] [(.int 97), (.int 0), (.ref b1), (.ref b1)])) rfl rfl (D d7_7)
  have N3 := Fr.snoc X3 N0 (Nat.le_trans Z0 z1)
  have k3 := k1.wr W3 (Or.inr z1)
  have v3 : Arv Z h3 b1 c1 .byte (1 : Int32) [(.int 97)] (.int 0) := Arv.set Ar2 C2 S2 M2 H2 G2 rfl W3 0 rfl (by show 0 < 1; decide)
  have f4 := (B1.wr W3)
  refine ⟨(some (.ref b1)), T3, _, _, _, X3, (fun hh => by cases hh), (by rw [e3]; exact ⟨b1, c1, rfl, N3, k3, z1, f4, v3⟩), (by decide), (by decide), fun fs hr => pre0 _ ?_⟩
  show SA p e below s₁ m 0 #[vi 97] [] _
  refine XS.iconst X0.here hx rfl (D d7_0) ?_
  refine st1 _ ?_
  refine XS.dup X1.here hx rfl (D d7_3) rfl rfl ?_
  refine XS.iconst X1.here hx rfl (D d7_4) ?_
  refine XS.iloadN X1.here hx rfl (D d7_5) rfl ?_
  refine XS.i2b X1.here hx rfl (D d7_6) rfl ?_
  refine st3 _ ?_
  show SA p e below T3 m 8 #[vi 97] [(.ref b1)] _
  exact retOut X3 hx hrt rfl (Or.inr (Or.inr (Or.inr (Or.inr ⟨rfl, rfl, rfl⟩)))) (D d7_8) hr
theorem pd2 : parseMethodDescriptor "(C)[B" = some ⟨[.char], some (.array .byte)⟩ := by decide +kernel
theorem d5_21 : decode B5 21 = .ok (.iconst 0, 1) := by decide +kernel
theorem d5_22 : decode B5 22 = .ok (.invokespecial 209, 3) := by decide +kernel
abbrev B8 := jdk_42_method_151_code
theorem d8_0 : decode B8 0 = .ok (.aload_n 0, 1) := by decide +kernel
theorem d8_1 : decode B8 1 = .ok (.invokespecial 1, 3) := by decide +kernel
theorem d8_4 : decode B8 4 = .ok (.aload_n 0, 1) := by decide +kernel
theorem d8_5 : decode B8 5 = .ok (.aload_n 1, 1) := by decide +kernel
theorem d8_6 : decode B8 6 = .ok (.putfield 9, 3) := by decide +kernel
abbrev E_2 (Z : State) (h : Heap) (a : Addr) : Prop := Exa Z h a "java/lang/String"
theorem d8_9 : decode B8 9 = .ok (.aload_n 0, 1) := by decide +kernel
theorem d8_10 : decode B8 10 = .ok (.iload_n 2, 1) := by decide +kernel
theorem d8_11 : decode B8 11 = .ok (.putfield 15, 3) := by decide +kernel
abbrev S_10 (Z : State) := Jvm.RoadKit.slotOf Z "java/lang/String" "coder" "B"
abbrev S_11 (Z : State) := Jvm.RoadKit.slotOf Z "java/lang/String" "value" "[B"
theorem ly10 {a0 Z} (hw : HW a0 Z) : Laid Z a0 "java/lang/String" "java/lang/String" "coder" "B" := (Or.inr (w_ hw 52 rfl))
theorem ly11 {a0 Z} (hw : HW a0 Z) : Laid Z a0 "java/lang/String" "java/lang/String" "value" "[B" := (Or.inr (w_ hw 50 rfl))
theorem pf6 : parseFieldDescriptor "B" = some .byte := by decide
theorem pf7 : parseFieldDescriptor "[B" = some (.array .byte) := by decide
theorem sn24 {a0 Z} (hw : HW a0 Z) : S_10 Z ≠ S_11 Z := Jvm.RoadKit.slot_ne (ly10 hw) (ly11 hw) (by decide) pf6 pf7
theorem d8_14 : decode B8 14 = .ok (.return_, 1) := by decide +kernel
abbrev S_12 (Z : State) := Jvm.RoadKit.slotOf Z "java/lang/String" "hash" "I"
theorem ly12 {a0 Z} (hw : HW a0 Z) : Laid Z a0 "java/lang/String" "java/lang/String" "hash" "I" := (Or.inl (w_ hw 134 rfl))
theorem sn25 {a0 Z} (hw : HW a0 Z) : S_12 Z ≠ S_11 Z := Jvm.RoadKit.slot_ne (ly12 hw) (ly11 hw) (by decide) pf0 pf7
theorem sn26 {a0 Z} (hw : HW a0 Z) : S_12 Z ≠ S_10 Z := Jvm.RoadKit.slot_ne (ly12 hw) (ly10 hw) (by decide) pf0 pf6
abbrev S_13 (Z : State) := Jvm.RoadKit.slotOf Z "java/lang/String" "hashIsZero" "Z"
theorem ly13 {a0 Z} (hw : HW a0 Z) : Laid Z a0 "java/lang/String" "java/lang/String" "hashIsZero" "Z" := (Or.inl (w_ hw 136 rfl))
theorem sn27 {a0 Z} (hw : HW a0 Z) : S_13 Z ≠ S_11 Z := Jvm.RoadKit.slot_ne (ly13 hw) (ly11 hw) (by decide) pf2 pf7
theorem sn28 {a0 Z} (hw : HW a0 Z) : S_13 Z ≠ S_10 Z := Jvm.RoadKit.slot_ne (ly13 hw) (ly10 hw) (by decide) pf2 pf6
abbrev y5 : MethodName := ⟨"java/lang/String", "<init>", "([BB)V"⟩
def Q6 (Z : State) (cv : Int32) (de ca : Addr) (r0 r1 : Addr) (h0 : Heap) (n0 : Nat) (v : Option Value) (h : Heap) (L : List Loc) : Prop := v = none ∧ Fr n0 L ∧ Keep h0 h [r0] ∧ P10 Z h r0 (.ref r1) ∧ P11 Z h r0 (.int 0) ∧ P12 Z h r0 (.int 0) ∧ P13 Z h r0 (.int 0)
/-- String.init#0 -/
theorem t6 (hw : HW a0 Z) (SB0 : SB Z cv de ca) (r0 r1 : Addr) (O0 : OL Z n0 h0) (q0 : E_2 Z h0 r0) (q1 : P10 Z h0 r0 .null) (q2 : P11 Z h0 r0 (.int 0)) (q3 : P12 Z h0 r0 (.int 0)) (q4 : P13 Z h0 r0 (.int 0)) (ge0 : n0 ≤ r0) : CT l Z y5 B8 3 none ⟨1, 0, 0, 12⟩ #[(.ref r0), (.ref r1), (.int 0)] h0 (Q6 Z cv de ca r0 r1 h0 n0) := by
  refine ct_intro ?_
  intro p e s m below meth c s₁ E0 hx D hml hown hnm hrt X0 e0 hZ hE
  have Z0 := O0.le
  have K0 := Keep.refl h0 [r0]
  have hws : ∀ w ∈ ([r0] : List Addr), n0 ≤ w := (allS ge0 all0)
  have N0 := Fr.nil n0
  have pre0 := ctp #[vr r0, vr r1, vi 0] hE
  obtain ⟨T1, X1, e1, st1⟩ := initO X0 hx hZ hown (w_ hw 48 rfl) (w_ hw 20 rfl) (w_ hw 21 rfl) e0 (g := (mkF m 1 #[vr r0, vr r1, vi 0] [(.ref r0)])) rfl (by rw [hml]; rfl) rfl (D d8_1) (by decide) (W := 0) (by show 2 * 0 + _ ≤ _; exact Nat.le_of_eq rfl) (by decide)
  obtain ⟨T2, h2, X2, e2, W2, st2⟩ := putF X1 hx hZ hown (host := "") (Or.inl (w_ hw 49 rfl)) Via.refl e1 q1 q0 (Or.inr ⟨(w_ hw 50 rfl), rfl, hnm⟩) (w_ hw 39 rfl) (ty := (.array .byte)) (by decide) rfl rfl (g := (mkF m 6 #[vr r0, vr r1, vi 0] [(.ref r1), (.ref r0)])) rfl rfl (D d8_6)
  have N2 := Fr.snoc X2 N0 ge0
  have k2 := K0.wr W2 (Or.inl (List.mem_of_getElem? (i := 0) rfl))
  have v2 := q1.same W2
  have f3 := (q2.other W2 (Or.inr (sn24 hw)))
  have f4 := (q0.wr W2)
  obtain ⟨T5, h5, X5, e5, W5, st5⟩ := putFN X2 hx hZ hown (w_ hw 51 rfl) Via.refl e2 f3 f4 (Or.inr ⟨(w_ hw 52 rfl), rfl, hnm⟩) (w_ hw 39 rfl) (ty := .byte) (v' := (.int 0)) (by decide) rfl rfl (g := (mkF m 11 #[vr r0, vr r1, vi 0] [(.int 0), (.ref r0)])) rfl rfl (D d8_11)
  have N5 := Fr.snoc X5 N2 ge0
  have k5 := k2.wr W5 (Or.inl (List.mem_of_getElem? (i := 0) rfl))
  have v5 := f3.same W5
  have f6 := (v2.other W5 (Or.inr (Ne.symm (sn24 hw))))
  have f7 := ((q3.other W2 (Or.inr (sn25 hw))).other W5 (Or.inr (sn26 hw)))
  have f8 := ((q4.other W2 (Or.inr (sn27 hw))).other W5 (Or.inr (sn28 hw)))
  refine ⟨none, T5, _, _, _, X5, fun _ => rfl, (by rw [e5]; exact ⟨rfl, N5, k5, f6, v5, f7, f8⟩), (by decide), (by decide), fun fs hr => pre0 _ ?_⟩
  show SA p e below s₁ m 0 #[vr r0, vr r1, vi 0] [] _
  refine XS.aloadN X0.here hx rfl (D d8_0) rfl rfl ?_
  refine st1 _ ?_
  refine XS.aloadN X1.here hx rfl (D d8_4) rfl rfl ?_
  refine XS.aloadN X1.here hx rfl (D d8_5) rfl rfl ?_
  refine st2 _ ?_
  refine XS.aloadN X2.here hx rfl (D d8_9) rfl rfl ?_
  refine XS.iloadN X2.here hx rfl (D d8_10) rfl ?_
  refine st5 _ ?_
  show SA p e below T5 m 14 #[vr r0, vr r1, vi 0] [] _
  exact X5.returnOut hx hrt (D d8_14) hr
theorem pd3 : parseMethodDescriptor "([BB)V" = some ⟨[(.array .byte), .byte], none⟩ := by decide +kernel
theorem d5_25 : decode B5 25 = .ok (.areturn, 1) := by decide +kernel
abbrev y6 : MethodName := ⟨"java/lang/String", "valueOf", "(C)Ljava/lang/String;"⟩
def Q7 (Z : State) (cv : Int32) (de ca : Addr)  (h0 : Heap) (n0 : Nat) (v : Option Value) (h : Heap) (L : List Loc) : Prop := ∃ (b3 b4_0 : Addr) (c4_1 : ClassId), v = (some (.ref b3)) ∧ Fr n0 L ∧ Keep h0 h [] ∧ h0.size ≤ b3 ∧ h0.size ≤ b4_0 ∧ E_2 Z h b3 ∧ P10 Z h b3 (.ref b4_0) ∧ P11 Z h b3 (.int 0) ∧ P12 Z h b3 (.int 0) ∧ P13 Z h b3 (.int 0) ∧ E_1 Z h b4_0 ∧ Arv Z h b4_0 c4_1 .byte (1 : Int32) [(.int 97)] (.int 0)
/-- String.valueOf#0 -/
theorem t7 (hw : HW a0 Z) (SB0 : SB Z cv de ca)  (O0 : OL Z n0 h0)   : CT l Z y6 B5 1 (some (.object "java/lang/String")) ⟨2, 2, 5, 27⟩ #[(.int 97)] h0 (Q7 Z cv de ca  h0 n0) := by
  refine ct_intro ?_
  intro p e s m below meth c s₁ E0 hx D hml hown hnm hrt X0 e0 hZ hE
  have Z0 := O0.le
  have K0 := Keep.refl h0 []
  have hws : ∀ w ∈ ([] : List Addr), n0 ≤ w := all0
  have N0 := Fr.nil n0
  have pre0 := ctp #[vi 97] hE
  obtain ⟨T1, X1, e1, st1⟩ := getS2 X0 hx hZ hown (host := "") (Or.inl (w_ hw 33 rfl)) Via.refl e0 (SB0.1.ext (O0.keep K0 hws).2) (g := (mkF m 0 #[vi 97] [])) rfl (D d5_0)
  obtain ⟨v2, T2, L2, X2, Q2, st2⟩ := kS X1 hx hZ hown (t4 hw SB0  (O0.keep K0 hws) ) (w_ hw 34 rfl) (w_ hw 35 rfl) (w_ hw 36 rfl) (w_ hw 37 rfl) e1 (g := (mkF m 7 #[vi 97] [(.int 97)])) rfl hml rfl (argsL := [(.int 97)]) (rest := []) (lenOf pd1 rfl) rfl rfl (W := 0) rfl (D d5_7)
  obtain ⟨rfl, M2, e2⟩ := Q2
  have N2 := N0.app M2
  obtain ⟨T3, h3, X3, e3, E3, A3, D3, -, st3⟩ := newO X2 hx hZ hown (w_ hw 38 rfl) (w_ hw 39 rfl) (w_ hw 31 rfl) e2 (g := (mkF m 13 #[vi 97] [])) rfl (D d5_13) (by decide) (by decide)
  obtain ⟨b3, g3⟩ : ∃ z, z = h0.size := ⟨_, rfl⟩
  rw [← g3] at A3 D3 st3
  have z3 : h0.size ≤ b3 := Nat.le_trans K0.1 (Nat.le_of_eq g3.symm)
  have k3 := K0.ext E3
  have F3_50 : P10 Z h3 b3 .null := D3 (Or.inr (w_ hw 50 rfl)) (ty := (.array .byte)) (by decide)
  have F3_52 : P11 Z h3 b3 (.int 0) := D3 (Or.inr (w_ hw 52 rfl)) (ty := .byte) (by decide)
  have F3_134 : P12 Z h3 b3 (.int 0) := D3 (Or.inl (w_ hw 134 rfl)) (ty := .int) (by decide)
  have F3_136 : P13 Z h3 b3 (.int 0) := D3 (Or.inl (w_ hw 136 rfl)) (ty := .boolean) (by decide)
  obtain ⟨v4, T4, L4, X4, Q4, st4⟩ := kS X3 hx hZ hown (t5 hw SB0  (O0.keep k3 hws) ) (w_ hw 40 rfl) (w_ hw 41 rfl) (w_ hw 36 rfl) (w_ hw 42 rfl) e3 (g := (mkF m 18 #[vi 97] [(.int 97), (.ref b3), (.ref b3)])) rfl hml rfl (argsL := [(.int 97)]) (rest := [(.ref b3), (.ref b3)]) (lenOf pd2 rfl) rfl rfl (W := 2) rfl (D d5_18)
  obtain ⟨h4, e4⟩ : ∃ z, T4.heap = z := ⟨_, rfl⟩
  rw [e4] at Q4
  obtain ⟨b4_0, c4_1, rfl, M4, K4, y4_0, F4_0, F4_1⟩ := Q4
  have N4 := N2.app M4
  have z4_b4_0 := Nat.le_trans k3.1 y4_0
  have k4 := k3.trans K4 all0
  have f5 := (A3.keep K4)
  have f6 := (F3_50.keep K4 nin0)
  have f7 := (F3_52.keep K4 nin0)
  have f8 := (F3_134.keep K4 nin0)
  have f9 := (F3_136.keep K4 nin0)
  obtain ⟨v10, T10, L10, X10, Q10, st10⟩ := kI X4 hx hZ hown (t6 hw SB0 b3 b4_0 (O0.keep k4 hws) f5 f6 f7 f8 f9 (Nat.le_trans Z0 z3)) rfl (w_ hw 44 rfl) (w_ hw 45 rfl) (w_ hw 31 rfl) (w_ hw 47 rfl) e4 (g := (mkF m 22 #[vi 97] [(.int 0), (.ref b4_0), (.ref b3), (.ref b3)])) rfl hml rfl (argsL := [(.ref b4_0), (.int 0)]) (rest := [(.ref b3)]) (lenOf pd3 rfl) rfl rfl (W := 1) rfl (D d5_22)
  obtain ⟨h10, e10⟩ : ∃ z, T10.heap = z := ⟨_, rfl⟩
  rw [e10] at Q10
  obtain ⟨rfl, M10, K10, F10_0, F10_1, F10_2, F10_3⟩ := Q10
  have N10 := N4.app M10
  have k10 := k4.trans K10 (allS (Or.inr z3) all0)
  have f11 := (f5.keep K10)
  have f12 := (F4_0.keep K10)
  have ne13 : b4_0 ≠ b3 := Exa.ne f12 f11 (by decide)
  have f14 := (F4_1.keep K10 (ninS ne13 nin0))
  refine ⟨(some (.ref b3)), T10, _, _, _, X10, (fun hh => by cases hh), (by rw [e10]; exact ⟨b3, b4_0, c4_1, rfl, N10, k10, z3, z4_b4_0, f11, F10_0, F10_1, F10_2, F10_3, f12, f14⟩), (by decide), (by decide), fun fs hr => pre0 _ ?_⟩
  show SA p e below s₁ m 0 #[vi 97] [] _
  refine st1 _ ?_
  refine XS.ifNo X1.here hx rfl (D d5_3) rfl ((if0 _ _).trans (feq SB0.2.1).1) ?_
  refine XS.iloadN X1.here hx rfl (D d5_6) rfl ?_
  refine st2 _ ?_
  refine XS.ifNo X2.here hx rfl (D d5_10) rfl ((if0 _ _).trans (feq (by decide : ¬ ((1 : Int32) = (0 : Int32)))).1) ?_
  refine st3 _ ?_
  refine XS.dup X3.here hx rfl (D d5_16) rfl rfl ?_
  refine XS.iloadN X3.here hx rfl (D d5_17) rfl ?_
  refine st4 _ ?_
  refine XS.iconst X4.here hx rfl (D d5_21) ?_
  refine st10 _ ?_
  show SA p e below T10 m 25 #[vi 97] [(.ref b3)] _
  exact retOut X10 hx hrt rfl (Or.inr (Or.inr (Or.inr (Or.inr ⟨rfl, rfl, rfl⟩)))) (D d5_25) hr
theorem pd4 : parseMethodDescriptor "(C)Ljava/lang/String;" = some ⟨[.char], some (.object "java/lang/String")⟩ := by decide +kernel
abbrev B9 := method_3_code
theorem d9_0 : decode B9 0 = .ok (.new 31, 3) := by decide +kernel
abbrev P14 (Z : State) (h : Heap) (a : Addr) (v : Value) : Prop := Fld Z h a "java/util/AbstractList" "modCount" "I" v
abbrev P15 (Z : State) (h : Heap) (a : Addr) (v : Value) : Prop := Fld Z h a "java/util/ArrayList" "elementData" "[Ljava/lang/Object;" v
abbrev P16 (Z : State) (h : Heap) (a : Addr) (v : Value) : Prop := Fld Z h a "java/util/ArrayList" "size" "I" v
theorem d9_3 : decode B9 3 = .ok (.dup, 1) := by decide +kernel
theorem d9_4 : decode B9 4 = .ok (.invokespecial 33, 3) := by decide +kernel
abbrev B10 := jdk_38_method_2_code
theorem d10_0 : decode B10 0 = .ok (.aload_n 0, 1) := by decide +kernel
theorem d10_1 : decode B10 1 = .ok (.invokespecial 1, 3) := by decide +kernel
abbrev B11 := jdk_39_method_1_code
theorem d11_0 : decode B11 0 = .ok (.aload_n 0, 1) := by decide +kernel
theorem d11_1 : decode B11 1 = .ok (.invokespecial 1, 3) := by decide +kernel
abbrev B12 := jdk_22_method_1_code
theorem d12_0 : decode B12 0 = .ok (.aload_n 0, 1) := by decide +kernel
theorem d12_1 : decode B12 1 = .ok (.invokespecial 1, 3) := by decide +kernel
theorem d12_4 : decode B12 4 = .ok (.return_, 1) := by decide +kernel
abbrev y7 : MethodName := ⟨"java/util/AbstractCollection", "<init>", "()V"⟩
/-- AbstractCollection.init#0 -/
theorem t8 (hw : HW a0 Z) (SB0 : SB Z cv de ca) (r0 : Addr) (O0 : OL Z n0 h0)   : CT l Z y7 B12 1 none ⟨1, 0, 0, 12⟩ #[(.ref r0)] h0 (QP0 none h0 n0) := by
  refine ct_intro ?_
  intro p e s m below meth c s₁ E0 hx D hml hown hnm hrt X0 e0 hZ hE
  have N0 := Fr.nil n0
  have pre0 := ctp #[vr r0] hE
  obtain ⟨T1, X1, e1, st1⟩ := initO X0 hx hZ hown (w_ hw 75 rfl) (w_ hw 20 rfl) (w_ hw 21 rfl) e0 (g := (mkF m 1 #[vr r0] [(.ref r0)])) rfl (by rw [hml]; rfl) rfl (D d12_1) (by decide) (W := 0) (by show 2 * 0 + _ ≤ _; exact Nat.le_of_eq rfl) (by decide)
  refine ⟨none, T1, _, _, _, X1, fun _ => rfl, (by rw [e1]; exact ⟨rfl, N0, rfl⟩), (by decide), (by decide), fun fs hr => pre0 _ ?_⟩
  show SA p e below s₁ m 0 #[vr r0] [] _
  refine XS.aloadN X0.here hx rfl (D d12_0) rfl rfl ?_
  refine st1 _ ?_
  show SA p e below T1 m 4 #[vr r0] [] _
  exact X1.returnOut hx hrt (D d12_4) hr
theorem d11_4 : decode B11 4 = .ok (.aload_n 0, 1) := by decide +kernel
theorem d11_5 : decode B11 5 = .ok (.iconst 0, 1) := by decide +kernel
theorem d11_6 : decode B11 6 = .ok (.putfield 7, 3) := by decide +kernel
abbrev E_3 (Z : State) (h : Heap) (a : Addr) : Prop := Exa Z h a "java/util/ArrayList"
theorem d11_9 : decode B11 9 = .ok (.return_, 1) := by decide +kernel
abbrev S_14 (Z : State) := Jvm.RoadKit.slotOf Z "java/util/ArrayList" "elementData" "[Ljava/lang/Object;"
abbrev S_15 (Z : State) := Jvm.RoadKit.slotOf Z "java/util/AbstractList" "modCount" "I"
theorem ly14 {a0 Z} (hw : HW a0 Z) : Laid Z a0 "java/util/ArrayList" "java/util/ArrayList" "elementData" "[Ljava/lang/Object;" := (Or.inl (w_ hw 80 rfl))
theorem ly15 {a0 Z} (hw : HW a0 Z) : Laid Z a0 "java/util/ArrayList" "java/util/AbstractList" "modCount" "I" := (Or.inl (w_ hw 77 rfl))
theorem pf8 : parseFieldDescriptor "[Ljava/lang/Object;" = some (.array (.object "java/lang/Object")) := by decide
theorem sn29 {a0 Z} (hw : HW a0 Z) : S_14 Z ≠ S_15 Z := Jvm.RoadKit.slot_ne (ly14 hw) (ly15 hw) (by decide) pf8 pf0
abbrev S_16 (Z : State) := Jvm.RoadKit.slotOf Z "java/util/ArrayList" "size" "I"
theorem ly16 {a0 Z} (hw : HW a0 Z) : Laid Z a0 "java/util/ArrayList" "java/util/ArrayList" "size" "I" := (Or.inl (w_ hw 93 rfl))
theorem sn30 {a0 Z} (hw : HW a0 Z) : S_16 Z ≠ S_15 Z := Jvm.RoadKit.slot_ne (ly16 hw) (ly15 hw) (by decide) pf0 pf0
abbrev y8 : MethodName := ⟨"java/util/AbstractList", "<init>", "()V"⟩
def Q9 (Z : State) (cv : Int32) (de ca : Addr) (r0 : Addr) (h0 : Heap) (n0 : Nat) (v : Option Value) (h : Heap) (L : List Loc) : Prop := v = none ∧ Fr n0 L ∧ Keep h0 h [r0] ∧ P14 Z h r0 (.int 0) ∧ P15 Z h r0 .null ∧ P16 Z h r0 (.int 0)
/-- AbstractList.init#0 -/
theorem t9 (hw : HW a0 Z) (SB0 : SB Z cv de ca) (r0 : Addr) (O0 : OL Z n0 h0) (q0 : E_3 Z h0 r0) (q1 : P14 Z h0 r0 (.int 0)) (q2 : P15 Z h0 r0 .null) (q3 : P16 Z h0 r0 (.int 0)) (ge0 : n0 ≤ r0) : CT l Z y8 B11 1 none ⟨2, 0, 0, 24⟩ #[(.ref r0)] h0 (Q9 Z cv de ca r0 h0 n0) := by
  refine ct_intro ?_
  intro p e s m below meth c s₁ E0 hx D hml hown hnm hrt X0 e0 hZ hE
  have Z0 := O0.le
  have K0 := Keep.refl h0 [r0]
  have hws : ∀ w ∈ ([r0] : List Addr), n0 ≤ w := (allS ge0 all0)
  have N0 := Fr.nil n0
  have pre0 := ctp #[vr r0] hE
  obtain ⟨v1, T1, L1, X1, Q1, st1⟩ := kI X0 hx hZ hown (t8 hw SB0 r0 (O0.keep K0 hws) ) rfl (w_ hw 69 rfl) (w_ hw 70 rfl) (w_ hw 73 rfl) (w_ hw 74 rfl) e0 (g := (mkF m 1 #[vr r0] [(.ref r0)])) rfl hml rfl (argsL := []) (rest := []) (lenOf pd0 rfl) rfl rfl (W := 0) rfl (D d11_1)
  obtain ⟨rfl, M1, e1⟩ := Q1
  have N1 := N0.app M1
  obtain ⟨T2, h2, X2, e2, W2, st2⟩ := putF X1 hx hZ hown (host := "") (Or.inl (w_ hw 76 rfl)) Via.refl e1 q1 q0 (Or.inl (w_ hw 77 rfl)) (w_ hw 58 rfl) (ty := .int) (by decide) rfl rfl (g := (mkF m 6 #[vr r0] [(.int 0), (.ref r0)])) rfl rfl (D d11_6)
  have N2 := Fr.snoc X2 N1 ge0
  have k2 := K0.wr W2 (Or.inl (List.mem_of_getElem? (i := 0) rfl))
  have v2 := q1.same W2
  have f3 := (q2.other W2 (Or.inr (sn29 hw)))
  have f4 := (q3.other W2 (Or.inr (sn30 hw)))
  refine ⟨none, T2, _, _, _, X2, fun _ => rfl, (by rw [e2]; exact ⟨rfl, N2, k2, v2, f3, f4⟩), (by decide), (by decide), fun fs hr => pre0 _ ?_⟩
  show SA p e below s₁ m 0 #[vr r0] [] _
  refine XS.aloadN X0.here hx rfl (D d11_0) rfl rfl ?_
  refine st1 _ ?_
  refine XS.aloadN X1.here hx rfl (D d11_4) rfl rfl ?_
  refine XS.iconst X1.here hx rfl (D d11_5) ?_
  refine st2 _ ?_
  show SA p e below T2 m 9 #[vr r0] [] _
  exact X2.returnOut hx hrt (D d11_9) hr
theorem d10_4 : decode B10 4 = .ok (.aload_n 0, 1) := by decide +kernel
theorem d10_5 : decode B10 5 = .ok (.getstatic 39, 3) := by decide +kernel
theorem d10_8 : decode B10 8 = .ok (.putfield 9, 3) := by decide +kernel
theorem d10_11 : decode B10 11 = .ok (.return_, 1) := by decide +kernel
theorem sn31 {a0 Z} (hw : HW a0 Z) : S_16 Z ≠ S_14 Z := Jvm.RoadKit.slot_ne (ly16 hw) (ly14 hw) (by decide) pf0 pf8
abbrev y9 : MethodName := ⟨"java/util/ArrayList", "<init>", "()V"⟩
def Q10 (Z : State) (cv : Int32) (de ca : Addr) (r0 : Addr) (h0 : Heap) (n0 : Nat) (v : Option Value) (h : Heap) (L : List Loc) : Prop := v = none ∧ Fr n0 L ∧ Keep h0 h [r0] ∧ P14 Z h r0 (.int 0) ∧ P15 Z h r0 (.ref de) ∧ P16 Z h r0 (.int 0)
/-- ArrayList.init#0 -/
theorem t10 (hw : HW a0 Z) (SB0 : SB Z cv de ca) (r0 : Addr) (O0 : OL Z n0 h0) (q0 : E_3 Z h0 r0) (q1 : P14 Z h0 r0 (.int 0)) (q2 : P15 Z h0 r0 .null) (q3 : P16 Z h0 r0 (.int 0)) (ge0 : n0 ≤ r0) : CT l Z y9 B10 1 none ⟨3, 0, 0, 36⟩ #[(.ref r0)] h0 (Q10 Z cv de ca r0 h0 n0) := by
  refine ct_intro ?_
  intro p e s m below meth c s₁ E0 hx D hml hown hnm hrt X0 e0 hZ hE
  have Z0 := O0.le
  have K0 := Keep.refl h0 [r0]
  have hws : ∀ w ∈ ([r0] : List Addr), n0 ≤ w := (allS ge0 all0)
  have N0 := Fr.nil n0
  have pre0 := ctp #[vr r0] hE
  obtain ⟨v1, T1, L1, X1, Q1, st1⟩ := kI X0 hx hZ hown (t9 hw SB0 r0 (O0.keep K0 hws) q0 q1 q2 q3 ge0) rfl (w_ hw 63 rfl) (w_ hw 64 rfl) (w_ hw 67 rfl) (w_ hw 68 rfl) e0 (g := (mkF m 1 #[vr r0] [(.ref r0)])) rfl hml rfl (argsL := []) (rest := []) (lenOf pd0 rfl) rfl rfl (W := 0) rfl (D d10_1)
  obtain ⟨h1, e1⟩ : ∃ z, T1.heap = z := ⟨_, rfl⟩
  rw [e1] at Q1
  obtain ⟨rfl, M1, K1, F1_0, F1_1, F1_2⟩ := Q1
  have N1 := N0.app M1
  have k1 := K0.trans K1 (allS (Or.inl (List.mem_of_getElem? (i := 0) rfl)) all0)
  obtain ⟨T2, X2, e2, st2⟩ := getS2 X1 hx hZ hown (host := "") (Or.inl (w_ hw 78 rfl)) Via.refl e1 (SB0.2.2.1.ext (O0.keep k1 hws).2) (g := (mkF m 5 #[vr r0] [(.ref r0)])) rfl (D d10_5)
  have f3 := (q0.keep K1)
  obtain ⟨T4, h4, X4, e4, W4, st4⟩ := putF X2 hx hZ hown (host := "") (Or.inl (w_ hw 79 rfl)) Via.refl e2 F1_1 f3 (Or.inl (w_ hw 80 rfl)) (w_ hw 58 rfl) (ty := (.array (.object "java/lang/Object"))) (by decide) rfl rfl (g := (mkF m 8 #[vr r0] [(.ref de), (.ref r0)])) rfl rfl (D d10_8)
  have N4 := Fr.snoc X4 N1 ge0
  have k4 := k1.wr W4 (Or.inl (List.mem_of_getElem? (i := 0) rfl))
  have v4 := F1_1.same W4
  have f5 := (F1_0.other W4 (Or.inr (Ne.symm (sn29 hw))))
  have f6 := (F1_2.other W4 (Or.inr (sn31 hw)))
  refine ⟨none, T4, _, _, _, X4, fun _ => rfl, (by rw [e4]; exact ⟨rfl, N4, k4, f5, v4, f6⟩), (by decide), (by decide), fun fs hr => pre0 _ ?_⟩
  show SA p e below s₁ m 0 #[vr r0] [] _
  refine XS.aloadN X0.here hx rfl (D d10_0) rfl rfl ?_
  refine st1 _ ?_
  refine XS.aloadN X1.here hx rfl (D d10_4) rfl rfl ?_
  refine st2 _ ?_
  refine st4 _ ?_
  show SA p e below T4 m 11 #[vr r0] [] _
  exact X4.returnOut hx hrt (D d10_11) hr
theorem d9_7 : decode B9 7 = .ok (.astore_n 1, 1) := by decide +kernel
theorem d9_8 : decode B9 8 = .ok (.aload_n 1, 1) := by decide +kernel
theorem d9_9 : decode B9 9 = .ok (.aconst_null, 1) := by decide +kernel
theorem d9_10 : decode B9 10 = .ok (.invokeinterface 41 2, 5) := by decide +kernel
abbrev B13 := jdk_38_method_25_code
theorem d13_0 : decode B13 0 = .ok (.aload_n 0, 1) := by decide +kernel
theorem d13_1 : decode B13 1 = .ok (.dup, 1) := by decide +kernel
theorem d13_2 : decode B13 2 = .ok (.getfield 63, 3) := by decide +kernel
theorem d13_5 : decode B13 5 = .ok (.iconst 1, 1) := by decide +kernel
theorem d13_6 : decode B13 6 = .ok (.iadd, 1) := by decide +kernel
theorem d13_7 : decode B13 7 = .ok (.putfield 63, 3) := by decide +kernel
theorem d13_10 : decode B13 10 = .ok (.aload_n 0, 1) := by decide +kernel
theorem d13_11 : decode B13 11 = .ok (.aload_n 1, 1) := by decide +kernel
theorem d13_12 : decode B13 12 = .ok (.aload_n 0, 1) := by decide +kernel
theorem d13_13 : decode B13 13 = .ok (.getfield 9, 3) := by decide +kernel
theorem d13_16 : decode B13 16 = .ok (.aload_n 0, 1) := by decide +kernel
theorem d13_17 : decode B13 17 = .ok (.getfield 48, 3) := by decide +kernel
theorem d13_20 : decode B13 20 = .ok (.invokevirtual 131, 3) := by decide +kernel
abbrev B14 := jdk_38_method_24_code
theorem d14_0 : decode B14 0 = .ok (.iload_n 3, 1) := by decide +kernel
theorem d14_1 : decode B14 1 = .ok (.aload_n 2, 1) := by decide +kernel
theorem d14_2 : decode B14 2 = .ok (.arraylength, 1) := by decide +kernel
theorem d14_3 : decode B14 3 = .ok (.if_icmp .ne 8, 3) := by decide +kernel
theorem d14_6 : decode B14 6 = .ok (.aload_n 0, 1) := by decide +kernel
theorem d14_7 : decode B14 7 = .ok (.invokevirtual 129, 3) := by decide +kernel
abbrev B15 := jdk_38_method_7_code
theorem d15_0 : decode B15 0 = .ok (.aload_n 0, 1) := by decide +kernel
theorem d15_1 : decode B15 1 = .ok (.aload_n 0, 1) := by decide +kernel
theorem d15_2 : decode B15 2 = .ok (.getfield 48, 3) := by decide +kernel
theorem d15_5 : decode B15 5 = .ok (.iconst 1, 1) := by decide +kernel
theorem d15_6 : decode B15 6 = .ok (.iadd, 1) := by decide +kernel
theorem d15_7 : decode B15 7 = .ok (.invokevirtual 69, 3) := by decide +kernel
abbrev B16 := jdk_38_method_6_code
theorem d16_0 : decode B16 0 = .ok (.aload_n 0, 1) := by decide +kernel
theorem d16_1 : decode B16 1 = .ok (.getfield 9, 3) := by decide +kernel
theorem d16_4 : decode B16 4 = .ok (.arraylength, 1) := by decide +kernel
theorem d16_5 : decode B16 5 = .ok (.istore_n 2, 1) := by decide +kernel
theorem d16_6 : decode B16 6 = .ok (.iload_n 2, 1) := by decide +kernel
theorem d16_7 : decode B16 7 = .ok (.ifCond .gt 13, 3) := by decide +kernel
theorem d16_10 : decode B16 10 = .ok (.aload_n 0, 1) := by decide +kernel
theorem d16_11 : decode B16 11 = .ok (.getfield 9, 3) := by decide +kernel
theorem d16_14 : decode B16 14 = .ok (.getstatic 39, 3) := by decide +kernel
theorem d16_17 : decode B16 17 = .ok (.if_acmp .eq 28, 3) := by decide +kernel
theorem d16_45 : decode B16 45 = .ok (.aload_n 0, 1) := by decide +kernel
theorem d16_46 : decode B16 46 = .ok (.bipush 10, 2) := by decide +kernel
theorem d16_48 : decode B16 48 = .ok (.iload_n 1, 1) := by decide +kernel
theorem d16_49 : decode B16 49 = .ok (.invokestatic 79, 3) := by decide +kernel
abbrev B17 := jdk_29_method_65_code
theorem d17_0 : decode B17 0 = .ok (.iload_n 0, 1) := by decide +kernel
theorem d17_1 : decode B17 1 = .ok (.iload_n 1, 1) := by decide +kernel
theorem d17_2 : decode B17 2 = .ok (.if_icmp .lt 7, 3) := by decide +kernel
theorem d17_5 : decode B17 5 = .ok (.iload_n 0, 1) := by decide +kernel
theorem d17_6 : decode B17 6 = .ok (.goto 4, 3) := by decide +kernel
theorem d17_10 : decode B17 10 = .ok (.ireturn, 1) := by decide +kernel
abbrev y10 : MethodName := ⟨"java/lang/Math", "max", "(II)I"⟩
/-- Math.max#0 -/
theorem t11 (hw : HW a0 Z) (SB0 : SB Z cv de ca)  (O0 : OL Z n0 h0)   : CT l Z y10 B17 2 (some .int) ⟨0, 0, 0, 0⟩ #[(.int 10), (.int 1)] h0 (QP0 (some (.int 10)) h0 n0) := by
  refine ct_intro ?_
  intro p e s m below meth c s₁ E0 hx D hml hown hnm hrt X0 e0 hZ hE
  have N0 := Fr.nil n0
  have pre0 := ctp #[vi 10, vi 1] hE
  refine ⟨(some (.int 10)), s₁, _, _, _, X0, (fun hh => by cases hh), (by rw [e0]; exact ⟨rfl, N0, rfl⟩), (by decide), (by decide), fun fs hr => pre0 _ ?_⟩
  show SA p e below s₁ m 0 #[vi 10, vi 1] [] _
  refine XS.iloadN X0.here hx rfl (D d17_0) rfl ?_
  refine XS.iloadN X0.here hx rfl (D d17_1) rfl ?_
  refine XS.icmpNo X0.here hx rfl (D d17_2) rfl (flt (by decide : ¬ ((10 : Int32) < (1 : Int32)))).1 ?_
  refine XS.iloadN X0.here hx rfl (D d17_5) rfl ?_
  refine XS.goto X0.here hx rfl (pc0 := 6) (pc' := 10) rfl (D d17_6) (by decide) (by decide) ?_
  show SA p e below s₁ m 10 #[vi 10, vi 1] [(.int 10)] _
  exact retOut X0 hx hrt rfl (Or.inl ⟨rfl, Or.inl rfl, _, rfl⟩) (D d17_10) hr
theorem pd5 : parseMethodDescriptor "(II)I" = some ⟨[.int, .int], some .int⟩ := by decide +kernel
theorem d16_52 : decode B16 52 = .ok (.anewarray 7, 3) := by decide +kernel
theorem d16_55 : decode B16 55 = .ok (.dup_x1, 1) := by decide +kernel
theorem d16_56 : decode B16 56 = .ok (.putfield 9, 3) := by decide +kernel
theorem d16_59 : decode B16 59 = .ok (.areturn, 1) := by decide +kernel
abbrev E_4 (Z : State) (h : Heap) (a : Addr) : Prop := Exa Z h a "[Ljava/lang/Object;"
abbrev y11 : MethodName := ⟨"java/util/ArrayList", "grow", "(I)[Ljava/lang/Object;"⟩
def Q12 (Z : State) (cv : Int32) (de ca : Addr) (r0 : Addr) (h0 : Heap) (n0 : Nat) (v : Option Value) (h : Heap) (L : List Loc) : Prop := ∃ (b7 : Addr), v = (some (.ref b7)) ∧ Fr n0 L ∧ Keep h0 h [r0] ∧ h0.size ≤ b7 ∧ P15 Z h r0 (.ref b7) ∧ P16 Z h r0 (.int 0) ∧ P14 Z h r0 (.int 1) ∧ E_4 Z h b7 ∧ ALen Z h b7 (.object "java/lang/Object") (10 : Int32)
/-- ArrayList.grow#0 -/
theorem t12 (hw : HW a0 Z) (SB0 : SB Z cv de ca) (r0 : Addr) (O0 : OL Z n0 h0) (q0 : P15 Z h0 r0 (.ref de)) (q1 : E_3 Z h0 r0) (q2 : P16 Z h0 r0 (.int 0)) (q3 : P14 Z h0 r0 (.int 1)) (ge0 : n0 ≤ r0) : CT l Z y11 B16 4 (some (.array (.object "java/lang/Object"))) ⟨1, 1, 10, 14⟩ #[(.ref r0), (.int 1)] h0 (Q12 Z cv de ca r0 h0 n0) := by
  refine ct_intro ?_
  intro p e s m below meth c s₁ E0 hx D hml hown hnm hrt X0 e0 hZ hE
  have Z0 := O0.le
  have K0 := Keep.refl h0 [r0]
  have hws : ∀ w ∈ ([r0] : List Addr), n0 ≤ w := (allS ge0 all0)
  have N0 := Fr.nil n0
  have pre0 := ctp #[vr r0, vi 1, un, un] hE
  obtain ⟨T1, X1, e1, st1⟩ := gF X0 hx hZ hown (w_ hw 79 rfl) Via.refl e0 q0 (g := (mkF m 1 #[vr r0, vi 1, un, un] [(.ref r0)])) rfl rfl (D d16_1)
  have f2 := SB0.2.2.2.1.ext (O0.keep K0 hws).2
  obtain ⟨_, Ar3, S3, M3⟩ := id f2
  obtain ⟨T4, X4, e4, st4⟩ := gF X1 hx hZ hown (w_ hw 79 rfl) Via.refl e1 q0 (g := (mkF m 11 #[vr r0, vi 1, vi 0, un] [(.ref r0)])) rfl rfl (D d16_11)
  obtain ⟨T5, X5, e5, st5⟩ := getS2 X4 hx hZ hown (host := "") (Or.inl (w_ hw 78 rfl)) Via.refl e4 (SB0.2.2.1.ext (O0.keep K0 hws).2) (g := (mkF m 14 #[vr r0, vi 1, vi 0, un] [(.ref de)])) rfl (D d16_14)
  obtain ⟨v6, T6, L6, X6, Q6, st6⟩ := kS X5 hx hZ hown (t11 hw SB0  (O0.keep K0 hws) ) (w_ hw 109 rfl) (w_ hw 110 rfl) (w_ hw 111 rfl) (w_ hw 112 rfl) e5 (g := (mkF m 49 #[vr r0, vi 1, vi 0, un] [(.int 1), (.int 10), (.ref r0)])) rfl hml rfl (argsL := [(.int 10), (.int 1)]) (rest := [(.ref r0)]) (lenOf pd5 rfl) rfl rfl (W := 1) rfl (D d16_49)
  obtain ⟨rfl, M6, e6⟩ := Q6
  have N6 := N0.app M6
  obtain ⟨T7, h7, c7, X7, e7, E7, A7, B7, O7, st7⟩ := newRE X6 hx hZ hown (w_ hw 113 rfl) (w_ hw 114 rfl) e6 (g := (mkF m 52 #[vr r0, vi 1, vi 0, un] [(.int 10), (.ref r0)])) rfl (D d16_52) rfl (by decide) (cap := 10) (by decide) (by decide) (by decide) (by decide) (ad := "[Ljava/lang/Object;") (by decide)
  obtain ⟨b7, g7⟩ : ∃ z, z = h0.size := ⟨_, rfl⟩
  rw [← g7] at A7 B7 st7
  have z7 : h0.size ≤ b7 := Nat.le_trans K0.1 (Nat.le_of_eq g7.symm)
  have k7 := K0.ext E7
  have v7 : ALen Z h7 b7 (.object "java/lang/Object") (10 : Int32) := ⟨_, A7, sz_new _ _ _, (by decide)⟩
  have f8 := (q0.ext E7)
  have f9 := (q1.ext E7)
  obtain ⟨T10, h10, X10, e10, W10, st10⟩ := putF X7 hx hZ hown (host := "") (Or.inl (w_ hw 79 rfl)) Via.refl e7 f8 f9 (Or.inl (w_ hw 80 rfl)) (w_ hw 58 rfl) (ty := (.array (.object "java/lang/Object"))) (by decide) rfl rfl (g := (mkF m 56 #[vr r0, vi 1, vi 0, un] [(.ref b7), (.ref r0), (.ref b7)])) rfl rfl (D d16_56)
  have N10 := Fr.snoc X10 N6 ge0
  have k10 := k7.wr W10 (Or.inl (List.mem_of_getElem? (i := 0) rfl))
  have v10 := f8.same W10
  have f11 := ((q2.ext E7).other W10 (Or.inr (sn31 hw)))
  have f12 := ((q3.ext E7).other W10 (Or.inr (Ne.symm (sn29 hw))))
  have f13 := (B7.wr W10)
  have f14 := (v7.wr W10)
  refine ⟨(some (.ref b7)), T10, _, _, _, X10, (fun hh => by cases hh), (by rw [e10]; exact ⟨b7, rfl, N10, k10, z7, v10, f11, f12, f13, f14⟩), (by decide), (by decide), fun fs hr => pre0 _ ?_⟩
  show SA p e below s₁ m 0 #[vr r0, vi 1, un, un] [] _
  refine XS.aloadN X0.here hx rfl (D d16_0) rfl rfl ?_
  refine st1 _ ?_
  refine X1.arraylength hx (by rw [e1]; exact Ar3.1) (State.isArrayOf_alike hZ.alike Ar3.2.1) (g := (mkF m 4 #[vr r0, vi 1, un, un] [(.ref de)])) rfl rfl (D d16_4) _ ?_
  rw [len_of S3 M3]
  show SA p e below T1 m 5 #[vr r0, vi 1, un, un] [(.int 0)] _
  refine XS.istoreN X1.here hx rfl (D d16_5) rfl (l' := #[vr r0, vi 1, vi 0, un]) rfl ?_
  refine XS.iloadN X1.here hx rfl (D d16_6) rfl ?_
  refine XS.ifNo X1.here hx rfl (D d16_7) rfl ((if0 _ _).trans (flt (by decide : ¬ ((0 : Int32) < (0 : Int32)))).2.2.1) ?_
  refine XS.aloadN X1.here hx rfl (D d16_10) rfl rfl ?_
  refine st4 _ ?_
  refine st5 _ ?_
  refine Jvm.RoadKit.acmp (g := (mkF m 17 #[vr r0, vi 1, vi 0, un] [(.ref de), (.ref de)])) X5 hx rfl rfl rfl (pc0 := 17) (pc' := 45) (same := true) rfl (D d16_17) rfl (decide_eq_true rfl) (by decide) (by decide) ?_
  show SA p e below T5 m 45 #[vr r0, vi 1, vi 0, un] [] _
  refine XS.aloadN X5.here hx rfl (D d16_45) rfl rfl ?_
  refine XS.bipush X5.here hx rfl (D d16_46) ?_
  refine XS.iloadN X5.here hx rfl (D d16_48) rfl ?_
  refine st6 _ ?_
  refine st7 _ ?_
  refine XS.dupX1 X7.here hx rfl (D d16_55) rfl rfl rfl ?_
  refine st10 _ ?_
  show SA p e below T10 m 59 #[vr r0, vi 1, vi 0, un] [(.ref b7)] _
  exact retOut X10 hx hrt rfl (Or.inr (Or.inr (Or.inr (Or.inr ⟨rfl, rfl, rfl⟩)))) (D d16_59) hr
theorem pd6 : parseMethodDescriptor "(I)[Ljava/lang/Object;" = some ⟨[.int], some (.array (.object "java/lang/Object"))⟩ := by decide +kernel
abbrev y12 : MethodName := ⟨"java/util/List", "add", "(Ljava/lang/Object;)Z"⟩
abbrev y13 : MethodName := ⟨"java/util/ArrayList", "add", "(Ljava/lang/Object;)Z"⟩
theorem d15_10 : decode B15 10 = .ok (.areturn, 1) := by decide +kernel
abbrev y14 : MethodName := ⟨"java/util/ArrayList", "grow", "()[Ljava/lang/Object;"⟩
def Q13 (Z : State) (cv : Int32) (de ca : Addr) (r0 : Addr) (h0 : Heap) (n0 : Nat) (v : Option Value) (h : Heap) (L : List Loc) : Prop := ∃ (b2_0 : Addr), v = (some (.ref b2_0)) ∧ Fr n0 L ∧ Keep h0 h [r0] ∧ h0.size ≤ b2_0 ∧ P15 Z h r0 (.ref b2_0) ∧ P16 Z h r0 (.int 0) ∧ P14 Z h r0 (.int 1) ∧ E_4 Z h b2_0 ∧ ALen Z h b2_0 (.object "java/lang/Object") (10 : Int32)
/-- ArrayList.grow#0 -/
theorem t13 (hw : HW a0 Z) (SB0 : SB Z cv de ca) (r0 : Addr) (O0 : OL Z n0 h0) (q0 : P16 Z h0 r0 (.int 0)) (q1 : E_3 Z h0 r0) (q2 : P15 Z h0 r0 (.ref de)) (q3 : P14 Z h0 r0 (.int 1)) (ge0 : n0 ≤ r0) : CT l Z y14 B15 1 (some (.array (.object "java/lang/Object"))) ⟨2, 1, 10, 29⟩ #[(.ref r0)] h0 (Q13 Z cv de ca r0 h0 n0) := by
  refine ct_intro ?_
  intro p e s m below meth c s₁ E0 hx D hml hown hnm hrt X0 e0 hZ hE
  have Z0 := O0.le
  have K0 := Keep.refl h0 [r0]
  have hws : ∀ w ∈ ([r0] : List Addr), n0 ≤ w := (allS ge0 all0)
  have N0 := Fr.nil n0
  have pre0 := ctp #[vr r0] hE
  obtain ⟨T1, X1, e1, st1⟩ := gF X0 hx hZ hown (w_ hw 92 rfl) Via.refl e0 q0 (g := (mkF m 2 #[vr r0] [(.ref r0), (.ref r0)])) rfl rfl (D d15_2)
  obtain ⟨v2, T2, L2, X2, Q2, st2⟩ := kP (y := y11) (z := y12) (z' := y13) X1 hx hZ hown (t12 hw SB0 r0 (O0.keep K0 hws) q2 q1 q0 q3 ge0) q1 (w_ hw 104 rfl) (w_ hw 105 rfl) (w_ hw 106 rfl) (w_ hw 84 rfl) rfl (w_ hw 59 rfl) (w_ hw 108 rfl) e1 (g := (mkF m 7 #[vr r0] [(.int 1), (.ref r0)])) rfl hml rfl (argsL := [(.int 1)]) (rest := []) (lenOf pd6 rfl) rfl rfl (W := 0) rfl (D d15_7)
  obtain ⟨h2, e2⟩ : ∃ z, T2.heap = z := ⟨_, rfl⟩
  rw [e2] at Q2
  obtain ⟨b2_0, rfl, M2, K2, y2_0, F2_0, F2_1, F2_2, F2_3, F2_4⟩ := Q2
  have N2 := N0.app M2
  have z2_b2_0 := Nat.le_trans K0.1 y2_0
  have k2 := K0.trans K2 (allS (Or.inl (List.mem_of_getElem? (i := 0) rfl)) all0)
  refine ⟨(some (.ref b2_0)), T2, _, _, _, X2, (fun hh => by cases hh), (by rw [e2]; exact ⟨b2_0, rfl, N2, k2, z2_b2_0, F2_0, F2_1, F2_2, F2_3, F2_4⟩), (by decide), (by decide), fun fs hr => pre0 _ ?_⟩
  show SA p e below s₁ m 0 #[vr r0] [] _
  refine XS.aloadN X0.here hx rfl (D d15_0) rfl rfl ?_
  refine XS.aloadN X0.here hx rfl (D d15_1) rfl rfl ?_
  refine st1 _ ?_
  refine XS.iconst X1.here hx rfl (D d15_5) ?_
  refine XS.iadd X1.here hx rfl (D d15_6) rfl ?_
  refine st2 _ ?_
  show SA p e below T2 m 10 #[vr r0] [(.ref b2_0)] _
  exact retOut X2 hx hrt rfl (Or.inr (Or.inr (Or.inr (Or.inr ⟨rfl, rfl, rfl⟩)))) (D d15_10) hr
theorem pd7 : parseMethodDescriptor "()[Ljava/lang/Object;" = some ⟨[], some (.array (.object "java/lang/Object"))⟩ := by decide +kernel
theorem d14_10 : decode B14 10 = .ok (.astore_n 2, 1) := by decide +kernel
theorem d14_11 : decode B14 11 = .ok (.aload_n 2, 1) := by decide +kernel
theorem d14_12 : decode B14 12 = .ok (.iload_n 3, 1) := by decide +kernel
theorem d14_13 : decode B14 13 = .ok (.aload_n 1, 1) := by decide +kernel
theorem d14_14 : decode B14 14 = .ok (.aastore, 1) := by decide +kernel
theorem d14_15 : decode B14 15 = .ok (.aload_n 0, 1) := by decide +kernel
theorem d14_16 : decode B14 16 = .ok (.iload_n 3, 1) := by decide +kernel
theorem d14_17 : decode B14 17 = .ok (.iconst 1, 1) := by decide +kernel
theorem d14_18 : decode B14 18 = .ok (.iadd, 1) := by decide +kernel
theorem d14_19 : decode B14 19 = .ok (.putfield 48, 3) := by decide +kernel
theorem d14_22 : decode B14 22 = .ok (.return_, 1) := by decide +kernel
abbrev y15 : MethodName := ⟨"java/util/ArrayList", "add", "(Ljava/lang/Object;[Ljava/lang/Object;I)V"⟩
def Q14 (Z : State) (cv : Int32) (de ca : Addr) (r0 : Addr) (h0 : Heap) (n0 : Nat) (v : Option Value) (h : Heap) (L : List Loc) : Prop := ∃ (b3_0 : Addr), v = none ∧ Fr n0 L ∧ Keep h0 h [r0] ∧ h0.size ≤ b3_0 ∧ P15 Z h r0 (.ref b3_0) ∧ P16 Z h r0 (.int 1) ∧ P14 Z h r0 (.int 1) ∧ E_4 Z h b3_0 ∧ ALen Z h b3_0 (.object "java/lang/Object") (10 : Int32)
/-- ArrayList.add#0 -/
theorem t14 (hw : HW a0 Z) (SB0 : SB Z cv de ca) (r0 : Addr) (O0 : OL Z n0 h0) (q0 : E_3 Z h0 r0) (q1 : P16 Z h0 r0 (.int 0)) (q2 : P15 Z h0 r0 (.ref de)) (q3 : P14 Z h0 r0 (.int 1)) (ge0 : n0 ≤ r0) : CT l Z y15 B14 4 none ⟨3, 1, 10, 41⟩ #[(.ref r0), .null, (.ref de), (.int 0)] h0 (Q14 Z cv de ca r0 h0 n0) := by
  refine ct_intro ?_
  intro p e s m below meth c s₁ E0 hx D hml hown hnm hrt X0 e0 hZ hE
  have Z0 := O0.le
  have K0 := Keep.refl h0 [r0]
  have hws : ∀ w ∈ ([r0] : List Addr), n0 ≤ w := (allS ge0 all0)
  have N0 := Fr.nil n0
  have pre0 := ctp #[vr r0, .val .null, vr de, vi 0] hE
  have f1 := SB0.2.2.2.1.ext (O0.keep K0 hws).2
  obtain ⟨_, Ar2, S2, M2⟩ := id f1
  obtain ⟨v3, T3, L3, X3, Q3, st3⟩ := kP (y := y14) (z := y12) (z' := y13) X0 hx hZ hown (t13 hw SB0 r0 (O0.keep K0 hws) q1 q0 q2 q3 ge0) q0 (w_ hw 99 rfl) (w_ hw 100 rfl) (w_ hw 101 rfl) (w_ hw 84 rfl) rfl (w_ hw 59 rfl) (w_ hw 103 rfl) e0 (g := (mkF m 7 #[vr r0, .val .null, vr de, vi 0] [(.ref r0)])) rfl hml rfl (argsL := []) (rest := []) (lenOf pd7 rfl) rfl rfl (W := 0) rfl (D d14_7)
  obtain ⟨h3, e3⟩ : ∃ z, T3.heap = z := ⟨_, rfl⟩
  rw [e3] at Q3
  obtain ⟨b3_0, rfl, M3, K3, y3_0, F3_0, F3_1, F3_2, F3_3, F3_4⟩ := Q3
  have N3 := N0.app M3
  have z3_b3_0 := Nat.le_trans K0.1 y3_0
  have k3 := K0.trans K3 (allS (Or.inl (List.mem_of_getElem? (i := 0) rfl)) all0)
  obtain ⟨_, Ar4, S4, M4⟩ := id F3_4
  obtain ⟨T5, h5, X5, e5, W5, st5⟩ := stR X3 hx hZ e3 Ar4 (j := (0 : Int32)) (inb_of S4 ⟨by decide, by decide⟩) rfl (Or.inl rfl) (g := (mkF m 14 #[vr r0, .val .null, vr b3_0, vi 0] [.null, (.int 0), (.ref b3_0)])) rfl rfl (D d14_14)
  have N5 := Fr.snoc X5 N3 (Nat.le_trans Z0 z3_b3_0)
  have k5 := k3.wr W5 (Or.inr z3_b3_0)
  have f7 := ((q0.keep K3).wr W5)
  have f8 := (F3_3.wr W5)
  have ne6 : r0 ≠ b3_0 := Exa.ne f7 f8 (by decide)
  have f9 := (F3_1.other W5 (Or.inl ne6))
  obtain ⟨T10, h10, X10, e10, W10, st10⟩ := putF X5 hx hZ hown (host := "") (Or.inl (w_ hw 92 rfl)) Via.refl e5 f9 f7 (Or.inl (w_ hw 93 rfl)) (w_ hw 58 rfl) (ty := .int) (by decide) rfl rfl (g := (mkF m 19 #[vr r0, .val .null, vr b3_0, vi 0] [(.int 1), (.ref r0)])) rfl rfl (D d14_19)
  have N10 := Fr.snoc X10 N5 ge0
  have k10 := k5.wr W10 (Or.inl (List.mem_of_getElem? (i := 0) rfl))
  have v10 := f9.same W10
  have f11 := ((F3_0.other W5 (Or.inl ne6)).other W10 (Or.inr (Ne.symm (sn31 hw))))
  have f12 := ((F3_2.other W5 (Or.inl ne6)).other W10 (Or.inr (Ne.symm (sn30 hw))))
  have f13 := (f8.wr W10)
  have f14 := ((F3_4.wr W5).wr W10)
  refine ⟨none, T10, _, _, _, X10, fun _ => rfl, (by rw [e10]; exact ⟨b3_0, rfl, N10, k10, z3_b3_0, f11, v10, f12, f13, f14⟩), (by decide), (by decide), fun fs hr => pre0 _ ?_⟩
  show SA p e below s₁ m 0 #[vr r0, .val .null, vr de, vi 0] [] _
  refine XS.iloadN X0.here hx rfl (D d14_0) rfl ?_
  refine XS.aloadN X0.here hx rfl (D d14_1) rfl rfl ?_
  refine X0.arraylength hx (by rw [e0]; exact Ar2.1) (State.isArrayOf_alike hZ.alike Ar2.2.1) (g := (mkF m 2 #[vr r0, .val .null, vr de, vi 0] [(.ref de), (.int 0)])) rfl rfl (D d14_2) _ ?_
  rw [len_of S2 M2]
  show SA p e below s₁ m 3 #[vr r0, .val .null, vr de, vi 0] [(.int 0), (.int 0)] _
  refine XS.icmpNo X0.here hx rfl (D d14_3) rfl (teq (by decide : ((0 : Int32) = (0 : Int32)))).2 ?_
  refine XS.aloadN X0.here hx rfl (D d14_6) rfl rfl ?_
  refine st3 _ ?_
  refine XS.astoreN X3.here hx rfl (D d14_10) rfl rfl (l' := #[vr r0, .val .null, vr b3_0, vi 0]) rfl ?_
  refine XS.aloadN X3.here hx rfl (D d14_11) rfl rfl ?_
  refine XS.iloadN X3.here hx rfl (D d14_12) rfl ?_
  refine XS.aloadN X3.here hx rfl (D d14_13) rfl rfl ?_
  refine st5 _ ?_
  refine XS.aloadN X5.here hx rfl (D d14_15) rfl rfl ?_
  refine XS.iloadN X5.here hx rfl (D d14_16) rfl ?_
  refine XS.iconst X5.here hx rfl (D d14_17) ?_
  refine XS.iadd X5.here hx rfl (D d14_18) rfl ?_
  refine st10 _ ?_
  show SA p e below T10 m 22 #[vr r0, .val .null, vr b3_0, vi 0] [] _
  exact X10.returnOut hx hrt (D d14_22) hr
theorem pd8 : parseMethodDescriptor "(Ljava/lang/Object;[Ljava/lang/Object;I)V" = some ⟨[(.object "java/lang/Object"), (.array (.object "java/lang/Object")), .int], none⟩ := by decide +kernel
theorem d13_23 : decode B13 23 = .ok (.iconst 1, 1) := by decide +kernel
theorem d13_24 : decode B13 24 = .ok (.ireturn, 1) := by decide +kernel
def Q15 (Z : State) (cv : Int32) (de ca : Addr) (r0 : Addr) (h0 : Heap) (n0 : Nat) (v : Option Value) (h : Heap) (L : List Loc) : Prop := ∃ (b8_0 : Addr), v = (some (.int 1)) ∧ Fr n0 L ∧ Keep h0 h [r0] ∧ h0.size ≤ b8_0 ∧ P15 Z h r0 (.ref b8_0) ∧ P16 Z h r0 (.int 1) ∧ P14 Z h r0 (.int 1) ∧ E_4 Z h b8_0 ∧ ALen Z h b8_0 (.object "java/lang/Object") (10 : Int32)
/-- ArrayList.add#0 -/
theorem t15 (hw : HW a0 Z) (SB0 : SB Z cv de ca) (r0 : Addr) (O0 : OL Z n0 h0) (q0 : P14 Z h0 r0 (.int 0)) (q1 : E_3 Z h0 r0) (q2 : P15 Z h0 r0 (.ref de)) (q3 : P16 Z h0 r0 (.int 0)) (ge0 : n0 ≤ r0) : CT l Z y13 B13 2 (some .boolean) ⟨4, 1, 10, 56⟩ #[(.ref r0), .null] h0 (Q15 Z cv de ca r0 h0 n0) := by
  refine ct_intro ?_
  intro p e s m below meth c s₁ E0 hx D hml hown hnm hrt X0 e0 hZ hE
  have Z0 := O0.le
  have K0 := Keep.refl h0 [r0]
  have hws : ∀ w ∈ ([r0] : List Addr), n0 ≤ w := (allS ge0 all0)
  have N0 := Fr.nil n0
  have pre0 := ctp #[vr r0, .val .null] hE
  obtain ⟨T1, X1, e1, st1⟩ := gF X0 hx hZ hown (w_ hw 90 rfl) (Via.of (w_ hw 91 rfl)) e0 q0 (g := (mkF m 2 #[vr r0, .val .null] [(.ref r0), (.ref r0)])) rfl rfl (D d13_2)
  obtain ⟨T2, h2, X2, e2, W2, st2⟩ := putF X1 hx hZ hown (host := "") (Or.inl (w_ hw 90 rfl)) (Via.of (w_ hw 91 rfl)) e1 q0 q1 (Or.inl (w_ hw 77 rfl)) (w_ hw 58 rfl) (ty := .int) (by decide) rfl rfl (g := (mkF m 7 #[vr r0, .val .null] [(.int 1), (.ref r0)])) rfl rfl (D d13_7)
  have N2 := Fr.snoc X2 N0 ge0
  have k2 := K0.wr W2 (Or.inl (List.mem_of_getElem? (i := 0) rfl))
  have v2 := q0.same W2
  have f3 := (q2.other W2 (Or.inr (sn29 hw)))
  obtain ⟨T4, X4, e4, st4⟩ := gF X2 hx hZ hown (w_ hw 79 rfl) Via.refl e2 f3 (g := (mkF m 13 #[vr r0, .val .null] [(.ref r0), .null, (.ref r0)])) rfl rfl (D d13_13)
  have f5 := (q3.other W2 (Or.inr (sn30 hw)))
  obtain ⟨T6, X6, e6, st6⟩ := gF X4 hx hZ hown (w_ hw 92 rfl) Via.refl e4 f5 (g := (mkF m 17 #[vr r0, .val .null] [(.ref r0), (.ref de), .null, (.ref r0)])) rfl rfl (D d13_17)
  have f7 := (q1.wr W2)
  obtain ⟨v8, T8, L8, X8, Q8, st8⟩ := kP (y := y15) (z := y12) (z' := y13) X6 hx hZ hown (t14 hw SB0 r0 (O0.keep k2 hws) f7 f5 f3 v2 ge0) f7 (w_ hw 94 rfl) (w_ hw 95 rfl) (w_ hw 96 rfl) (w_ hw 84 rfl) rfl (w_ hw 59 rfl) (w_ hw 98 rfl) e6 (g := (mkF m 20 #[vr r0, .val .null] [(.int 0), (.ref de), .null, (.ref r0)])) rfl hml rfl (argsL := [.null, (.ref de), (.int 0)]) (rest := []) (lenOf pd8 rfl) rfl rfl (W := 0) rfl (D d13_20)
  obtain ⟨h8, e8⟩ : ∃ z, T8.heap = z := ⟨_, rfl⟩
  rw [e8] at Q8
  obtain ⟨b8_0, rfl, M8, K8, y8_0, F8_0, F8_1, F8_2, F8_3, F8_4⟩ := Q8
  have N8 := N2.app M8
  have z8_b8_0 := Nat.le_trans k2.1 y8_0
  have k8 := k2.trans K8 (allS (Or.inl (List.mem_of_getElem? (i := 0) rfl)) all0)
  refine ⟨(some (.int 1)), T8, _, _, _, X8, (fun hh => by cases hh), (by rw [e8]; exact ⟨b8_0, rfl, N8, k8, z8_b8_0, F8_0, F8_1, F8_2, F8_3, F8_4⟩), (by decide), (by decide), fun fs hr => pre0 _ ?_⟩
  show SA p e below s₁ m 0 #[vr r0, .val .null] [] _
  refine XS.aloadN X0.here hx rfl (D d13_0) rfl rfl ?_
  refine XS.dup X0.here hx rfl (D d13_1) rfl rfl ?_
  refine st1 _ ?_
  refine XS.iconst X1.here hx rfl (D d13_5) ?_
  refine XS.iadd X1.here hx rfl (D d13_6) rfl ?_
  refine st2 _ ?_
  refine XS.aloadN X2.here hx rfl (D d13_10) rfl rfl ?_
  refine XS.aloadN X2.here hx rfl (D d13_11) rfl rfl ?_
  refine XS.aloadN X2.here hx rfl (D d13_12) rfl rfl ?_
  refine st4 _ ?_
  refine XS.aloadN X4.here hx rfl (D d13_16) rfl rfl ?_
  refine st6 _ ?_
  refine st8 _ ?_
  refine XS.iconst X8.here hx rfl (D d13_23) ?_
  show SA p e below T8 m 24 #[vr r0, .val .null] [(.int 1)] _
  exact retN X8 hx (t := .boolean) hrt (by simp) (D d13_24) hr
theorem pd9 : parseMethodDescriptor "(Ljava/lang/Object;)Z" = some ⟨[(.object "java/lang/Object")], some .boolean⟩ := by decide +kernel
theorem iw0 {a0 Z} (hw : HW a0 Z) : IFW a0 Z "java/util/ArrayList" y12 y13 B13 2 (some .boolean) := ⟨(w_ hw 82 rfl), (w_ hw 84 rfl), (w_ hw 85 rfl), (w_ hw 86 rfl), (w_ hw 87 rfl), (w_ hw 88 rfl), (w_ hw 59 rfl), (w_ hw 89 rfl)⟩
theorem d9_15 : decode B9 15 = .ok (.pop, 1) := by decide +kernel
theorem d9_16 : decode B9 16 = .ok (.iload_n 0, 1) := by decide +kernel
theorem d9_17 : decode B9 17 = .ok (.iconst 2, 1) := by decide +kernel
theorem d9_18 : decode B9 18 = .ok (.if_icmp .lt 11, 3) := by decide +kernel
theorem d9_21 : decode B9 21 = .ok (.aload_n 1, 1) := by decide +kernel
theorem d9_22 : decode B9 22 = .ok (.aconst_null, 1) := by decide +kernel
theorem d9_23 : decode B9 23 = .ok (.invokeinterface 41 2, 5) := by decide +kernel
def Q16 (Z : State) (cv : Int32) (de ca : Addr) (r0 r1 : Addr) (h0 : Heap) (n0 : Nat) (v : Option Value) (h : Heap) (L : List Loc) : Prop := v = none ∧ Fr n0 L ∧ Keep h0 h [r1, r0] ∧ ALen Z h r1 (.object "java/lang/Object") (10 : Int32) ∧ P14 Z h r0 (.int 2) ∧ P15 Z h r0 (.ref r1) ∧ P16 Z h r0 (.int 2)
/-- ArrayList.add#1 -/
theorem t16 (hw : HW a0 Z) (SB0 : SB Z cv de ca) (r0 r1 : Addr) (O0 : OL Z n0 h0) (q0 : ALen Z h0 r1 (.object "java/lang/Object") (10 : Int32)) (q1 : E_4 Z h0 r1) (q2 : E_3 Z h0 r0) (q3 : P14 Z h0 r0 (.int 2)) (q4 : P15 Z h0 r0 (.ref r1)) (q5 : P16 Z h0 r0 (.int 1)) (ge0 : n0 ≤ r1) (ge1 : n0 ≤ r0) : CT l Z y15 B14 4 none ⟨0, 0, 0, 0⟩ #[(.ref r0), .null, (.ref r1), (.int 1)] h0 (Q16 Z cv de ca r0 r1 h0 n0) := by
  refine ct_intro ?_
  intro p e s m below meth c s₁ E0 hx D hml hown hnm hrt X0 e0 hZ hE
  have Z0 := O0.le
  have K0 := Keep.refl h0 [r1, r0]
  have hws : ∀ w ∈ ([r1, r0] : List Addr), n0 ≤ w := (allS ge0 (allS ge1 all0))
  have N0 := Fr.nil n0
  have pre0 := ctp #[vr r0, .val .null, vr r1, vi 1] hE
  obtain ⟨_, Ar1, S1, M1⟩ := id q0
  obtain ⟨_, Ar2, S2, M2⟩ := id q0
  obtain ⟨T3, h3, X3, e3, W3, st3⟩ := stR X0 hx hZ e0 Ar2 (j := (1 : Int32)) (inb_of S2 ⟨by decide, by decide⟩) rfl (Or.inl rfl) (g := (mkF m 14 #[vr r0, .val .null, vr r1, vi 1] [.null, (.int 1), (.ref r1)])) rfl rfl (D d14_14)
  have N3 := Fr.snoc X3 N0 ge0
  have k3 := K0.wr W3 (Or.inl (List.mem_of_getElem? (i := 0) rfl))
  have f5 := (q2.wr W3)
  have f6 := (q1.wr W3)
  have ne4 : r0 ≠ r1 := Exa.ne f5 f6 (by decide)
  have f7 := (q5.other W3 (Or.inl ne4))
  obtain ⟨T8, h8, X8, e8, W8, st8⟩ := putF X3 hx hZ hown (host := "") (Or.inl (w_ hw 92 rfl)) Via.refl e3 f7 f5 (Or.inl (w_ hw 93 rfl)) (w_ hw 58 rfl) (ty := .int) (by decide) rfl rfl (g := (mkF m 19 #[vr r0, .val .null, vr r1, vi 1] [(.int 2), (.ref r0)])) rfl rfl (D d14_19)
  have N8 := Fr.snoc X8 N3 ge1
  have k8 := k3.wr W8 (Or.inl (List.mem_of_getElem? (i := 1) rfl))
  have v8 := f7.same W8
  have f9 := ((q0.wr W3).wr W8)
  have f10 := ((q3.other W3 (Or.inl ne4)).other W8 (Or.inr (Ne.symm (sn30 hw))))
  have f11 := ((q4.other W3 (Or.inl ne4)).other W8 (Or.inr (Ne.symm (sn31 hw))))
  refine ⟨none, T8, _, _, _, X8, fun _ => rfl, (by rw [e8]; exact ⟨rfl, N8, k8, f9, f10, f11, v8⟩), (by decide), (by decide), fun fs hr => pre0 _ ?_⟩
  show SA p e below s₁ m 0 #[vr r0, .val .null, vr r1, vi 1] [] _
  refine XS.iloadN X0.here hx rfl (D d14_0) rfl ?_
  refine XS.aloadN X0.here hx rfl (D d14_1) rfl rfl ?_
  refine X0.arraylength hx (by rw [e0]; exact Ar1.1) (State.isArrayOf_alike hZ.alike Ar1.2.1) (g := (mkF m 2 #[vr r0, .val .null, vr r1, vi 1] [(.ref r1), (.int 1)])) rfl rfl (D d14_2) _ ?_
  rw [len_of S1 M1]
  show SA p e below s₁ m 3 #[vr r0, .val .null, vr r1, vi 1] [(.int 10), (.int 1)] _
  refine XS.icmpYes X0.here hx rfl (pc0 := 3) (pc' := 11) rfl (D d14_3) rfl (feq (by decide : ¬ ((1 : Int32) = (10 : Int32)))).2 (by decide) (by decide) ?_
  refine XS.aloadN X0.here hx rfl (D d14_11) rfl rfl ?_
  refine XS.iloadN X0.here hx rfl (D d14_12) rfl ?_
  refine XS.aloadN X0.here hx rfl (D d14_13) rfl rfl ?_
  refine st3 _ ?_
  refine XS.aloadN X3.here hx rfl (D d14_15) rfl rfl ?_
  refine XS.iloadN X3.here hx rfl (D d14_16) rfl ?_
  refine XS.iconst X3.here hx rfl (D d14_17) ?_
  refine XS.iadd X3.here hx rfl (D d14_18) rfl ?_
  refine st8 _ ?_
  show SA p e below T8 m 22 #[vr r0, .val .null, vr r1, vi 1] [] _
  exact X8.returnOut hx hrt (D d14_22) hr
def Q17 (Z : State) (cv : Int32) (de ca : Addr) (r0 r1 : Addr) (h0 : Heap) (n0 : Nat) (v : Option Value) (h : Heap) (L : List Loc) : Prop := v = (some (.int 1)) ∧ Fr n0 L ∧ Keep h0 h [r0, r1] ∧ P14 Z h r0 (.int 2) ∧ P15 Z h r0 (.ref r1) ∧ P16 Z h r0 (.int 2) ∧ ALen Z h r1 (.object "java/lang/Object") (10 : Int32)
/-- ArrayList.add#1 -/
theorem t17 (hw : HW a0 Z) (SB0 : SB Z cv de ca) (r0 r1 : Addr) (O0 : OL Z n0 h0) (q0 : P14 Z h0 r0 (.int 1)) (q1 : E_3 Z h0 r0) (q2 : P15 Z h0 r0 (.ref r1)) (q3 : P16 Z h0 r0 (.int 1)) (q4 : ALen Z h0 r1 (.object "java/lang/Object") (10 : Int32)) (q5 : E_4 Z h0 r1) (ge0 : n0 ≤ r0) (ge1 : n0 ≤ r1) : CT l Z y13 B13 2 (some .boolean) ⟨1, 0, 0, 15⟩ #[(.ref r0), .null] h0 (Q17 Z cv de ca r0 r1 h0 n0) := by
  refine ct_intro ?_
  intro p e s m below meth c s₁ E0 hx D hml hown hnm hrt X0 e0 hZ hE
  have Z0 := O0.le
  have K0 := Keep.refl h0 [r0, r1]
  have hws : ∀ w ∈ ([r0, r1] : List Addr), n0 ≤ w := (allS ge0 (allS ge1 all0))
  have N0 := Fr.nil n0
  have pre0 := ctp #[vr r0, .val .null] hE
  obtain ⟨T1, X1, e1, st1⟩ := gF X0 hx hZ hown (w_ hw 90 rfl) (Via.of (w_ hw 91 rfl)) e0 q0 (g := (mkF m 2 #[vr r0, .val .null] [(.ref r0), (.ref r0)])) rfl rfl (D d13_2)
  obtain ⟨T2, h2, X2, e2, W2, st2⟩ := putF X1 hx hZ hown (host := "") (Or.inl (w_ hw 90 rfl)) (Via.of (w_ hw 91 rfl)) e1 q0 q1 (Or.inl (w_ hw 77 rfl)) (w_ hw 58 rfl) (ty := .int) (by decide) rfl rfl (g := (mkF m 7 #[vr r0, .val .null] [(.int 2), (.ref r0)])) rfl rfl (D d13_7)
  have N2 := Fr.snoc X2 N0 ge0
  have k2 := K0.wr W2 (Or.inl (List.mem_of_getElem? (i := 0) rfl))
  have v2 := q0.same W2
  have f3 := (q2.other W2 (Or.inr (sn29 hw)))
  obtain ⟨T4, X4, e4, st4⟩ := gF X2 hx hZ hown (w_ hw 79 rfl) Via.refl e2 f3 (g := (mkF m 13 #[vr r0, .val .null] [(.ref r0), .null, (.ref r0)])) rfl rfl (D d13_13)
  have f5 := (q3.other W2 (Or.inr (sn30 hw)))
  obtain ⟨T6, X6, e6, st6⟩ := gF X4 hx hZ hown (w_ hw 92 rfl) Via.refl e4 f5 (g := (mkF m 17 #[vr r0, .val .null] [(.ref r0), (.ref r1), .null, (.ref r0)])) rfl rfl (D d13_17)
  have f7 := (q4.wr W2)
  have f8 := (q5.wr W2)
  have f9 := (q1.wr W2)
  obtain ⟨v10, T10, L10, X10, Q10, st10⟩ := kP (y := y15) (z := y12) (z' := y13) X6 hx hZ hown (t16 hw SB0 r0 r1 (O0.keep k2 hws) f7 f8 f9 v2 f3 f5 ge1 ge0) f9 (w_ hw 94 rfl) (w_ hw 95 rfl) (w_ hw 96 rfl) (w_ hw 84 rfl) rfl (w_ hw 59 rfl) (w_ hw 98 rfl) e6 (g := (mkF m 20 #[vr r0, .val .null] [(.int 1), (.ref r1), .null, (.ref r0)])) rfl hml rfl (argsL := [.null, (.ref r1), (.int 1)]) (rest := []) (lenOf pd8 rfl) rfl rfl (W := 0) rfl (D d13_20)
  obtain ⟨h10, e10⟩ : ∃ z, T10.heap = z := ⟨_, rfl⟩
  rw [e10] at Q10
  obtain ⟨rfl, M10, K10, F10_0, F10_1, F10_2, F10_3⟩ := Q10
  have N10 := N2.app M10
  have k10 := k2.trans K10 (allS (Or.inl (List.mem_of_getElem? (i := 1) rfl)) (allS (Or.inl (List.mem_of_getElem? (i := 0) rfl)) all0))
  refine ⟨(some (.int 1)), T10, _, _, _, X10, (fun hh => by cases hh), (by rw [e10]; exact ⟨rfl, N10, k10, F10_1, F10_2, F10_3, F10_0⟩), (by decide), (by decide), fun fs hr => pre0 _ ?_⟩
  show SA p e below s₁ m 0 #[vr r0, .val .null] [] _
  refine XS.aloadN X0.here hx rfl (D d13_0) rfl rfl ?_
  refine XS.dup X0.here hx rfl (D d13_1) rfl rfl ?_
  refine st1 _ ?_
  refine XS.iconst X1.here hx rfl (D d13_5) ?_
  refine XS.iadd X1.here hx rfl (D d13_6) rfl ?_
  refine st2 _ ?_
  refine XS.aloadN X2.here hx rfl (D d13_10) rfl rfl ?_
  refine XS.aloadN X2.here hx rfl (D d13_11) rfl rfl ?_
  refine XS.aloadN X2.here hx rfl (D d13_12) rfl rfl ?_
  refine st4 _ ?_
  refine XS.aloadN X4.here hx rfl (D d13_16) rfl rfl ?_
  refine st6 _ ?_
  refine st10 _ ?_
  refine XS.iconst X10.here hx rfl (D d13_23) ?_
  show SA p e below T10 m 24 #[vr r0, .val .null] [(.int 1)] _
  exact retN X10 hx (t := .boolean) hrt (by simp) (D d13_24) hr
theorem d9_28 : decode B9 28 = .ok (.pop, 1) := by decide +kernel
theorem d9_29 : decode B9 29 = .ok (.iload_n 0, 1) := by decide +kernel
theorem d9_30 : decode B9 30 = .ok (.iconst 3, 1) := by decide +kernel
theorem d9_31 : decode B9 31 = .ok (.if_icmp .lt 11, 3) := by decide +kernel
theorem d9_34 : decode B9 34 = .ok (.aload_n 1, 1) := by decide +kernel
theorem d9_35 : decode B9 35 = .ok (.aconst_null, 1) := by decide +kernel
theorem d9_36 : decode B9 36 = .ok (.invokeinterface 41 2, 5) := by decide +kernel
def Q18 (Z : State) (cv : Int32) (de ca : Addr) (r0 r1 : Addr) (h0 : Heap) (n0 : Nat) (v : Option Value) (h : Heap) (L : List Loc) : Prop := v = none ∧ Fr n0 L ∧ Keep h0 h [r1, r0] ∧ ALen Z h r1 (.object "java/lang/Object") (10 : Int32) ∧ P14 Z h r0 (.int 3) ∧ P15 Z h r0 (.ref r1) ∧ P16 Z h r0 (.int 3)
/-- ArrayList.add#2 -/
theorem t18 (hw : HW a0 Z) (SB0 : SB Z cv de ca) (r0 r1 : Addr) (O0 : OL Z n0 h0) (q0 : ALen Z h0 r1 (.object "java/lang/Object") (10 : Int32)) (q1 : E_4 Z h0 r1) (q2 : E_3 Z h0 r0) (q3 : P14 Z h0 r0 (.int 3)) (q4 : P15 Z h0 r0 (.ref r1)) (q5 : P16 Z h0 r0 (.int 2)) (ge0 : n0 ≤ r1) (ge1 : n0 ≤ r0) : CT l Z y15 B14 4 none ⟨0, 0, 0, 0⟩ #[(.ref r0), .null, (.ref r1), (.int 2)] h0 (Q18 Z cv de ca r0 r1 h0 n0) := by
  refine ct_intro ?_
  intro p e s m below meth c s₁ E0 hx D hml hown hnm hrt X0 e0 hZ hE
  have Z0 := O0.le
  have K0 := Keep.refl h0 [r1, r0]
  have hws : ∀ w ∈ ([r1, r0] : List Addr), n0 ≤ w := (allS ge0 (allS ge1 all0))
  have N0 := Fr.nil n0
  have pre0 := ctp #[vr r0, .val .null, vr r1, vi 2] hE
  obtain ⟨_, Ar1, S1, M1⟩ := id q0
  obtain ⟨_, Ar2, S2, M2⟩ := id q0
  obtain ⟨T3, h3, X3, e3, W3, st3⟩ := stR X0 hx hZ e0 Ar2 (j := (2 : Int32)) (inb_of S2 ⟨by decide, by decide⟩) rfl (Or.inl rfl) (g := (mkF m 14 #[vr r0, .val .null, vr r1, vi 2] [.null, (.int 2), (.ref r1)])) rfl rfl (D d14_14)
  have N3 := Fr.snoc X3 N0 ge0
  have k3 := K0.wr W3 (Or.inl (List.mem_of_getElem? (i := 0) rfl))
  have f5 := (q2.wr W3)
  have f6 := (q1.wr W3)
  have ne4 : r0 ≠ r1 := Exa.ne f5 f6 (by decide)
  have f7 := (q5.other W3 (Or.inl ne4))
  obtain ⟨T8, h8, X8, e8, W8, st8⟩ := putF X3 hx hZ hown (host := "") (Or.inl (w_ hw 92 rfl)) Via.refl e3 f7 f5 (Or.inl (w_ hw 93 rfl)) (w_ hw 58 rfl) (ty := .int) (by decide) rfl rfl (g := (mkF m 19 #[vr r0, .val .null, vr r1, vi 2] [(.int 3), (.ref r0)])) rfl rfl (D d14_19)
  have N8 := Fr.snoc X8 N3 ge1
  have k8 := k3.wr W8 (Or.inl (List.mem_of_getElem? (i := 1) rfl))
  have v8 := f7.same W8
  have f9 := ((q0.wr W3).wr W8)
  have f10 := ((q3.other W3 (Or.inl ne4)).other W8 (Or.inr (Ne.symm (sn30 hw))))
  have f11 := ((q4.other W3 (Or.inl ne4)).other W8 (Or.inr (Ne.symm (sn31 hw))))
  refine ⟨none, T8, _, _, _, X8, fun _ => rfl, (by rw [e8]; exact ⟨rfl, N8, k8, f9, f10, f11, v8⟩), (by decide), (by decide), fun fs hr => pre0 _ ?_⟩
  show SA p e below s₁ m 0 #[vr r0, .val .null, vr r1, vi 2] [] _
  refine XS.iloadN X0.here hx rfl (D d14_0) rfl ?_
  refine XS.aloadN X0.here hx rfl (D d14_1) rfl rfl ?_
  refine X0.arraylength hx (by rw [e0]; exact Ar1.1) (State.isArrayOf_alike hZ.alike Ar1.2.1) (g := (mkF m 2 #[vr r0, .val .null, vr r1, vi 2] [(.ref r1), (.int 2)])) rfl rfl (D d14_2) _ ?_
  rw [len_of S1 M1]
  show SA p e below s₁ m 3 #[vr r0, .val .null, vr r1, vi 2] [(.int 10), (.int 2)] _
  refine XS.icmpYes X0.here hx rfl (pc0 := 3) (pc' := 11) rfl (D d14_3) rfl (feq (by decide : ¬ ((2 : Int32) = (10 : Int32)))).2 (by decide) (by decide) ?_
  refine XS.aloadN X0.here hx rfl (D d14_11) rfl rfl ?_
  refine XS.iloadN X0.here hx rfl (D d14_12) rfl ?_
  refine XS.aloadN X0.here hx rfl (D d14_13) rfl rfl ?_
  refine st3 _ ?_
  refine XS.aloadN X3.here hx rfl (D d14_15) rfl rfl ?_
  refine XS.iloadN X3.here hx rfl (D d14_16) rfl ?_
  refine XS.iconst X3.here hx rfl (D d14_17) ?_
  refine XS.iadd X3.here hx rfl (D d14_18) rfl ?_
  refine st8 _ ?_
  show SA p e below T8 m 22 #[vr r0, .val .null, vr r1, vi 2] [] _
  exact X8.returnOut hx hrt (D d14_22) hr
def Q19 (Z : State) (cv : Int32) (de ca : Addr) (r0 r1 : Addr) (h0 : Heap) (n0 : Nat) (v : Option Value) (h : Heap) (L : List Loc) : Prop := v = (some (.int 1)) ∧ Fr n0 L ∧ Keep h0 h [r0, r1] ∧ P14 Z h r0 (.int 3) ∧ P15 Z h r0 (.ref r1) ∧ P16 Z h r0 (.int 3) ∧ ALen Z h r1 (.object "java/lang/Object") (10 : Int32)
/-- ArrayList.add#2 -/
theorem t19 (hw : HW a0 Z) (SB0 : SB Z cv de ca) (r0 r1 : Addr) (O0 : OL Z n0 h0) (q0 : P14 Z h0 r0 (.int 2)) (q1 : E_3 Z h0 r0) (q2 : P15 Z h0 r0 (.ref r1)) (q3 : P16 Z h0 r0 (.int 2)) (q4 : ALen Z h0 r1 (.object "java/lang/Object") (10 : Int32)) (q5 : E_4 Z h0 r1) (ge0 : n0 ≤ r0) (ge1 : n0 ≤ r1) : CT l Z y13 B13 2 (some .boolean) ⟨1, 0, 0, 15⟩ #[(.ref r0), .null] h0 (Q19 Z cv de ca r0 r1 h0 n0) := by
  refine ct_intro ?_
  intro p e s m below meth c s₁ E0 hx D hml hown hnm hrt X0 e0 hZ hE
  have Z0 := O0.le
  have K0 := Keep.refl h0 [r0, r1]
  have hws : ∀ w ∈ ([r0, r1] : List Addr), n0 ≤ w := (allS ge0 (allS ge1 all0))
  have N0 := Fr.nil n0
  have pre0 := ctp #[vr r0, .val .null] hE
  obtain ⟨T1, X1, e1, st1⟩ := gF X0 hx hZ hown (w_ hw 90 rfl) (Via.of (w_ hw 91 rfl)) e0 q0 (g := (mkF m 2 #[vr r0, .val .null] [(.ref r0), (.ref r0)])) rfl rfl (D d13_2)
  obtain ⟨T2, h2, X2, e2, W2, st2⟩ := putF X1 hx hZ hown (host := "") (Or.inl (w_ hw 90 rfl)) (Via.of (w_ hw 91 rfl)) e1 q0 q1 (Or.inl (w_ hw 77 rfl)) (w_ hw 58 rfl) (ty := .int) (by decide) rfl rfl (g := (mkF m 7 #[vr r0, .val .null] [(.int 3), (.ref r0)])) rfl rfl (D d13_7)
  have N2 := Fr.snoc X2 N0 ge0
  have k2 := K0.wr W2 (Or.inl (List.mem_of_getElem? (i := 0) rfl))
  have v2 := q0.same W2
  have f3 := (q2.other W2 (Or.inr (sn29 hw)))
  obtain ⟨T4, X4, e4, st4⟩ := gF X2 hx hZ hown (w_ hw 79 rfl) Via.refl e2 f3 (g := (mkF m 13 #[vr r0, .val .null] [(.ref r0), .null, (.ref r0)])) rfl rfl (D d13_13)
  have f5 := (q3.other W2 (Or.inr (sn30 hw)))
  obtain ⟨T6, X6, e6, st6⟩ := gF X4 hx hZ hown (w_ hw 92 rfl) Via.refl e4 f5 (g := (mkF m 17 #[vr r0, .val .null] [(.ref r0), (.ref r1), .null, (.ref r0)])) rfl rfl (D d13_17)
  have f7 := (q4.wr W2)
  have f8 := (q5.wr W2)
  have f9 := (q1.wr W2)
  obtain ⟨v10, T10, L10, X10, Q10, st10⟩ := kP (y := y15) (z := y12) (z' := y13) X6 hx hZ hown (t18 hw SB0 r0 r1 (O0.keep k2 hws) f7 f8 f9 v2 f3 f5 ge1 ge0) f9 (w_ hw 94 rfl) (w_ hw 95 rfl) (w_ hw 96 rfl) (w_ hw 84 rfl) rfl (w_ hw 59 rfl) (w_ hw 98 rfl) e6 (g := (mkF m 20 #[vr r0, .val .null] [(.int 2), (.ref r1), .null, (.ref r0)])) rfl hml rfl (argsL := [.null, (.ref r1), (.int 2)]) (rest := []) (lenOf pd8 rfl) rfl rfl (W := 0) rfl (D d13_20)
  obtain ⟨h10, e10⟩ : ∃ z, T10.heap = z := ⟨_, rfl⟩
  rw [e10] at Q10
  obtain ⟨rfl, M10, K10, F10_0, F10_1, F10_2, F10_3⟩ := Q10
  have N10 := N2.app M10
  have k10 := k2.trans K10 (allS (Or.inl (List.mem_of_getElem? (i := 1) rfl)) (allS (Or.inl (List.mem_of_getElem? (i := 0) rfl)) all0))
  refine ⟨(some (.int 1)), T10, _, _, _, X10, (fun hh => by cases hh), (by rw [e10]; exact ⟨rfl, N10, k10, F10_1, F10_2, F10_3, F10_0⟩), (by decide), (by decide), fun fs hr => pre0 _ ?_⟩
  show SA p e below s₁ m 0 #[vr r0, .val .null] [] _
  refine XS.aloadN X0.here hx rfl (D d13_0) rfl rfl ?_
  refine XS.dup X0.here hx rfl (D d13_1) rfl rfl ?_
  refine st1 _ ?_
  refine XS.iconst X1.here hx rfl (D d13_5) ?_
  refine XS.iadd X1.here hx rfl (D d13_6) rfl ?_
  refine st2 _ ?_
  refine XS.aloadN X2.here hx rfl (D d13_10) rfl rfl ?_
  refine XS.aloadN X2.here hx rfl (D d13_11) rfl rfl ?_
  refine XS.aloadN X2.here hx rfl (D d13_12) rfl rfl ?_
  refine st4 _ ?_
  refine XS.aloadN X4.here hx rfl (D d13_16) rfl rfl ?_
  refine st6 _ ?_
  refine st10 _ ?_
  refine XS.iconst X10.here hx rfl (D d13_23) ?_
  show SA p e below T10 m 24 #[vr r0, .val .null] [(.int 1)] _
  exact retN X10 hx (t := .boolean) hrt (by simp) (D d13_24) hr
theorem d9_41 : decode B9 41 = .ok (.pop, 1) := by decide +kernel
theorem d9_42 : decode B9 42 = .ok (.iload_n 0, 1) := by decide +kernel
theorem d9_43 : decode B9 43 = .ok (.iconst 4, 1) := by decide +kernel
theorem d9_44 : decode B9 44 = .ok (.if_icmp .lt 11, 3) := by decide +kernel
theorem d9_47 : decode B9 47 = .ok (.aload_n 1, 1) := by decide +kernel
theorem d9_48 : decode B9 48 = .ok (.aconst_null, 1) := by decide +kernel
theorem d9_49 : decode B9 49 = .ok (.invokeinterface 41 2, 5) := by decide +kernel
def Q20 (Z : State) (cv : Int32) (de ca : Addr) (r0 r1 : Addr) (h0 : Heap) (n0 : Nat) (v : Option Value) (h : Heap) (L : List Loc) : Prop := v = none ∧ Fr n0 L ∧ Keep h0 h [r1, r0] ∧ ALen Z h r1 (.object "java/lang/Object") (10 : Int32) ∧ P14 Z h r0 (.int 4) ∧ P15 Z h r0 (.ref r1) ∧ P16 Z h r0 (.int 4)
/-- ArrayList.add#3 -/
theorem t20 (hw : HW a0 Z) (SB0 : SB Z cv de ca) (r0 r1 : Addr) (O0 : OL Z n0 h0) (q0 : ALen Z h0 r1 (.object "java/lang/Object") (10 : Int32)) (q1 : E_4 Z h0 r1) (q2 : E_3 Z h0 r0) (q3 : P14 Z h0 r0 (.int 4)) (q4 : P15 Z h0 r0 (.ref r1)) (q5 : P16 Z h0 r0 (.int 3)) (ge0 : n0 ≤ r1) (ge1 : n0 ≤ r0) : CT l Z y15 B14 4 none ⟨0, 0, 0, 0⟩ #[(.ref r0), .null, (.ref r1), (.int 3)] h0 (Q20 Z cv de ca r0 r1 h0 n0) := by
  refine ct_intro ?_
  intro p e s m below meth c s₁ E0 hx D hml hown hnm hrt X0 e0 hZ hE
  have Z0 := O0.le
  have K0 := Keep.refl h0 [r1, r0]
  have hws : ∀ w ∈ ([r1, r0] : List Addr), n0 ≤ w := (allS ge0 (allS ge1 all0))
  have N0 := Fr.nil n0
  have pre0 := ctp #[vr r0, .val .null, vr r1, vi 3] hE
  obtain ⟨_, Ar1, S1, M1⟩ := id q0
  obtain ⟨_, Ar2, S2, M2⟩ := id q0
  obtain ⟨T3, h3, X3, e3, W3, st3⟩ := stR X0 hx hZ e0 Ar2 (j := (3 : Int32)) (inb_of S2 ⟨by decide, by decide⟩) rfl (Or.inl rfl) (g := (mkF m 14 #[vr r0, .val .null, vr r1, vi 3] [.null, (.int 3), (.ref r1)])) rfl rfl (D d14_14)
  have N3 := Fr.snoc X3 N0 ge0
  have k3 := K0.wr W3 (Or.inl (List.mem_of_getElem? (i := 0) rfl))
  have f5 := (q2.wr W3)
  have f6 := (q1.wr W3)
  have ne4 : r0 ≠ r1 := Exa.ne f5 f6 (by decide)
  have f7 := (q5.other W3 (Or.inl ne4))
  obtain ⟨T8, h8, X8, e8, W8, st8⟩ := putF X3 hx hZ hown (host := "") (Or.inl (w_ hw 92 rfl)) Via.refl e3 f7 f5 (Or.inl (w_ hw 93 rfl)) (w_ hw 58 rfl) (ty := .int) (by decide) rfl rfl (g := (mkF m 19 #[vr r0, .val .null, vr r1, vi 3] [(.int 4), (.ref r0)])) rfl rfl (D d14_19)
  have N8 := Fr.snoc X8 N3 ge1
  have k8 := k3.wr W8 (Or.inl (List.mem_of_getElem? (i := 1) rfl))
  have v8 := f7.same W8
  have f9 := ((q0.wr W3).wr W8)
  have f10 := ((q3.other W3 (Or.inl ne4)).other W8 (Or.inr (Ne.symm (sn30 hw))))
  have f11 := ((q4.other W3 (Or.inl ne4)).other W8 (Or.inr (Ne.symm (sn31 hw))))
  refine ⟨none, T8, _, _, _, X8, fun _ => rfl, (by rw [e8]; exact ⟨rfl, N8, k8, f9, f10, f11, v8⟩), (by decide), (by decide), fun fs hr => pre0 _ ?_⟩
  show SA p e below s₁ m 0 #[vr r0, .val .null, vr r1, vi 3] [] _
  refine XS.iloadN X0.here hx rfl (D d14_0) rfl ?_
  refine XS.aloadN X0.here hx rfl (D d14_1) rfl rfl ?_
  refine X0.arraylength hx (by rw [e0]; exact Ar1.1) (State.isArrayOf_alike hZ.alike Ar1.2.1) (g := (mkF m 2 #[vr r0, .val .null, vr r1, vi 3] [(.ref r1), (.int 3)])) rfl rfl (D d14_2) _ ?_
  rw [len_of S1 M1]
  show SA p e below s₁ m 3 #[vr r0, .val .null, vr r1, vi 3] [(.int 10), (.int 3)] _
  refine XS.icmpYes X0.here hx rfl (pc0 := 3) (pc' := 11) rfl (D d14_3) rfl (feq (by decide : ¬ ((3 : Int32) = (10 : Int32)))).2 (by decide) (by decide) ?_
  refine XS.aloadN X0.here hx rfl (D d14_11) rfl rfl ?_
  refine XS.iloadN X0.here hx rfl (D d14_12) rfl ?_
  refine XS.aloadN X0.here hx rfl (D d14_13) rfl rfl ?_
  refine st3 _ ?_
  refine XS.aloadN X3.here hx rfl (D d14_15) rfl rfl ?_
  refine XS.iloadN X3.here hx rfl (D d14_16) rfl ?_
  refine XS.iconst X3.here hx rfl (D d14_17) ?_
  refine XS.iadd X3.here hx rfl (D d14_18) rfl ?_
  refine st8 _ ?_
  show SA p e below T8 m 22 #[vr r0, .val .null, vr r1, vi 3] [] _
  exact X8.returnOut hx hrt (D d14_22) hr
def Q21 (Z : State) (cv : Int32) (de ca : Addr) (r0 r1 : Addr) (h0 : Heap) (n0 : Nat) (v : Option Value) (h : Heap) (L : List Loc) : Prop := v = (some (.int 1)) ∧ Fr n0 L ∧ Keep h0 h [r0, r1] ∧ P14 Z h r0 (.int 4) ∧ P15 Z h r0 (.ref r1) ∧ P16 Z h r0 (.int 4) ∧ ALen Z h r1 (.object "java/lang/Object") (10 : Int32)
/-- ArrayList.add#3 -/
theorem t21 (hw : HW a0 Z) (SB0 : SB Z cv de ca) (r0 r1 : Addr) (O0 : OL Z n0 h0) (q0 : P14 Z h0 r0 (.int 3)) (q1 : E_3 Z h0 r0) (q2 : P15 Z h0 r0 (.ref r1)) (q3 : P16 Z h0 r0 (.int 3)) (q4 : ALen Z h0 r1 (.object "java/lang/Object") (10 : Int32)) (q5 : E_4 Z h0 r1) (ge0 : n0 ≤ r0) (ge1 : n0 ≤ r1) : CT l Z y13 B13 2 (some .boolean) ⟨1, 0, 0, 15⟩ #[(.ref r0), .null] h0 (Q21 Z cv de ca r0 r1 h0 n0) := by
  refine ct_intro ?_
  intro p e s m below meth c s₁ E0 hx D hml hown hnm hrt X0 e0 hZ hE
  have Z0 := O0.le
  have K0 := Keep.refl h0 [r0, r1]
  have hws : ∀ w ∈ ([r0, r1] : List Addr), n0 ≤ w := (allS ge0 (allS ge1 all0))
  have N0 := Fr.nil n0
  have pre0 := ctp #[vr r0, .val .null] hE
  obtain ⟨T1, X1, e1, st1⟩ := gF X0 hx hZ hown (w_ hw 90 rfl) (Via.of (w_ hw 91 rfl)) e0 q0 (g := (mkF m 2 #[vr r0, .val .null] [(.ref r0), (.ref r0)])) rfl rfl (D d13_2)
  obtain ⟨T2, h2, X2, e2, W2, st2⟩ := putF X1 hx hZ hown (host := "") (Or.inl (w_ hw 90 rfl)) (Via.of (w_ hw 91 rfl)) e1 q0 q1 (Or.inl (w_ hw 77 rfl)) (w_ hw 58 rfl) (ty := .int) (by decide) rfl rfl (g := (mkF m 7 #[vr r0, .val .null] [(.int 4), (.ref r0)])) rfl rfl (D d13_7)
  have N2 := Fr.snoc X2 N0 ge0
  have k2 := K0.wr W2 (Or.inl (List.mem_of_getElem? (i := 0) rfl))
  have v2 := q0.same W2
  have f3 := (q2.other W2 (Or.inr (sn29 hw)))
  obtain ⟨T4, X4, e4, st4⟩ := gF X2 hx hZ hown (w_ hw 79 rfl) Via.refl e2 f3 (g := (mkF m 13 #[vr r0, .val .null] [(.ref r0), .null, (.ref r0)])) rfl rfl (D d13_13)
  have f5 := (q3.other W2 (Or.inr (sn30 hw)))
  obtain ⟨T6, X6, e6, st6⟩ := gF X4 hx hZ hown (w_ hw 92 rfl) Via.refl e4 f5 (g := (mkF m 17 #[vr r0, .val .null] [(.ref r0), (.ref r1), .null, (.ref r0)])) rfl rfl (D d13_17)
  have f7 := (q4.wr W2)
  have f8 := (q5.wr W2)
  have f9 := (q1.wr W2)
  obtain ⟨v10, T10, L10, X10, Q10, st10⟩ := kP (y := y15) (z := y12) (z' := y13) X6 hx hZ hown (t20 hw SB0 r0 r1 (O0.keep k2 hws) f7 f8 f9 v2 f3 f5 ge1 ge0) f9 (w_ hw 94 rfl) (w_ hw 95 rfl) (w_ hw 96 rfl) (w_ hw 84 rfl) rfl (w_ hw 59 rfl) (w_ hw 98 rfl) e6 (g := (mkF m 20 #[vr r0, .val .null] [(.int 3), (.ref r1), .null, (.ref r0)])) rfl hml rfl (argsL := [.null, (.ref r1), (.int 3)]) (rest := []) (lenOf pd8 rfl) rfl rfl (W := 0) rfl (D d13_20)
  obtain ⟨h10, e10⟩ : ∃ z, T10.heap = z := ⟨_, rfl⟩
  rw [e10] at Q10
  obtain ⟨rfl, M10, K10, F10_0, F10_1, F10_2, F10_3⟩ := Q10
  have N10 := N2.app M10
  have k10 := k2.trans K10 (allS (Or.inl (List.mem_of_getElem? (i := 1) rfl)) (allS (Or.inl (List.mem_of_getElem? (i := 0) rfl)) all0))
  refine ⟨(some (.int 1)), T10, _, _, _, X10, (fun hh => by cases hh), (by rw [e10]; exact ⟨rfl, N10, k10, F10_1, F10_2, F10_3, F10_0⟩), (by decide), (by decide), fun fs hr => pre0 _ ?_⟩
  show SA p e below s₁ m 0 #[vr r0, .val .null] [] _
  refine XS.aloadN X0.here hx rfl (D d13_0) rfl rfl ?_
  refine XS.dup X0.here hx rfl (D d13_1) rfl rfl ?_
  refine st1 _ ?_
  refine XS.iconst X1.here hx rfl (D d13_5) ?_
  refine XS.iadd X1.here hx rfl (D d13_6) rfl ?_
  refine st2 _ ?_
  refine XS.aloadN X2.here hx rfl (D d13_10) rfl rfl ?_
  refine XS.aloadN X2.here hx rfl (D d13_11) rfl rfl ?_
  refine XS.aloadN X2.here hx rfl (D d13_12) rfl rfl ?_
  refine st4 _ ?_
  refine XS.aloadN X4.here hx rfl (D d13_16) rfl rfl ?_
  refine st6 _ ?_
  refine st10 _ ?_
  refine XS.iconst X10.here hx rfl (D d13_23) ?_
  show SA p e below T10 m 24 #[vr r0, .val .null] [(.int 1)] _
  exact retN X10 hx (t := .boolean) hrt (by simp) (D d13_24) hr
theorem d9_54 : decode B9 54 = .ok (.pop, 1) := by decide +kernel
theorem d9_55 : decode B9 55 = .ok (.aload_n 1, 1) := by decide +kernel
theorem d9_56 : decode B9 56 = .ok (.areturn, 1) := by decide +kernel
abbrev y16 : MethodName := ⟨"com/example/derivant/derivant/model/NextStateRelationIsFirstPinLaw", "states", "(I)Ljava/util/List;"⟩
def Q22 (Z : State) (cv : Int32) (de ca : Addr)  (h0 : Heap) (n0 : Nat) (v : Option Value) (h : Heap) (L : List Loc) : Prop := ∃ (b1 b4_0 : Addr), v = (some (.ref b1)) ∧ Fr n0 L ∧ Keep h0 h [] ∧ h0.size ≤ b1 ∧ h0.size ≤ b4_0 ∧ E_3 Z h b1 ∧ P14 Z h b1 (.int 4) ∧ P15 Z h b1 (.ref b4_0) ∧ P16 Z h b1 (.int 4) ∧ E_4 Z h b4_0 ∧ ALen Z h b4_0 (.object "java/lang/Object") (10 : Int32)
/-- states#4 -/
theorem t22 (hw : HW a0 Z) (SB0 : SB Z cv de ca)  (O0 : OL Z n0 h0)   : CT l Z y16 B9 2 (some (.object "java/util/List")) ⟨5, 2, 13, 69⟩ #[(.int 4)] h0 (Q22 Z cv de ca  h0 n0) := by
  refine ct_intro ?_
  intro p e s m below meth c s₁ E0 hx D hml hown hnm hrt X0 e0 hZ hE
  have Z0 := O0.le
  have K0 := Keep.refl h0 []
  have hws : ∀ w ∈ ([] : List Addr), n0 ≤ w := all0
  have N0 := Fr.nil n0
  have pre0 := ctp #[vi 4, un] hE
  obtain ⟨T1, h1, X1, e1, E1, A1, D1, -, st1⟩ := newO X0 hx hZ hown (w_ hw 57 rfl) (w_ hw 58 rfl) (w_ hw 59 rfl) e0 (g := (mkF m 0 #[vi 4, un] [])) rfl (D d9_0) (by decide) (by decide)
  obtain ⟨b1, g1⟩ : ∃ z, z = h0.size := ⟨_, rfl⟩
  rw [← g1] at A1 D1 st1
  have z1 : h0.size ≤ b1 := Nat.le_trans K0.1 (Nat.le_of_eq g1.symm)
  have k1 := K0.ext E1
  have F1_77 : P14 Z h1 b1 (.int 0) := D1 (Or.inl (w_ hw 77 rfl)) (ty := .int) (by decide)
  have F1_80 : P15 Z h1 b1 .null := D1 (Or.inl (w_ hw 80 rfl)) (ty := (.array (.object "java/lang/Object"))) (by decide)
  have F1_93 : P16 Z h1 b1 (.int 0) := D1 (Or.inl (w_ hw 93 rfl)) (ty := .int) (by decide)
  obtain ⟨v2, T2, L2, X2, Q2, st2⟩ := kI X1 hx hZ hown (t10 hw SB0 b1 (O0.keep k1 hws) A1 F1_77 F1_80 F1_93 (Nat.le_trans Z0 z1)) rfl (w_ hw 60 rfl) (w_ hw 61 rfl) (w_ hw 59 rfl) (w_ hw 62 rfl) e1 (g := (mkF m 4 #[vi 4, un] [(.ref b1), (.ref b1)])) rfl hml rfl (argsL := []) (rest := [(.ref b1)]) (lenOf pd0 rfl) rfl rfl (W := 1) rfl (D d9_4)
  obtain ⟨h2, e2⟩ : ∃ z, T2.heap = z := ⟨_, rfl⟩
  rw [e2] at Q2
  obtain ⟨rfl, M2, K2, F2_0, F2_1, F2_2⟩ := Q2
  have N2 := N0.app M2
  have k2 := k1.trans K2 (allS (Or.inr z1) all0)
  have f3 := (A1.keep K2)
  obtain ⟨v4, T4, L4, X4, Q4, st4⟩ := kG X2 hx hZ hown (t15 hw SB0 b1 (O0.keep k2 hws) F2_0 f3 F2_1 F2_2 (Nat.le_trans Z0 z1)) f3 (w_ hw 81 rfl) (mvT hZ (w_ hw 83 rfl)) (iw0 hw) e2 (g := (mkF m 10 #[vi 4, vr b1] [.null, (.ref b1)])) rfl hml rfl (argsL := [.null]) (rest := []) (lenOf pd9 rfl) rfl rfl (W := 0) rfl (D d9_10)
  obtain ⟨h4, e4⟩ : ∃ z, T4.heap = z := ⟨_, rfl⟩
  rw [e4] at Q4
  obtain ⟨b4_0, rfl, M4, K4, y4_0, F4_0, F4_1, F4_2, F4_3, F4_4⟩ := Q4
  have N4 := N2.app M4
  have z4_b4_0 := Nat.le_trans k2.1 y4_0
  have k4 := k2.trans K4 (allS (Or.inr z1) all0)
  have f5 := (f3.keep K4)
  obtain ⟨v6, T6, L6, X6, Q6, st6⟩ := kG X4 hx hZ hown (t17 hw SB0 b1 b4_0 (O0.keep k4 hws) F4_2 f5 F4_0 F4_1 F4_4 F4_3 (Nat.le_trans Z0 z1) (Nat.le_trans Z0 z4_b4_0)) f5 (w_ hw 81 rfl) (mvT hZ (w_ hw 83 rfl)) (iw0 hw) e4 (g := (mkF m 23 #[vi 4, vr b1] [.null, (.ref b1)])) rfl hml rfl (argsL := [.null]) (rest := []) (lenOf pd9 rfl) rfl rfl (W := 0) rfl (D d9_23)
  obtain ⟨h6, e6⟩ : ∃ z, T6.heap = z := ⟨_, rfl⟩
  rw [e6] at Q6
  obtain ⟨rfl, M6, K6, F6_0, F6_1, F6_2, F6_3⟩ := Q6
  have N6 := N4.app M6
  have k6 := k4.trans K6 (allS (Or.inr z1) (allS (Or.inr z4_b4_0) all0))
  have f7 := (f5.keep K6)
  have f8 := (F4_3.keep K6)
  obtain ⟨v9, T9, L9, X9, Q9, st9⟩ := kG X6 hx hZ hown (t19 hw SB0 b1 b4_0 (O0.keep k6 hws) F6_0 f7 F6_1 F6_2 F6_3 f8 (Nat.le_trans Z0 z1) (Nat.le_trans Z0 z4_b4_0)) f7 (w_ hw 81 rfl) (mvT hZ (w_ hw 83 rfl)) (iw0 hw) e6 (g := (mkF m 36 #[vi 4, vr b1] [.null, (.ref b1)])) rfl hml rfl (argsL := [.null]) (rest := []) (lenOf pd9 rfl) rfl rfl (W := 0) rfl (D d9_36)
  obtain ⟨h9, e9⟩ : ∃ z, T9.heap = z := ⟨_, rfl⟩
  rw [e9] at Q9
  obtain ⟨rfl, M9, K9, F9_0, F9_1, F9_2, F9_3⟩ := Q9
  have N9 := N6.app M9
  have k9 := k6.trans K9 (allS (Or.inr z1) (allS (Or.inr z4_b4_0) all0))
  have f10 := (f7.keep K9)
  have f11 := (f8.keep K9)
  obtain ⟨v12, T12, L12, X12, Q12, st12⟩ := kG X9 hx hZ hown (t21 hw SB0 b1 b4_0 (O0.keep k9 hws) F9_0 f10 F9_1 F9_2 F9_3 f11 (Nat.le_trans Z0 z1) (Nat.le_trans Z0 z4_b4_0)) f10 (w_ hw 81 rfl) (mvT hZ (w_ hw 83 rfl)) (iw0 hw) e9 (g := (mkF m 49 #[vi 4, vr b1] [.null, (.ref b1)])) rfl hml rfl (argsL := [.null]) (rest := []) (lenOf pd9 rfl) rfl rfl (W := 0) rfl (D d9_49)
  obtain ⟨h12, e12⟩ : ∃ z, T12.heap = z := ⟨_, rfl⟩
  rw [e12] at Q12
  obtain ⟨rfl, M12, K12, F12_0, F12_1, F12_2, F12_3⟩ := Q12
  have N12 := N9.app M12
  have k12 := k9.trans K12 (allS (Or.inr z1) (allS (Or.inr z4_b4_0) all0))
  have f13 := (f10.keep K12)
  have f14 := (f11.keep K12)
  refine ⟨(some (.ref b1)), T12, _, _, _, X12, (fun hh => by cases hh), (by rw [e12]; exact ⟨b1, b4_0, rfl, N12, k12, z1, z4_b4_0, f13, F12_0, F12_1, F12_2, f14, F12_3⟩), (by decide), (by decide), fun fs hr => pre0 _ ?_⟩
  show SA p e below s₁ m 0 #[vi 4, un] [] _
  refine st1 _ ?_
  refine XS.dup X1.here hx rfl (D d9_3) rfl rfl ?_
  refine st2 _ ?_
  refine XS.astoreN X2.here hx rfl (D d9_7) rfl rfl (l' := #[vi 4, vr b1]) rfl ?_
  refine XS.aloadN X2.here hx rfl (D d9_8) rfl rfl ?_
  refine XS.aconstNull X2.here hx rfl (D d9_9) ?_
  refine st4 _ ?_
  refine XS.pop X4.here hx rfl (D d9_15) rfl rfl ?_
  refine XS.iloadN X4.here hx rfl (D d9_16) rfl ?_
  refine XS.iconst X4.here hx rfl (D d9_17) ?_
  refine XS.icmpNo X4.here hx rfl (D d9_18) rfl (flt (by decide : ¬ ((4 : Int32) < (2 : Int32)))).1 ?_
  refine XS.aloadN X4.here hx rfl (D d9_21) rfl rfl ?_
  refine XS.aconstNull X4.here hx rfl (D d9_22) ?_
  refine st6 _ ?_
  refine XS.pop X6.here hx rfl (D d9_28) rfl rfl ?_
  refine XS.iloadN X6.here hx rfl (D d9_29) rfl ?_
  refine XS.iconst X6.here hx rfl (D d9_30) ?_
  refine XS.icmpNo X6.here hx rfl (D d9_31) rfl (flt (by decide : ¬ ((4 : Int32) < (3 : Int32)))).1 ?_
  refine XS.aloadN X6.here hx rfl (D d9_34) rfl rfl ?_
  refine XS.aconstNull X6.here hx rfl (D d9_35) ?_
  refine st9 _ ?_
  refine XS.pop X9.here hx rfl (D d9_41) rfl rfl ?_
  refine XS.iloadN X9.here hx rfl (D d9_42) rfl ?_
  refine XS.iconst X9.here hx rfl (D d9_43) ?_
  refine XS.icmpNo X9.here hx rfl (D d9_44) rfl (flt (by decide : ¬ ((4 : Int32) < (4 : Int32)))).1 ?_
  refine XS.aloadN X9.here hx rfl (D d9_47) rfl rfl ?_
  refine XS.aconstNull X9.here hx rfl (D d9_48) ?_
  refine st12 _ ?_
  refine XS.pop X12.here hx rfl (D d9_54) rfl rfl ?_
  refine XS.aloadN X12.here hx rfl (D d9_55) rfl rfl ?_
  show SA p e below T12 m 56 #[vi 4, vr b1] [(.ref b1)] _
  exact retOut X12 hx hrt rfl (Or.inr (Or.inr (Or.inr (Or.inr ⟨rfl, rfl, rfl⟩)))) (D d9_56) hr
def Q23 (Z : State) (cv : Int32) (de ca : Addr)  (h0 : Heap) (n0 : Nat) (v : Option Value) (h : Heap) (L : List Loc) : Prop := ∃ (b1 b4_0 : Addr), v = (some (.ref b1)) ∧ Fr n0 L ∧ Keep h0 h [] ∧ h0.size ≤ b1 ∧ h0.size ≤ b4_0 ∧ E_3 Z h b1 ∧ P14 Z h b1 (.int 3) ∧ P15 Z h b1 (.ref b4_0) ∧ P16 Z h b1 (.int 3) ∧ E_4 Z h b4_0 ∧ ALen Z h b4_0 (.object "java/lang/Object") (10 : Int32)
/-- states#3 -/
theorem t23 (hw : HW a0 Z) (SB0 : SB Z cv de ca)  (O0 : OL Z n0 h0)   : CT l Z y16 B9 2 (some (.object "java/util/List")) ⟨5, 2, 13, 69⟩ #[(.int 3)] h0 (Q23 Z cv de ca  h0 n0) := by
  refine ct_intro ?_
  intro p e s m below meth c s₁ E0 hx D hml hown hnm hrt X0 e0 hZ hE
  have Z0 := O0.le
  have K0 := Keep.refl h0 []
  have hws : ∀ w ∈ ([] : List Addr), n0 ≤ w := all0
  have N0 := Fr.nil n0
  have pre0 := ctp #[vi 3, un] hE
  obtain ⟨T1, h1, X1, e1, E1, A1, D1, -, st1⟩ := newO X0 hx hZ hown (w_ hw 57 rfl) (w_ hw 58 rfl) (w_ hw 59 rfl) e0 (g := (mkF m 0 #[vi 3, un] [])) rfl (D d9_0) (by decide) (by decide)
  obtain ⟨b1, g1⟩ : ∃ z, z = h0.size := ⟨_, rfl⟩
  rw [← g1] at A1 D1 st1
  have z1 : h0.size ≤ b1 := Nat.le_trans K0.1 (Nat.le_of_eq g1.symm)
  have k1 := K0.ext E1
  have F1_77 : P14 Z h1 b1 (.int 0) := D1 (Or.inl (w_ hw 77 rfl)) (ty := .int) (by decide)
  have F1_80 : P15 Z h1 b1 .null := D1 (Or.inl (w_ hw 80 rfl)) (ty := (.array (.object "java/lang/Object"))) (by decide)
  have F1_93 : P16 Z h1 b1 (.int 0) := D1 (Or.inl (w_ hw 93 rfl)) (ty := .int) (by decide)
  obtain ⟨v2, T2, L2, X2, Q2, st2⟩ := kI X1 hx hZ hown (t10 hw SB0 b1 (O0.keep k1 hws) A1 F1_77 F1_80 F1_93 (Nat.le_trans Z0 z1)) rfl (w_ hw 60 rfl) (w_ hw 61 rfl) (w_ hw 59 rfl) (w_ hw 62 rfl) e1 (g := (mkF m 4 #[vi 3, un] [(.ref b1), (.ref b1)])) rfl hml rfl (argsL := []) (rest := [(.ref b1)]) (lenOf pd0 rfl) rfl rfl (W := 1) rfl (D d9_4)
  obtain ⟨h2, e2⟩ : ∃ z, T2.heap = z := ⟨_, rfl⟩
  rw [e2] at Q2
  obtain ⟨rfl, M2, K2, F2_0, F2_1, F2_2⟩ := Q2
  have N2 := N0.app M2
  have k2 := k1.trans K2 (allS (Or.inr z1) all0)
  have f3 := (A1.keep K2)
  obtain ⟨v4, T4, L4, X4, Q4, st4⟩ := kG X2 hx hZ hown (t15 hw SB0 b1 (O0.keep k2 hws) F2_0 f3 F2_1 F2_2 (Nat.le_trans Z0 z1)) f3 (w_ hw 81 rfl) (mvT hZ (w_ hw 83 rfl)) (iw0 hw) e2 (g := (mkF m 10 #[vi 3, vr b1] [.null, (.ref b1)])) rfl hml rfl (argsL := [.null]) (rest := []) (lenOf pd9 rfl) rfl rfl (W := 0) rfl (D d9_10)
  obtain ⟨h4, e4⟩ : ∃ z, T4.heap = z := ⟨_, rfl⟩
  rw [e4] at Q4
  obtain ⟨b4_0, rfl, M4, K4, y4_0, F4_0, F4_1, F4_2, F4_3, F4_4⟩ := Q4
  have N4 := N2.app M4
  have z4_b4_0 := Nat.le_trans k2.1 y4_0
  have k4 := k2.trans K4 (allS (Or.inr z1) all0)
  have f5 := (f3.keep K4)
  obtain ⟨v6, T6, L6, X6, Q6, st6⟩ := kG X4 hx hZ hown (t17 hw SB0 b1 b4_0 (O0.keep k4 hws) F4_2 f5 F4_0 F4_1 F4_4 F4_3 (Nat.le_trans Z0 z1) (Nat.le_trans Z0 z4_b4_0)) f5 (w_ hw 81 rfl) (mvT hZ (w_ hw 83 rfl)) (iw0 hw) e4 (g := (mkF m 23 #[vi 3, vr b1] [.null, (.ref b1)])) rfl hml rfl (argsL := [.null]) (rest := []) (lenOf pd9 rfl) rfl rfl (W := 0) rfl (D d9_23)
  obtain ⟨h6, e6⟩ : ∃ z, T6.heap = z := ⟨_, rfl⟩
  rw [e6] at Q6
  obtain ⟨rfl, M6, K6, F6_0, F6_1, F6_2, F6_3⟩ := Q6
  have N6 := N4.app M6
  have k6 := k4.trans K6 (allS (Or.inr z1) (allS (Or.inr z4_b4_0) all0))
  have f7 := (f5.keep K6)
  have f8 := (F4_3.keep K6)
  obtain ⟨v9, T9, L9, X9, Q9, st9⟩ := kG X6 hx hZ hown (t19 hw SB0 b1 b4_0 (O0.keep k6 hws) F6_0 f7 F6_1 F6_2 F6_3 f8 (Nat.le_trans Z0 z1) (Nat.le_trans Z0 z4_b4_0)) f7 (w_ hw 81 rfl) (mvT hZ (w_ hw 83 rfl)) (iw0 hw) e6 (g := (mkF m 36 #[vi 3, vr b1] [.null, (.ref b1)])) rfl hml rfl (argsL := [.null]) (rest := []) (lenOf pd9 rfl) rfl rfl (W := 0) rfl (D d9_36)
  obtain ⟨h9, e9⟩ : ∃ z, T9.heap = z := ⟨_, rfl⟩
  rw [e9] at Q9
  obtain ⟨rfl, M9, K9, F9_0, F9_1, F9_2, F9_3⟩ := Q9
  have N9 := N6.app M9
  have k9 := k6.trans K9 (allS (Or.inr z1) (allS (Or.inr z4_b4_0) all0))
  have f10 := (f7.keep K9)
  have f11 := (f8.keep K9)
  refine ⟨(some (.ref b1)), T9, _, _, _, X9, (fun hh => by cases hh), (by rw [e9]; exact ⟨b1, b4_0, rfl, N9, k9, z1, z4_b4_0, f10, F9_0, F9_1, F9_2, f11, F9_3⟩), (by decide), (by decide), fun fs hr => pre0 _ ?_⟩
  show SA p e below s₁ m 0 #[vi 3, un] [] _
  refine st1 _ ?_
  refine XS.dup X1.here hx rfl (D d9_3) rfl rfl ?_
  refine st2 _ ?_
  refine XS.astoreN X2.here hx rfl (D d9_7) rfl rfl (l' := #[vi 3, vr b1]) rfl ?_
  refine XS.aloadN X2.here hx rfl (D d9_8) rfl rfl ?_
  refine XS.aconstNull X2.here hx rfl (D d9_9) ?_
  refine st4 _ ?_
  refine XS.pop X4.here hx rfl (D d9_15) rfl rfl ?_
  refine XS.iloadN X4.here hx rfl (D d9_16) rfl ?_
  refine XS.iconst X4.here hx rfl (D d9_17) ?_
  refine XS.icmpNo X4.here hx rfl (D d9_18) rfl (flt (by decide : ¬ ((3 : Int32) < (2 : Int32)))).1 ?_
  refine XS.aloadN X4.here hx rfl (D d9_21) rfl rfl ?_
  refine XS.aconstNull X4.here hx rfl (D d9_22) ?_
  refine st6 _ ?_
  refine XS.pop X6.here hx rfl (D d9_28) rfl rfl ?_
  refine XS.iloadN X6.here hx rfl (D d9_29) rfl ?_
  refine XS.iconst X6.here hx rfl (D d9_30) ?_
  refine XS.icmpNo X6.here hx rfl (D d9_31) rfl (flt (by decide : ¬ ((3 : Int32) < (3 : Int32)))).1 ?_
  refine XS.aloadN X6.here hx rfl (D d9_34) rfl rfl ?_
  refine XS.aconstNull X6.here hx rfl (D d9_35) ?_
  refine st9 _ ?_
  refine XS.pop X9.here hx rfl (D d9_41) rfl rfl ?_
  refine XS.iloadN X9.here hx rfl (D d9_42) rfl ?_
  refine XS.iconst X9.here hx rfl (D d9_43) ?_
  refine XS.icmpYes X9.here hx rfl (pc0 := 44) (pc' := 55) rfl (D d9_44) rfl (tlt (by decide : ((3 : Int32) < (4 : Int32)))).1 (by decide) (by decide) ?_
  refine XS.aloadN X9.here hx rfl (D d9_55) rfl rfl ?_
  show SA p e below T9 m 56 #[vi 3, vr b1] [(.ref b1)] _
  exact retOut X9 hx hrt rfl (Or.inr (Or.inr (Or.inr (Or.inr ⟨rfl, rfl, rfl⟩)))) (D d9_56) hr
def Q24 (Z : State) (cv : Int32) (de ca : Addr)  (h0 : Heap) (n0 : Nat) (v : Option Value) (h : Heap) (L : List Loc) : Prop := ∃ (b1 b4_0 : Addr), v = (some (.ref b1)) ∧ Fr n0 L ∧ Keep h0 h [] ∧ h0.size ≤ b1 ∧ h0.size ≤ b4_0 ∧ E_3 Z h b1 ∧ P14 Z h b1 (.int 2) ∧ P15 Z h b1 (.ref b4_0) ∧ P16 Z h b1 (.int 2) ∧ E_4 Z h b4_0 ∧ ALen Z h b4_0 (.object "java/lang/Object") (10 : Int32)
/-- states#2 -/
theorem t24 (hw : HW a0 Z) (SB0 : SB Z cv de ca)  (O0 : OL Z n0 h0)   : CT l Z y16 B9 2 (some (.object "java/util/List")) ⟨5, 2, 13, 69⟩ #[(.int 2)] h0 (Q24 Z cv de ca  h0 n0) := by
  refine ct_intro ?_
  intro p e s m below meth c s₁ E0 hx D hml hown hnm hrt X0 e0 hZ hE
  have Z0 := O0.le
  have K0 := Keep.refl h0 []
  have hws : ∀ w ∈ ([] : List Addr), n0 ≤ w := all0
  have N0 := Fr.nil n0
  have pre0 := ctp #[vi 2, un] hE
  obtain ⟨T1, h1, X1, e1, E1, A1, D1, -, st1⟩ := newO X0 hx hZ hown (w_ hw 57 rfl) (w_ hw 58 rfl) (w_ hw 59 rfl) e0 (g := (mkF m 0 #[vi 2, un] [])) rfl (D d9_0) (by decide) (by decide)
  obtain ⟨b1, g1⟩ : ∃ z, z = h0.size := ⟨_, rfl⟩
  rw [← g1] at A1 D1 st1
  have z1 : h0.size ≤ b1 := Nat.le_trans K0.1 (Nat.le_of_eq g1.symm)
  have k1 := K0.ext E1
  have F1_77 : P14 Z h1 b1 (.int 0) := D1 (Or.inl (w_ hw 77 rfl)) (ty := .int) (by decide)
  have F1_80 : P15 Z h1 b1 .null := D1 (Or.inl (w_ hw 80 rfl)) (ty := (.array (.object "java/lang/Object"))) (by decide)
  have F1_93 : P16 Z h1 b1 (.int 0) := D1 (Or.inl (w_ hw 93 rfl)) (ty := .int) (by decide)
  obtain ⟨v2, T2, L2, X2, Q2, st2⟩ := kI X1 hx hZ hown (t10 hw SB0 b1 (O0.keep k1 hws) A1 F1_77 F1_80 F1_93 (Nat.le_trans Z0 z1)) rfl (w_ hw 60 rfl) (w_ hw 61 rfl) (w_ hw 59 rfl) (w_ hw 62 rfl) e1 (g := (mkF m 4 #[vi 2, un] [(.ref b1), (.ref b1)])) rfl hml rfl (argsL := []) (rest := [(.ref b1)]) (lenOf pd0 rfl) rfl rfl (W := 1) rfl (D d9_4)
  obtain ⟨h2, e2⟩ : ∃ z, T2.heap = z := ⟨_, rfl⟩
  rw [e2] at Q2
  obtain ⟨rfl, M2, K2, F2_0, F2_1, F2_2⟩ := Q2
  have N2 := N0.app M2
  have k2 := k1.trans K2 (allS (Or.inr z1) all0)
  have f3 := (A1.keep K2)
  obtain ⟨v4, T4, L4, X4, Q4, st4⟩ := kG X2 hx hZ hown (t15 hw SB0 b1 (O0.keep k2 hws) F2_0 f3 F2_1 F2_2 (Nat.le_trans Z0 z1)) f3 (w_ hw 81 rfl) (mvT hZ (w_ hw 83 rfl)) (iw0 hw) e2 (g := (mkF m 10 #[vi 2, vr b1] [.null, (.ref b1)])) rfl hml rfl (argsL := [.null]) (rest := []) (lenOf pd9 rfl) rfl rfl (W := 0) rfl (D d9_10)
  obtain ⟨h4, e4⟩ : ∃ z, T4.heap = z := ⟨_, rfl⟩
  rw [e4] at Q4
  obtain ⟨b4_0, rfl, M4, K4, y4_0, F4_0, F4_1, F4_2, F4_3, F4_4⟩ := Q4
  have N4 := N2.app M4
  have z4_b4_0 := Nat.le_trans k2.1 y4_0
  have k4 := k2.trans K4 (allS (Or.inr z1) all0)
  have f5 := (f3.keep K4)
  obtain ⟨v6, T6, L6, X6, Q6, st6⟩ := kG X4 hx hZ hown (t17 hw SB0 b1 b4_0 (O0.keep k4 hws) F4_2 f5 F4_0 F4_1 F4_4 F4_3 (Nat.le_trans Z0 z1) (Nat.le_trans Z0 z4_b4_0)) f5 (w_ hw 81 rfl) (mvT hZ (w_ hw 83 rfl)) (iw0 hw) e4 (g := (mkF m 23 #[vi 2, vr b1] [.null, (.ref b1)])) rfl hml rfl (argsL := [.null]) (rest := []) (lenOf pd9 rfl) rfl rfl (W := 0) rfl (D d9_23)
  obtain ⟨h6, e6⟩ : ∃ z, T6.heap = z := ⟨_, rfl⟩
  rw [e6] at Q6
  obtain ⟨rfl, M6, K6, F6_0, F6_1, F6_2, F6_3⟩ := Q6
  have N6 := N4.app M6
  have k6 := k4.trans K6 (allS (Or.inr z1) (allS (Or.inr z4_b4_0) all0))
  have f7 := (f5.keep K6)
  have f8 := (F4_3.keep K6)
  refine ⟨(some (.ref b1)), T6, _, _, _, X6, (fun hh => by cases hh), (by rw [e6]; exact ⟨b1, b4_0, rfl, N6, k6, z1, z4_b4_0, f7, F6_0, F6_1, F6_2, f8, F6_3⟩), (by decide), (by decide), fun fs hr => pre0 _ ?_⟩
  show SA p e below s₁ m 0 #[vi 2, un] [] _
  refine st1 _ ?_
  refine XS.dup X1.here hx rfl (D d9_3) rfl rfl ?_
  refine st2 _ ?_
  refine XS.astoreN X2.here hx rfl (D d9_7) rfl rfl (l' := #[vi 2, vr b1]) rfl ?_
  refine XS.aloadN X2.here hx rfl (D d9_8) rfl rfl ?_
  refine XS.aconstNull X2.here hx rfl (D d9_9) ?_
  refine st4 _ ?_
  refine XS.pop X4.here hx rfl (D d9_15) rfl rfl ?_
  refine XS.iloadN X4.here hx rfl (D d9_16) rfl ?_
  refine XS.iconst X4.here hx rfl (D d9_17) ?_
  refine XS.icmpNo X4.here hx rfl (D d9_18) rfl (flt (by decide : ¬ ((2 : Int32) < (2 : Int32)))).1 ?_
  refine XS.aloadN X4.here hx rfl (D d9_21) rfl rfl ?_
  refine XS.aconstNull X4.here hx rfl (D d9_22) ?_
  refine st6 _ ?_
  refine XS.pop X6.here hx rfl (D d9_28) rfl rfl ?_
  refine XS.iloadN X6.here hx rfl (D d9_29) rfl ?_
  refine XS.iconst X6.here hx rfl (D d9_30) ?_
  refine XS.icmpYes X6.here hx rfl (pc0 := 31) (pc' := 42) rfl (D d9_31) rfl (tlt (by decide : ((2 : Int32) < (3 : Int32)))).1 (by decide) (by decide) ?_
  refine XS.iloadN X6.here hx rfl (D d9_42) rfl ?_
  refine XS.iconst X6.here hx rfl (D d9_43) ?_
  refine XS.icmpYes X6.here hx rfl (pc0 := 44) (pc' := 55) rfl (D d9_44) rfl (tlt (by decide : ((2 : Int32) < (4 : Int32)))).1 (by decide) (by decide) ?_
  refine XS.aloadN X6.here hx rfl (D d9_55) rfl rfl ?_
  show SA p e below T6 m 56 #[vi 2, vr b1] [(.ref b1)] _
  exact retOut X6 hx hrt rfl (Or.inr (Or.inr (Or.inr (Or.inr ⟨rfl, rfl, rfl⟩)))) (D d9_56) hr
def Q25 (Z : State) (cv : Int32) (de ca : Addr)  (h0 : Heap) (n0 : Nat) (v : Option Value) (h : Heap) (L : List Loc) : Prop := ∃ (b1 b4_0 : Addr), v = (some (.ref b1)) ∧ Fr n0 L ∧ Keep h0 h [] ∧ h0.size ≤ b1 ∧ h0.size ≤ b4_0 ∧ E_3 Z h b1 ∧ P15 Z h b1 (.ref b4_0) ∧ P16 Z h b1 (.int 1) ∧ P14 Z h b1 (.int 1) ∧ E_4 Z h b4_0 ∧ ALen Z h b4_0 (.object "java/lang/Object") (10 : Int32)
/-- states#1 -/
theorem t25 (hw : HW a0 Z) (SB0 : SB Z cv de ca)  (O0 : OL Z n0 h0)   : CT l Z y16 B9 2 (some (.object "java/util/List")) ⟨5, 2, 13, 69⟩ #[(.int 1)] h0 (Q25 Z cv de ca  h0 n0) := by
  refine ct_intro ?_
  intro p e s m below meth c s₁ E0 hx D hml hown hnm hrt X0 e0 hZ hE
  have Z0 := O0.le
  have K0 := Keep.refl h0 []
  have hws : ∀ w ∈ ([] : List Addr), n0 ≤ w := all0
  have N0 := Fr.nil n0
  have pre0 := ctp #[vi 1, un] hE
  obtain ⟨T1, h1, X1, e1, E1, A1, D1, -, st1⟩ := newO X0 hx hZ hown (w_ hw 57 rfl) (w_ hw 58 rfl) (w_ hw 59 rfl) e0 (g := (mkF m 0 #[vi 1, un] [])) rfl (D d9_0) (by decide) (by decide)
  obtain ⟨b1, g1⟩ : ∃ z, z = h0.size := ⟨_, rfl⟩
  rw [← g1] at A1 D1 st1
  have z1 : h0.size ≤ b1 := Nat.le_trans K0.1 (Nat.le_of_eq g1.symm)
  have k1 := K0.ext E1
  have F1_77 : P14 Z h1 b1 (.int 0) := D1 (Or.inl (w_ hw 77 rfl)) (ty := .int) (by decide)
  have F1_80 : P15 Z h1 b1 .null := D1 (Or.inl (w_ hw 80 rfl)) (ty := (.array (.object "java/lang/Object"))) (by decide)
  have F1_93 : P16 Z h1 b1 (.int 0) := D1 (Or.inl (w_ hw 93 rfl)) (ty := .int) (by decide)
  obtain ⟨v2, T2, L2, X2, Q2, st2⟩ := kI X1 hx hZ hown (t10 hw SB0 b1 (O0.keep k1 hws) A1 F1_77 F1_80 F1_93 (Nat.le_trans Z0 z1)) rfl (w_ hw 60 rfl) (w_ hw 61 rfl) (w_ hw 59 rfl) (w_ hw 62 rfl) e1 (g := (mkF m 4 #[vi 1, un] [(.ref b1), (.ref b1)])) rfl hml rfl (argsL := []) (rest := [(.ref b1)]) (lenOf pd0 rfl) rfl rfl (W := 1) rfl (D d9_4)
  obtain ⟨h2, e2⟩ : ∃ z, T2.heap = z := ⟨_, rfl⟩
  rw [e2] at Q2
  obtain ⟨rfl, M2, K2, F2_0, F2_1, F2_2⟩ := Q2
  have N2 := N0.app M2
  have k2 := k1.trans K2 (allS (Or.inr z1) all0)
  have f3 := (A1.keep K2)
  obtain ⟨v4, T4, L4, X4, Q4, st4⟩ := kG X2 hx hZ hown (t15 hw SB0 b1 (O0.keep k2 hws) F2_0 f3 F2_1 F2_2 (Nat.le_trans Z0 z1)) f3 (w_ hw 81 rfl) (mvT hZ (w_ hw 83 rfl)) (iw0 hw) e2 (g := (mkF m 10 #[vi 1, vr b1] [.null, (.ref b1)])) rfl hml rfl (argsL := [.null]) (rest := []) (lenOf pd9 rfl) rfl rfl (W := 0) rfl (D d9_10)
  obtain ⟨h4, e4⟩ : ∃ z, T4.heap = z := ⟨_, rfl⟩
  rw [e4] at Q4
  obtain ⟨b4_0, rfl, M4, K4, y4_0, F4_0, F4_1, F4_2, F4_3, F4_4⟩ := Q4
  have N4 := N2.app M4
  have z4_b4_0 := Nat.le_trans k2.1 y4_0
  have k4 := k2.trans K4 (allS (Or.inr z1) all0)
  have f5 := (f3.keep K4)
  refine ⟨(some (.ref b1)), T4, _, _, _, X4, (fun hh => by cases hh), (by rw [e4]; exact ⟨b1, b4_0, rfl, N4, k4, z1, z4_b4_0, f5, F4_0, F4_1, F4_2, F4_3, F4_4⟩), (by decide), (by decide), fun fs hr => pre0 _ ?_⟩
  show SA p e below s₁ m 0 #[vi 1, un] [] _
  refine st1 _ ?_
  refine XS.dup X1.here hx rfl (D d9_3) rfl rfl ?_
  refine st2 _ ?_
  refine XS.astoreN X2.here hx rfl (D d9_7) rfl rfl (l' := #[vi 1, vr b1]) rfl ?_
  refine XS.aloadN X2.here hx rfl (D d9_8) rfl rfl ?_
  refine XS.aconstNull X2.here hx rfl (D d9_9) ?_
  refine st4 _ ?_
  refine XS.pop X4.here hx rfl (D d9_15) rfl rfl ?_
  refine XS.iloadN X4.here hx rfl (D d9_16) rfl ?_
  refine XS.iconst X4.here hx rfl (D d9_17) ?_
  refine XS.icmpYes X4.here hx rfl (pc0 := 18) (pc' := 29) rfl (D d9_18) rfl (tlt (by decide : ((1 : Int32) < (2 : Int32)))).1 (by decide) (by decide) ?_
  refine XS.iloadN X4.here hx rfl (D d9_29) rfl ?_
  refine XS.iconst X4.here hx rfl (D d9_30) ?_
  refine XS.icmpYes X4.here hx rfl (pc0 := 31) (pc' := 42) rfl (D d9_31) rfl (tlt (by decide : ((1 : Int32) < (3 : Int32)))).1 (by decide) (by decide) ?_
  refine XS.iloadN X4.here hx rfl (D d9_42) rfl ?_
  refine XS.iconst X4.here hx rfl (D d9_43) ?_
  refine XS.icmpYes X4.here hx rfl (pc0 := 44) (pc' := 55) rfl (D d9_44) rfl (tlt (by decide : ((1 : Int32) < (4 : Int32)))).1 (by decide) (by decide) ?_
  refine XS.aloadN X4.here hx rfl (D d9_55) rfl rfl ?_
  show SA p e below T4 m 56 #[vi 1, vr b1] [(.ref b1)] _
  exact retOut X4 hx hrt rfl (Or.inr (Or.inr (Or.inr (Or.inr ⟨rfl, rfl, rfl⟩)))) (D d9_56) hr
def Qst (Z : State) (i0 : Int32) (h0 : Heap) (n0 : Nat) (v : Option Value) (h : Heap) (L : List Loc) : Prop := ∃ (b : Addr), v = some (.ref b) ∧ Fr n0 L ∧ Keep h0 h [] ∧ h0.size ≤ b ∧ Exa Z h b "java/util/ArrayList" ∧ Fld Z h b "java/util/ArrayList" "size" "I" (.int i0)
theorem tst {l : Launch} {Z : State} {a0 : Array Value} {cv : Int32} {de ca : Addr} (hw : HW a0 Z) (SB0 : SB Z cv de ca) (i0 : Int32) {h0 : Heap} {n0 : Nat} (O0 : OL Z n0 h0) (q0 : R4 i0) : CT l Z y16 method_3_code 2 (some (.object "java/util/List")) ⟨5, 2, 13, 69⟩ #[.int i0] h0 (Qst Z i0 h0 n0) := by
  rcases q0 with rfl | rfl | rfl | rfl
  · exact (t25 hw SB0 O0).mono fun v h L ⟨b1, b4_0, rq, M, K, z0, z1, f0, f1, f2, f3, f4, f5⟩ => ⟨b1, rq, M, K, z0, f0, f2⟩
  · exact (t24 hw SB0 O0).mono fun v h L ⟨b1, b4_0, rq, M, K, z0, z1, f0, f1, f2, f3, f4, f5⟩ => ⟨b1, rq, M, K, z0, f0, f3⟩
  · exact (t23 hw SB0 O0).mono fun v h L ⟨b1, b4_0, rq, M, K, z0, z1, f0, f1, f2, f3, f4, f5⟩ => ⟨b1, rq, M, K, z0, f0, f3⟩
  · exact (t22 hw SB0 O0).mono fun v h L ⟨b1, b4_0, rq, M, K, z0, z1, f0, f1, f2, f3, f4, f5⟩ => ⟨b1, rq, M, K, z0, f0, f3⟩
theorem pd10 : parseMethodDescriptor "(I)Ljava/util/List;" = some ⟨[.int], some (.object "java/util/List")⟩ := by decide +kernel
abbrev B18 := jdk_69_method_15_code
theorem d18_0 : decode B18 0 = .ok (.aload_n 0, 1) := by decide +kernel
theorem d18_1 : decode B18 1 = .ok (.aload_n 1, 1) := by decide +kernel
theorem d18_2 : decode B18 2 = .ok (.invokestatic 149, 3) := by decide +kernel
abbrev B19 := jdk_69_method_1_code
theorem d19_0 : decode B19 0 = .ok (.aload_n 0, 1) := by decide +kernel
theorem d19_1 : decode B19 1 = .ok (.ifnonnull 7, 3) := by decide +kernel
theorem d19_8 : decode B19 8 = .ok (.aload_n 0, 1) := by decide +kernel
theorem d19_9 : decode B19 9 = .ok (.invokevirtual 1, 3) := by decide +kernel
abbrev B20 := jdk_42_method_78_code
theorem d20_0 : decode B20 0 = .ok (.aload_n 0, 1) := by decide +kernel
theorem d20_1 : decode B20 1 = .ok (.getfield 19, 3) := by decide +kernel
theorem d20_4 : decode B20 4 = .ok (.istore_n 1, 1) := by decide +kernel
theorem d20_5 : decode B20 5 = .ok (.iload_n 1, 1) := by decide +kernel
theorem d20_6 : decode B20 6 = .ok (.ifCond .ne 52, 3) := by decide +kernel
theorem d20_9 : decode B20 9 = .ok (.aload_n 0, 1) := by decide +kernel
theorem d20_10 : decode B20 10 = .ok (.getfield 23, 3) := by decide +kernel
theorem d20_13 : decode B20 13 = .ok (.ifCond .ne 45, 3) := by decide +kernel
theorem d20_16 : decode B20 16 = .ok (.aload_n 0, 1) := by decide +kernel
theorem d20_17 : decode B20 17 = .ok (.invokevirtual 492, 3) := by decide +kernel
abbrev B21 := jdk_42_method_154_code
theorem d21_0 : decode B21 0 = .ok (.getstatic 38, 3) := by decide +kernel
theorem d21_3 : decode B21 3 = .ok (.ifCond .eq 14, 3) := by decide +kernel
theorem d21_6 : decode B21 6 = .ok (.aload_n 0, 1) := by decide +kernel
theorem d21_7 : decode B21 7 = .ok (.getfield 15, 3) := by decide +kernel
theorem d21_10 : decode B21 10 = .ok (.ifCond .ne 7, 3) := by decide +kernel
theorem d21_13 : decode B21 13 = .ok (.iconst 1, 1) := by decide +kernel
theorem d21_14 : decode B21 14 = .ok (.goto 4, 3) := by decide +kernel
theorem d21_18 : decode B21 18 = .ok (.ireturn, 1) := by decide +kernel
abbrev y17 : MethodName := ⟨"java/lang/String", "isLatin1", "()Z"⟩
/-- String.isLatin1#0 -/
theorem t26 (hw : HW a0 Z) (SB0 : SB Z cv de ca) (r0 : Addr) (O0 : OL Z n0 h0) (q0 : P11 Z h0 r0 (.int 0))  : CT l Z y17 B21 1 (some .boolean) ⟨0, 0, 0, 0⟩ #[(.ref r0)] h0 (QP0 (some (.int 1)) h0 n0) := by
  refine ct_intro ?_
  intro p e s m below meth c s₁ E0 hx D hml hown hnm hrt X0 e0 hZ hE
  have Z0 := O0.le
  have K0 := Keep.refl h0 []
  have hws : ∀ w ∈ ([] : List Addr), n0 ≤ w := all0
  have N0 := Fr.nil n0
  have pre0 := ctp #[vr r0] hE
  obtain ⟨T1, X1, e1, st1⟩ := getS2 X0 hx hZ hown (host := "") (Or.inl (w_ hw 33 rfl)) Via.refl e0 (SB0.1.ext (O0.keep K0 hws).2) (g := (mkF m 0 #[vr r0] [])) rfl (D d21_0)
  obtain ⟨T2, X2, e2, st2⟩ := gF X1 hx hZ hown (w_ hw 51 rfl) Via.refl e1 q0 (g := (mkF m 7 #[vr r0] [(.ref r0)])) rfl rfl (D d21_7)
  refine ⟨(some (.int 1)), T2, _, _, _, X2, (fun hh => by cases hh), (by rw [e2]; exact ⟨rfl, N0, rfl⟩), (by decide), (by decide), fun fs hr => pre0 _ ?_⟩
  show SA p e below s₁ m 0 #[vr r0] [] _
  refine st1 _ ?_
  refine XS.ifNo X1.here hx rfl (D d21_3) rfl ((if0 _ _).trans (feq SB0.2.1).1) ?_
  refine XS.aloadN X1.here hx rfl (D d21_6) rfl rfl ?_
  refine st2 _ ?_
  refine XS.ifNo X2.here hx rfl (D d21_10) rfl ((if0 _ _).trans (teq (by decide : ((0 : Int32) = (0 : Int32)))).2) ?_
  refine XS.iconst X2.here hx rfl (D d21_13) ?_
  refine XS.goto X2.here hx rfl (pc0 := 14) (pc' := 18) rfl (D d21_14) (by decide) (by decide) ?_
  show SA p e below T2 m 18 #[vr r0] [(.int 1)] _
  exact retN X2 hx (t := .boolean) hrt (by simp) (D d21_18) hr
theorem pd11 : parseMethodDescriptor "()Z" = some ⟨[], some .boolean⟩ := by decide +kernel
abbrev y18 : MethodName := ⟨"java/lang/Object", "hashCode", "()I"⟩
abbrev y19 : MethodName := ⟨"java/lang/String", "hashCode", "()I"⟩
theorem d20_20 : decode B20 20 = .ok (.ifCond .eq 13, 3) := by decide +kernel
theorem d20_23 : decode B20 23 = .ok (.aload_n 0, 1) := by decide +kernel
theorem d20_24 : decode B20 24 = .ok (.getfield 9, 3) := by decide +kernel
theorem d20_27 : decode B20 27 = .ok (.invokestatic 628, 3) := by decide +kernel
abbrev B22 := jdk_43_method_21_code
theorem d22_0 : decode B22 0 = .ok (.aload_n 0, 1) := by decide +kernel
theorem d22_1 : decode B22 1 = .ok (.arraylength, 1) := by decide +kernel
theorem d22_2 : decode B22 2 = .ok (.lookupswitch 40 #[(0, 26), (1, 30)], 26) := by decide +kernel
theorem d22_32 : decode B22 32 = .ok (.aload_n 0, 1) := by decide +kernel
theorem d22_33 : decode B22 33 = .ok (.iconst 0, 1) := by decide +kernel
theorem d22_34 : decode B22 34 = .ok (.baload, 1) := by decide +kernel
theorem d22_35 : decode B22 35 = .ok (.sipush 255, 3) := by decide +kernel
theorem d22_38 : decode B22 38 = .ok (.iand, 1) := by decide +kernel
theorem d22_39 : decode B22 39 = .ok (.goto 12, 3) := by decide +kernel
theorem d22_51 : decode B22 51 = .ok (.ireturn, 1) := by decide +kernel
abbrev y20 : MethodName := ⟨"java/lang/StringLatin1", "hashCode", "([B)I"⟩
/-- StringLatin1.hashCode#0 -/
theorem t27 (hw : HW a0 Z) (SB0 : SB Z cv de ca) (r0 : Addr) (k1 : ClassId) (O0 : OL Z n0 h0) (q0 : Arv Z h0 r0 k1 .byte (1 : Int32) [(.int 97)] (.int 0))  : CT l Z y20 B22 1 (some .int) ⟨0, 0, 0, 0⟩ #[(.ref r0)] h0 (QP0 (some (.int 97)) h0 n0) := by
  refine ct_intro ?_
  intro p e s m below meth c s₁ E0 hx D hml hown hnm hrt X0 e0 hZ hE
  have N0 := Fr.nil n0
  have pre0 := ctp #[vr r0] hE
  obtain ⟨_, Ar1, -, S1, M1, -, -⟩ := id q0
  obtain ⟨_, Ar2, -, S2, M2, H2, -⟩ := id q0
  refine ⟨(some (.int 97)), s₁, _, _, _, X0, (fun hh => by cases hh), (by rw [e0]; exact ⟨rfl, N0, rfl⟩), (by decide), (by decide), fun fs hr => pre0 _ ?_⟩
  show SA p e below s₁ m 0 #[vr r0] [] _
  refine XS.aloadN X0.here hx rfl (D d22_0) rfl rfl ?_
  refine X0.arraylength hx (by rw [e0]; exact Ar1.1) (State.isArrayOf_alike hZ.alike Ar1.2.1) (g := (mkF m 1 #[vr r0] [(.ref r0)])) rfl rfl (D d22_1) _ ?_
  rw [len_of S1 M1]
  show SA p e below s₁ m 2 #[vr r0] [(.int 1)] _
  refine X0.lookupswitchHit hx (g := (mkF m 2 #[vr r0] [(.int 1)])) rfl rfl (D d22_2) (by decide) (a := 1) (off := 30) (by decide) (by show (0 : Int) ≤ ((2 : Nat) : Int) + 30; decide) _ ?_
  show SA p e below s₁ m 32 #[vr r0] [] _
  refine XS.aloadN X0.here hx rfl (D d22_32) rfl rfl ?_
  refine XS.iconst X0.here hx rfl (D d22_33) ?_
  refine X0.baloadBytes hx (j := (0 : Int32)) (v := (.int 97)) (by rw [e0]; exact Ar2.1) (State.isArrayOf_alike hZ.alike Ar2.2.1) Ar2.2.2 (inb_of S2 ⟨by decide, by decide⟩) (Has.at H2 (inb_of S2 ⟨by decide, by decide⟩) rfl) (g := (mkF m 34 #[vr r0] [(.int 0), (.ref r0)])) rfl rfl (D d22_34) _ ?_
  show SA p e below s₁ m 35 #[vr r0] [(.int 97)] _
  refine XS.sipush X0.here hx rfl (D d22_35) ?_
  refine XS.iand X0.here hx rfl (D d22_38) rfl ?_
  refine XS.goto X0.here hx rfl (pc0 := 39) (pc' := 51) rfl (D d22_39) (by decide) (by decide) ?_
  show SA p e below s₁ m 51 #[vr r0] [(.int 97)] _
  exact retOut X0 hx hrt rfl (Or.inl ⟨rfl, Or.inl rfl, _, rfl⟩) (D d22_51) hr
theorem pd12 : parseMethodDescriptor "([B)I" = some ⟨[(.array .byte)], some .int⟩ := by decide +kernel
theorem d20_30 : decode B20 30 = .ok (.goto 10, 3) := by decide +kernel
theorem d20_40 : decode B20 40 = .ok (.istore_n 1, 1) := by decide +kernel
theorem d20_41 : decode B20 41 = .ok (.iload_n 1, 1) := by decide +kernel
theorem d20_42 : decode B20 42 = .ok (.ifCond .ne 11, 3) := by decide +kernel
theorem d20_53 : decode B20 53 = .ok (.aload_n 0, 1) := by decide +kernel
theorem d20_54 : decode B20 54 = .ok (.iload_n 1, 1) := by decide +kernel
theorem d20_55 : decode B20 55 = .ok (.putfield 19, 3) := by decide +kernel
theorem d20_58 : decode B20 58 = .ok (.iload_n 1, 1) := by decide +kernel
theorem d20_59 : decode B20 59 = .ok (.ireturn, 1) := by decide +kernel
theorem sn32 {a0 Z} (hw : HW a0 Z) : S_13 Z ≠ S_12 Z := Jvm.RoadKit.slot_ne (ly13 hw) (ly12 hw) (by decide) pf2 pf0
def Q28 (Z : State) (cv : Int32) (de ca : Addr) (r0 r1 : Addr) (k2 : ClassId) (h0 : Heap) (n0 : Nat) (v : Option Value) (h : Heap) (L : List Loc) : Prop := v = (some (.int 97)) ∧ Fr n0 L ∧ Keep h0 h [r0] ∧ P12 Z h r0 (.int 97) ∧ P13 Z h r0 (.int 0) ∧ P11 Z h r0 (.int 0) ∧ P10 Z h r0 (.ref r1)
/-- String.hashCode#0 -/
theorem t28 (hw : HW a0 Z) (SB0 : SB Z cv de ca) (r0 r1 : Addr) (k2 : ClassId) (O0 : OL Z n0 h0) (q0 : P12 Z h0 r0 (.int 0)) (q1 : P13 Z h0 r0 (.int 0)) (q2 : E_2 Z h0 r0) (q3 : P11 Z h0 r0 (.int 0)) (q4 : P10 Z h0 r0 (.ref r1)) (q5 : Arv Z h0 r1 k2 .byte (1 : Int32) [(.int 97)] (.int 0)) (ge0 : n0 ≤ r0) : CT l Z y19 B20 2 (some .int) ⟨1, 0, 0, 12⟩ #[(.ref r0)] h0 (Q28 Z cv de ca r0 r1 k2 h0 n0) := by
  refine ct_intro ?_
  intro p e s m below meth c s₁ E0 hx D hml hown hnm hrt X0 e0 hZ hE
  have Z0 := O0.le
  have K0 := Keep.refl h0 [r0]
  have hws : ∀ w ∈ ([r0] : List Addr), n0 ≤ w := (allS ge0 all0)
  have N0 := Fr.nil n0
  have pre0 := ctp #[vr r0, un] hE
  obtain ⟨T1, X1, e1, st1⟩ := gF X0 hx hZ hown (w_ hw 133 rfl) Via.refl e0 q0 (g := (mkF m 1 #[vr r0, un] [(.ref r0)])) rfl rfl (D d20_1)
  obtain ⟨T2, X2, e2, st2⟩ := gF X1 hx hZ hown (w_ hw 135 rfl) Via.refl e1 q1 (g := (mkF m 10 #[vr r0, vi 0] [(.ref r0)])) rfl rfl (D d20_10)
  obtain ⟨v3, T3, L3, X3, Q3, st3⟩ := kV (y := y17) (z := y17) X2 hx hZ hown (t26 hw SB0 r0 (O0.keep K0 hws) q3) q2 (nf_of (x := y18) (y' := y19) (args := #[]) (mvT hZ (w_ hw 130 rfl)) rfl) (w_ hw 137 rfl) (w_ hw 138 rfl) (w_ hw 140 rfl) (w_ hw 139 rfl) (w_ hw 31 rfl) (w_ hw 141 rfl) e2 (g := (mkF m 17 #[vr r0, vi 0] [(.ref r0)])) rfl hml rfl (argsL := []) (rest := []) (lenOf pd11 rfl) rfl rfl (W := 0) rfl (D d20_17)
  obtain ⟨rfl, M3, e3⟩ := Q3
  have N3 := N0.app M3
  obtain ⟨T4, X4, e4, st4⟩ := gF X3 hx hZ hown (w_ hw 49 rfl) Via.refl e3 q4 (g := (mkF m 24 #[vr r0, vi 0] [(.ref r0)])) rfl rfl (D d20_24)
  obtain ⟨v5, T5, L5, X5, Q5, st5⟩ := kS X4 hx hZ hown (t27 hw SB0 r1 k2 (O0.keep K0 hws) q5) (w_ hw 142 rfl) (w_ hw 143 rfl) (w_ hw 36 rfl) (w_ hw 144 rfl) e4 (g := (mkF m 27 #[vr r0, vi 0] [(.ref r1)])) rfl hml rfl (argsL := [(.ref r1)]) (rest := []) (lenOf pd12 rfl) rfl rfl (W := 0) rfl (D d20_27)
  obtain ⟨rfl, M5, e5⟩ := Q5
  have N5 := N3.app M5
  obtain ⟨T6, h6, X6, e6, W6, st6⟩ := putF X5 hx hZ hown (host := "") (Or.inl (w_ hw 133 rfl)) Via.refl e5 q0 q2 (Or.inl (w_ hw 134 rfl)) (w_ hw 39 rfl) (ty := .int) (by decide) rfl rfl (g := (mkF m 55 #[vr r0, vi 97] [(.int 97), (.ref r0)])) rfl rfl (D d20_55)
  have N6 := Fr.snoc X6 N5 ge0
  have k6 := K0.wr W6 (Or.inl (List.mem_of_getElem? (i := 0) rfl))
  have v6 := q0.same W6
  have f7 := (q1.other W6 (Or.inr (sn32 hw)))
  have f8 := (q3.other W6 (Or.inr (Ne.symm (sn26 hw))))
  have f9 := (q4.other W6 (Or.inr (Ne.symm (sn25 hw))))
  refine ⟨(some (.int 97)), T6, _, _, _, X6, (fun hh => by cases hh), (by rw [e6]; exact ⟨rfl, N6, k6, v6, f7, f8, f9⟩), (by decide), (by decide), fun fs hr => pre0 _ ?_⟩
  show SA p e below s₁ m 0 #[vr r0, un] [] _
  refine XS.aloadN X0.here hx rfl (D d20_0) rfl rfl ?_
  refine st1 _ ?_
  refine XS.istoreN X1.here hx rfl (D d20_4) rfl (l' := #[vr r0, vi 0]) rfl ?_
  refine XS.iloadN X1.here hx rfl (D d20_5) rfl ?_
  refine XS.ifNo X1.here hx rfl (D d20_6) rfl ((if0 _ _).trans (teq (by decide : ((0 : Int32) = (0 : Int32)))).2) ?_
  refine XS.aloadN X1.here hx rfl (D d20_9) rfl rfl ?_
  refine st2 _ ?_
  refine XS.ifNo X2.here hx rfl (D d20_13) rfl ((if0 _ _).trans (teq (by decide : ((0 : Int32) = (0 : Int32)))).2) ?_
  refine XS.aloadN X2.here hx rfl (D d20_16) rfl rfl ?_
  refine st3 _ ?_
  refine XS.ifNo X3.here hx rfl (D d20_20) rfl ((if0 _ _).trans (feq (by decide : ¬ ((1 : Int32) = (0 : Int32)))).1) ?_
  refine XS.aloadN X3.here hx rfl (D d20_23) rfl rfl ?_
  refine st4 _ ?_
  refine st5 _ ?_
  refine XS.goto X5.here hx rfl (pc0 := 30) (pc' := 40) rfl (D d20_30) (by decide) (by decide) ?_
  refine XS.istoreN X5.here hx rfl (D d20_40) rfl (l' := #[vr r0, vi 97]) rfl ?_
  refine XS.iloadN X5.here hx rfl (D d20_41) rfl ?_
  refine XS.ifYes X5.here hx rfl (pc0 := 42) (pc' := 53) rfl (D d20_42) rfl ((if0 _ _).trans (feq (by decide : ¬ ((97 : Int32) = (0 : Int32)))).2) (by decide) (by decide) ?_
  refine XS.aloadN X5.here hx rfl (D d20_53) rfl rfl ?_
  refine XS.iloadN X5.here hx rfl (D d20_54) rfl ?_
  refine st6 _ ?_
  refine XS.iloadN X6.here hx rfl (D d20_58) rfl ?_
  show SA p e below T6 m 59 #[vr r0, vi 97] [(.int 97)] _
  exact retOut X6 hx hrt rfl (Or.inl ⟨rfl, Or.inl rfl, _, rfl⟩) (D d20_59) hr
theorem pd13 : parseMethodDescriptor "()I" = some ⟨[], some .int⟩ := by decide +kernel
abbrev y21 : MethodName := ⟨"[I", "clone", "()Ljava/lang/Object;"⟩
abbrev y22 : MethodName := ⟨"java/lang/Object", "clone", "()Ljava/lang/Object;"⟩
theorem d19_12 : decode B19 12 = .ok (.dup, 1) := by decide +kernel
theorem d19_13 : decode B19 13 = .ok (.istore_n 1, 1) := by decide +kernel
theorem d19_14 : decode B19 14 = .ok (.iload_n 1, 1) := by decide +kernel
theorem d19_15 : decode B19 15 = .ok (.bipush 16, 2) := by decide +kernel
theorem d19_17 : decode B19 17 = .ok (.iushr, 1) := by decide +kernel
theorem d19_18 : decode B19 18 = .ok (.ixor, 1) := by decide +kernel
theorem d19_19 : decode B19 19 = .ok (.ireturn, 1) := by decide +kernel
abbrev y23 : MethodName := ⟨"java/util/HashMap", "hash", "(Ljava/lang/Object;)I"⟩
def Q29 (Z : State) (cv : Int32) (de ca : Addr) (r0 r1 : Addr) (k2 : ClassId) (h0 : Heap) (n0 : Nat) (v : Option Value) (h : Heap) (L : List Loc) : Prop := v = (some (.int 97)) ∧ Fr n0 L ∧ Keep h0 h [r0] ∧ P12 Z h r0 (.int 97) ∧ P13 Z h r0 (.int 0) ∧ P11 Z h r0 (.int 0) ∧ P10 Z h r0 (.ref r1)
/-- HashMap.hash#0 -/
theorem t29 (hw : HW a0 Z) (SB0 : SB Z cv de ca) (r0 r1 : Addr) (k2 : ClassId) (O0 : OL Z n0 h0) (q0 : E_2 Z h0 r0) (q1 : P12 Z h0 r0 (.int 0)) (q2 : P13 Z h0 r0 (.int 0)) (q3 : P11 Z h0 r0 (.int 0)) (q4 : P10 Z h0 r0 (.ref r1)) (q5 : Arv Z h0 r1 k2 .byte (1 : Int32) [(.int 97)] (.int 0)) (ge0 : n0 ≤ r0) : CT l Z y23 B19 2 (some .int) ⟨2, 0, 0, 25⟩ #[(.ref r0)] h0 (Q29 Z cv de ca r0 r1 k2 h0 n0) := by
  refine ct_intro ?_
  intro p e s m below meth c s₁ E0 hx D hml hown hnm hrt X0 e0 hZ hE
  have Z0 := O0.le
  have K0 := Keep.refl h0 [r0]
  have hws : ∀ w ∈ ([r0] : List Addr), n0 ≤ w := (allS ge0 all0)
  have N0 := Fr.nil n0
  have pre0 := ctp #[vr r0, un] hE
  obtain ⟨v1, T1, L1, X1, Q1, st1⟩ := kV (y := y18) (z := y19) X0 hx hZ hown (t28 hw SB0 r0 r1 k2 (O0.keep K0 hws) q1 q2 q0 q3 q4 q5 ge0) q0 (nf_of (x := y21) (y' := y22) (args := #[]) (mvT hZ (w_ hw 424 rfl)) rfl) (w_ hw 127 rfl) (w_ hw 128 rfl) (w_ hw 130 rfl) (w_ hw 131 rfl) (w_ hw 31 rfl) (w_ hw 132 rfl) e0 (g := (mkF m 9 #[vr r0, un] [(.ref r0)])) rfl hml rfl (argsL := []) (rest := []) (lenOf pd13 rfl) rfl rfl (W := 0) rfl (D d19_9)
  obtain ⟨h1, e1⟩ : ∃ z, T1.heap = z := ⟨_, rfl⟩
  rw [e1] at Q1
  obtain ⟨rfl, M1, K1, F1_0, F1_1, F1_2, F1_3⟩ := Q1
  have N1 := N0.app M1
  have k1 := K0.trans K1 (allS (Or.inl (List.mem_of_getElem? (i := 0) rfl)) all0)
  refine ⟨(some (.int 97)), T1, _, _, _, X1, (fun hh => by cases hh), (by rw [e1]; exact ⟨rfl, N1, k1, F1_0, F1_1, F1_2, F1_3⟩), (by decide), (by decide), fun fs hr => pre0 _ ?_⟩
  show SA p e below s₁ m 0 #[vr r0, un] [] _
  refine XS.aloadN X0.here hx rfl (D d19_0) rfl rfl ?_
  refine XS.ifnonnullYes X0.here hx rfl (pc0 := 1) (pc' := 8) rfl (D d19_1) rfl (by decide) (by decide) ?_
  refine XS.aloadN X0.here hx rfl (D d19_8) rfl rfl ?_
  refine st1 _ ?_
  refine XS.dup X1.here hx rfl (D d19_12) rfl rfl ?_
  refine XS.istoreN X1.here hx rfl (D d19_13) rfl (l' := #[vr r0, vi 97]) rfl ?_
  refine XS.iloadN X1.here hx rfl (D d19_14) rfl ?_
  refine XS.bipush X1.here hx rfl (D d19_15) ?_
  refine XS.iushr X1.here hx rfl (D d19_17) rfl ?_
  refine XS.ixor X1.here hx rfl (D d19_18) rfl ?_
  show SA p e below T1 m 19 #[vr r0, vi 97] [(.int 97)] _
  exact retOut X1 hx hrt rfl (Or.inl ⟨rfl, Or.inl rfl, _, rfl⟩) (D d19_19) hr
theorem pd14 : parseMethodDescriptor "(Ljava/lang/Object;)I" = some ⟨[(.object "java/lang/Object")], some .int⟩ := by decide +kernel
theorem d18_5 : decode B18 5 = .ok (.aload_n 1, 1) := by decide +kernel
theorem d18_6 : decode B18 6 = .ok (.aload_n 2, 1) := by decide +kernel
theorem d18_7 : decode B18 7 = .ok (.iconst 0, 1) := by decide +kernel
theorem d18_8 : decode B18 8 = .ok (.iconst 1, 1) := by decide +kernel
theorem d18_9 : decode B18 9 = .ok (.invokevirtual 152, 3) := by decide +kernel
abbrev B23 := jdk_69_method_16_code
theorem d23_0 : decode B23 0 = .ok (.aload_n 0, 1) := by decide +kernel
theorem d23_1 : decode B23 1 = .ok (.getfield 105, 3) := by decide +kernel
theorem d23_4 : decode B23 4 = .ok (.dup, 1) := by decide +kernel
theorem d23_5 : decode B23 5 = .ok (.astore 6, 2) := by decide +kernel
theorem d23_7 : decode B23 7 = .ok (.ifnull 12, 3) := by decide +kernel
theorem d23_19 : decode B23 19 = .ok (.aload_n 0, 1) := by decide +kernel
theorem d23_20 : decode B23 20 = .ok (.invokevirtual 117, 3) := by decide +kernel
abbrev B24 := jdk_69_method_17_code
theorem d24_0 : decode B24 0 = .ok (.aload_n 0, 1) := by decide +kernel
theorem d24_1 : decode B24 1 = .ok (.getfield 105, 3) := by decide +kernel
theorem d24_4 : decode B24 4 = .ok (.astore_n 1, 1) := by decide +kernel
theorem d24_5 : decode B24 5 = .ok (.aload_n 1, 1) := by decide +kernel
theorem d24_6 : decode B24 6 = .ok (.ifnonnull 7, 3) := by decide +kernel
theorem d24_9 : decode B24 9 = .ok (.iconst 0, 1) := by decide +kernel
theorem d24_10 : decode B24 10 = .ok (.goto 5, 3) := by decide +kernel
theorem d24_15 : decode B24 15 = .ok (.istore_n 2, 1) := by decide +kernel
theorem d24_16 : decode B24 16 = .ok (.aload_n 0, 1) := by decide +kernel
theorem d24_17 : decode B24 17 = .ok (.getfield 88, 3) := by decide +kernel
theorem d24_20 : decode B24 20 = .ok (.istore_n 3, 1) := by decide +kernel
theorem d24_21 : decode B24 21 = .ok (.iconst 0, 1) := by decide +kernel
theorem d24_22 : decode B24 22 = .ok (.istore 5, 2) := by decide +kernel
theorem d24_24 : decode B24 24 = .ok (.iload_n 2, 1) := by decide +kernel
theorem d24_25 : decode B24 25 = .ok (.ifCond .le 42, 3) := by decide +kernel
theorem d24_67 : decode B24 67 = .ok (.iload_n 3, 1) := by decide +kernel
theorem d24_68 : decode B24 68 = .ok (.ifCond .le 9, 3) := by decide +kernel
theorem d24_77 : decode B24 77 = .ok (.bipush 16, 2) := by decide +kernel
theorem d24_79 : decode B24 79 = .ok (.istore 4, 2) := by decide +kernel
theorem d24_81 : decode B24 81 = .ok (.bipush 12, 2) := by decide +kernel
theorem d24_83 : decode B24 83 = .ok (.istore 5, 2) := by decide +kernel
theorem d24_85 : decode B24 85 = .ok (.iload 5, 2) := by decide +kernel
theorem d24_87 : decode B24 87 = .ok (.ifCond .ne 38, 3) := by decide +kernel
theorem d24_125 : decode B24 125 = .ok (.aload_n 0, 1) := by decide +kernel
theorem d24_126 : decode B24 126 = .ok (.iload 5, 2) := by decide +kernel
theorem d24_128 : decode B24 128 = .ok (.putfield 88, 3) := by decide +kernel
theorem d24_131 : decode B24 131 = .ok (.iload 4, 2) := by decide +kernel
theorem d24_133 : decode B24 133 = .ok (.anewarray 163, 3) := by decide +kernel
theorem d24_136 : decode B24 136 = .ok (.astore 6, 2) := by decide +kernel
theorem d24_138 : decode B24 138 = .ok (.aload_n 0, 1) := by decide +kernel
theorem d24_139 : decode B24 139 = .ok (.aload 6, 2) := by decide +kernel
theorem d24_141 : decode B24 141 = .ok (.putfield 105, 3) := by decide +kernel
theorem sn33 {a0 Z} (hw : HW a0 Z) : S_3 Z ≠ S_4 Z := Jvm.RoadKit.slot_ne (ly3 hw) (ly4 hw) (by decide) pf3 pf0
theorem d24_144 : decode B24 144 = .ok (.aload_n 1, 1) := by decide +kernel
theorem d24_145 : decode B24 145 = .ok (.ifnull 208, 3) := by decide +kernel
theorem d24_353 : decode B24 353 = .ok (.aload 6, 2) := by decide +kernel
theorem d24_355 : decode B24 355 = .ok (.areturn, 1) := by decide +kernel
theorem sn34 {a0 Z} (hw : HW a0 Z) : S_5 Z ≠ S_4 Z := Jvm.RoadKit.slot_ne (ly5 hw) (ly4 hw) (by decide) pf4 pf0
theorem sn35 {a0 Z} (hw : HW a0 Z) : S_5 Z ≠ S_3 Z := Jvm.RoadKit.slot_ne (ly5 hw) (ly3 hw) (by decide) pf4 pf3
theorem sn36 {a0 Z} (hw : HW a0 Z) : S_6 Z ≠ S_4 Z := Jvm.RoadKit.slot_ne (ly6 hw) (ly4 hw) (by decide) pf4 pf0
theorem sn37 {a0 Z} (hw : HW a0 Z) : S_6 Z ≠ S_3 Z := Jvm.RoadKit.slot_ne (ly6 hw) (ly3 hw) (by decide) pf4 pf3
theorem sn38 {a0 Z} (hw : HW a0 Z) : S_7 Z ≠ S_4 Z := Jvm.RoadKit.slot_ne (ly7 hw) (ly4 hw) (by decide) pf0 pf0
theorem sn39 {a0 Z} (hw : HW a0 Z) : S_7 Z ≠ S_3 Z := Jvm.RoadKit.slot_ne (ly7 hw) (ly3 hw) (by decide) pf0 pf3
theorem sn40 {a0 Z} (hw : HW a0 Z) : S_8 Z ≠ S_4 Z := Jvm.RoadKit.slot_ne (ly8 hw) (ly4 hw) (by decide) pf0 pf0
theorem sn41 {a0 Z} (hw : HW a0 Z) : S_8 Z ≠ S_3 Z := Jvm.RoadKit.slot_ne (ly8 hw) (ly3 hw) (by decide) pf0 pf3
theorem sn42 {a0 Z} (hw : HW a0 Z) : S_9 Z ≠ S_4 Z := Jvm.RoadKit.slot_ne (ly9 hw) (ly4 hw) (by decide) pf5 pf0
theorem sn43 {a0 Z} (hw : HW a0 Z) : S_9 Z ≠ S_3 Z := Jvm.RoadKit.slot_ne (ly9 hw) (ly3 hw) (by decide) pf5 pf3
abbrev E_5 (Z : State) (h : Heap) (a : Addr) : Prop := Exa Z h a "[Ljava/util/HashMap$Node;"
abbrev y24 : MethodName := ⟨"java/util/HashMap", "resize", "()[Ljava/util/HashMap$Node;"⟩
def Q30 (Z : State) (cv : Int32) (de ca : Addr) (r0 : Addr) (h0 : Heap) (n0 : Nat) (v : Option Value) (h : Heap) (L : List Loc) : Prop := ∃ (b4 : Addr) (c4 : ClassId), v = (some (.ref b4)) ∧ Fr n0 L ∧ Keep h0 h [r0] ∧ h0.size ≤ b4 ∧ P3 Z h r0 (.ref b4) ∧ P4 Z h r0 (.int 12) ∧ P1 Z h r0 (.int 0) ∧ P2 Z h r0 (.int 0) ∧ P5 Z h r0 .null ∧ P6 Z h r0 .null ∧ P7 Z h r0 (.int 0) ∧ P8 Z h r0 (.int 0) ∧ P9 Z h r0 .null ∧ E_5 Z h b4 ∧ Arv Z h b4 c4 (.object "java/util/HashMap$Node") (16 : Int32) [.null, .null, .null, .null, .null, .null, .null, .null, .null, .null, .null, .null, .null, .null, .null, .null] .null ∧ Ovr Z c4 "java/util/HashMap$Node"
/-- HashMap.resize#0 -/
theorem t30 (hw : HW a0 Z) (SB0 : SB Z cv de ca) (r0 : Addr) (O0 : OL Z n0 h0) (q0 : P3 Z h0 r0 .null) (q1 : P4 Z h0 r0 (.int 0)) (q2 : E_0 Z h0 r0) (q3 : P1 Z h0 r0 (.int 0)) (q4 : P2 Z h0 r0 (.int 0)) (q5 : P5 Z h0 r0 .null) (q6 : P6 Z h0 r0 .null) (q7 : P7 Z h0 r0 (.int 0)) (q8 : P8 Z h0 r0 (.int 0)) (q9 : P9 Z h0 r0 .null) (ge0 : n0 ≤ r0) : CT l Z y24 B24 14 (some (.array (.object "java/util/HashMap$Node"))) ⟨0, 1, 16, 0⟩ #[(.ref r0)] h0 (Q30 Z cv de ca r0 h0 n0) := by
  refine ct_intro ?_
  intro p e s m below meth c s₁ E0 hx D hml hown hnm hrt X0 e0 hZ hE
  have Z0 := O0.le
  have K0 := Keep.refl h0 [r0]
  have hws : ∀ w ∈ ([r0] : List Addr), n0 ≤ w := (allS ge0 all0)
  have N0 := Fr.nil n0
  have pre0 := ctp #[vr r0, un, un, un, un, un, un, un, un, un, un, un, un, un] hE
  obtain ⟨T1, X1, e1, st1⟩ := gF X0 hx hZ hown (w_ hw 150 rfl) Via.refl e0 q0 (g := (mkF m 1 #[vr r0, un, un, un, un, un, un, un, un, un, un, un, un, un] [(.ref r0)])) rfl rfl (D d24_1)
  obtain ⟨T2, X2, e2, st2⟩ := gF X1 hx hZ hown (w_ hw 157 rfl) Via.refl e1 q1 (g := (mkF m 17 #[vr r0, .val .null, vi 0, un, un, un, un, un, un, un, un, un, un, un] [(.ref r0)])) rfl rfl (D d24_17)
  obtain ⟨T3, h3, X3, e3, W3, st3⟩ := putF X2 hx hZ hown (host := "") (Or.inl (w_ hw 157 rfl)) Via.refl e2 q1 q2 (Or.inl (w_ hw 158 rfl)) (w_ hw 2 rfl) (ty := .int) (by decide) rfl rfl (g := (mkF m 128 #[vr r0, .val .null, vi 0, vi 0, vi 16, vi 12, un, un, un, un, un, un, un, un] [(.int 12), (.ref r0)])) rfl rfl (D d24_128)
  have N3 := Fr.snoc X3 N0 ge0
  have k3 := K0.wr W3 (Or.inl (List.mem_of_getElem? (i := 0) rfl))
  have v3 := q1.same W3
  obtain ⟨T4, h4, c4, X4, e4, E4, A4, B4, O4, st4⟩ := newRE X3 hx hZ hown (w_ hw 159 rfl) (w_ hw 160 rfl) e3 (g := (mkF m 133 #[vr r0, .val .null, vi 0, vi 0, vi 16, vi 12, un, un, un, un, un, un, un, un] [(.int 16)])) rfl (D d24_133) rfl (by decide) (cap := 16) (by decide) (by decide) (by decide) (by decide) (ad := "[Ljava/util/HashMap$Node;") (by decide)
  obtain ⟨b4, g4⟩ : ∃ z, z = h3.size := ⟨_, rfl⟩
  rw [← g4] at A4 B4 st4
  have z4 : h0.size ≤ b4 := Nat.le_trans k3.1 (Nat.le_of_eq g4.symm)
  have k4 := k3.ext E4
  have v4 : Arv Z h4 b4 c4 (.object "java/util/HashMap$Node") (16 : Int32) [.null, .null, .null, .null, .null, .null, .null, .null, .null, .null, .null, .null, .null, .null, .null, .null] .null := (Arv.new A4 (by decide)).pad (pad_rep [] .null 16)
  have f5 := ((q0.other W3 (Or.inr (sn33 hw))).ext E4)
  have f6 := ((q2.wr W3).ext E4)
  obtain ⟨T7, h7, X7, e7, W7, st7⟩ := putF X4 hx hZ hown (host := "") (Or.inl (w_ hw 150 rfl)) Via.refl e4 f5 f6 (Or.inl (w_ hw 151 rfl)) (w_ hw 2 rfl) (ty := (.array (.object "java/util/HashMap$Node"))) (by decide) rfl rfl (g := (mkF m 141 #[vr r0, .val .null, vi 0, vi 0, vi 16, vi 12, vr b4, un, un, un, un, un, un, un] [(.ref b4), (.ref r0)])) rfl rfl (D d24_141)
  have N7 := Fr.snoc X7 N3 ge0
  have k7 := k4.wr W7 (Or.inl (List.mem_of_getElem? (i := 0) rfl))
  have v7 := f5.same W7
  have f8 := ((v3.ext E4).other W7 (Or.inr (Ne.symm (sn33 hw))))
  have f9 := (((q3.other W3 (Or.inr (Ne.symm (sn12 hw)))).ext E4).other W7 (Or.inr (Ne.symm (sn10 hw))))
  have f10 := (((q4.other W3 (Or.inr (Ne.symm (sn13 hw)))).ext E4).other W7 (Or.inr (Ne.symm (sn11 hw))))
  have f11 := (((q5.other W3 (Or.inr (sn34 hw))).ext E4).other W7 (Or.inr (sn35 hw)))
  have f12 := (((q6.other W3 (Or.inr (sn36 hw))).ext E4).other W7 (Or.inr (sn37 hw)))
  have f13 := (((q7.other W3 (Or.inr (sn38 hw))).ext E4).other W7 (Or.inr (sn39 hw)))
  have f14 := (((q8.other W3 (Or.inr (sn40 hw))).ext E4).other W7 (Or.inr (sn41 hw)))
  have f15 := (((q9.other W3 (Or.inr (sn42 hw))).ext E4).other W7 (Or.inr (sn43 hw)))
  have f16 := (B4.wr W7)
  have f18 := (f6.wr W7)
  have ne17 : b4 ≠ r0 := Exa.ne f16 f18 (by decide)
  have f19 := (v4.other W7 ne17)
  refine ⟨(some (.ref b4)), T7, _, _, _, X7, (fun hh => by cases hh), (by rw [e7]; exact ⟨b4, c4, rfl, N7, k7, z4, v7, f8, f9, f10, f11, f12, f13, f14, f15, f16, f19, O4⟩), (by decide), (by decide), fun fs hr => pre0 _ ?_⟩
  show SA p e below s₁ m 0 #[vr r0, un, un, un, un, un, un, un, un, un, un, un, un, un] [] _
  refine XS.aloadN X0.here hx rfl (D d24_0) rfl rfl ?_
  refine st1 _ ?_
  refine XS.astoreN X1.here hx rfl (D d24_4) rfl rfl (l' := #[vr r0, .val .null, un, un, un, un, un, un, un, un, un, un, un, un]) rfl ?_
  refine XS.aloadN X1.here hx rfl (D d24_5) rfl rfl ?_
  refine XS.ifnonnullNo X1.here hx rfl (D d24_6) rfl ?_
  refine XS.iconst X1.here hx rfl (D d24_9) ?_
  refine XS.goto X1.here hx rfl (pc0 := 10) (pc' := 15) rfl (D d24_10) (by decide) (by decide) ?_
  refine XS.istoreN X1.here hx rfl (D d24_15) rfl (l' := #[vr r0, .val .null, vi 0, un, un, un, un, un, un, un, un, un, un, un]) rfl ?_
  refine XS.aloadN X1.here hx rfl (D d24_16) rfl rfl ?_
  refine st2 _ ?_
  refine XS.istoreN X2.here hx rfl (D d24_20) rfl (l' := #[vr r0, .val .null, vi 0, vi 0, un, un, un, un, un, un, un, un, un, un]) rfl ?_
  refine XS.iconst X2.here hx rfl (D d24_21) ?_
  refine XS.istore X2.here hx rfl (D d24_22) rfl (l' := #[vr r0, .val .null, vi 0, vi 0, un, vi 0, un, un, un, un, un, un, un, un]) rfl ?_
  refine XS.iloadN X2.here hx rfl (D d24_24) rfl ?_
  refine XS.ifYes X2.here hx rfl (pc0 := 25) (pc' := 67) rfl (D d24_25) rfl ((if0 _ _).trans (flt (by decide : ¬ ((0 : Int32) < (0 : Int32)))).2.2.2) (by decide) (by decide) ?_
  refine XS.iloadN X2.here hx rfl (D d24_67) rfl ?_
  refine XS.ifYes X2.here hx rfl (pc0 := 68) (pc' := 77) rfl (D d24_68) rfl ((if0 _ _).trans (flt (by decide : ¬ ((0 : Int32) < (0 : Int32)))).2.2.2) (by decide) (by decide) ?_
  refine XS.bipush X2.here hx rfl (D d24_77) ?_
  refine XS.istore X2.here hx rfl (D d24_79) rfl (l' := #[vr r0, .val .null, vi 0, vi 0, vi 16, vi 0, un, un, un, un, un, un, un, un]) rfl ?_
  refine XS.bipush X2.here hx rfl (D d24_81) ?_
  refine XS.istore X2.here hx rfl (D d24_83) rfl (l' := #[vr r0, .val .null, vi 0, vi 0, vi 16, vi 12, un, un, un, un, un, un, un, un]) rfl ?_
  refine XS.iload X2.here hx rfl (D d24_85) rfl ?_
  refine XS.ifYes X2.here hx rfl (pc0 := 87) (pc' := 125) rfl (D d24_87) rfl ((if0 _ _).trans (feq (by decide : ¬ ((12 : Int32) = (0 : Int32)))).2) (by decide) (by decide) ?_
  refine XS.aloadN X2.here hx rfl (D d24_125) rfl rfl ?_
  refine XS.iload X2.here hx rfl (D d24_126) rfl ?_
  refine st3 _ ?_
  refine XS.iload X3.here hx rfl (D d24_131) rfl ?_
  refine st4 _ ?_
  refine XS.astore X4.here hx rfl (D d24_136) rfl rfl (l' := #[vr r0, .val .null, vi 0, vi 0, vi 16, vi 12, vr b4, un, un, un, un, un, un, un]) rfl ?_
  refine XS.aloadN X4.here hx rfl (D d24_138) rfl rfl ?_
  refine XS.aload X4.here hx rfl (D d24_139) rfl rfl ?_
  refine st7 _ ?_
  refine XS.aloadN X7.here hx rfl (D d24_144) rfl rfl ?_
  refine XS.ifnullYes X7.here hx rfl (pc0 := 145) (pc' := 353) rfl (D d24_145) rfl (by decide) (by decide) ?_
  refine XS.aload X7.here hx rfl (D d24_353) rfl rfl ?_
  show SA p e below T7 m 355 #[vr r0, .val .null, vi 0, vi 0, vi 16, vi 12, vr b4, un, un, un, un, un, un, un] [(.ref b4)] _
  exact retOut X7 hx hrt rfl (Or.inr (Or.inr (Or.inr (Or.inr ⟨rfl, rfl, rfl⟩)))) (D d24_355) hr
theorem pd15 : parseMethodDescriptor "()[Ljava/util/HashMap$Node;" = some ⟨[], some (.array (.object "java/util/HashMap$Node"))⟩ := by decide +kernel
abbrev y25 : MethodName := ⟨"java/util/Map", "put", "(Ljava/lang/Object;Ljava/lang/Object;)Ljava/lang/Object;"⟩
abbrev y26 : MethodName := ⟨"java/util/HashMap", "put", "(Ljava/lang/Object;Ljava/lang/Object;)Ljava/lang/Object;"⟩
theorem d23_23 : decode B23 23 = .ok (.dup, 1) := by decide +kernel
theorem d23_24 : decode B23 24 = .ok (.astore 6, 2) := by decide +kernel
theorem d23_26 : decode B23 26 = .ok (.arraylength, 1) := by decide +kernel
theorem d23_27 : decode B23 27 = .ok (.istore 8, 2) := by decide +kernel
theorem d23_29 : decode B23 29 = .ok (.aload 6, 2) := by decide +kernel
theorem d23_31 : decode B23 31 = .ok (.iload 8, 2) := by decide +kernel
theorem d23_33 : decode B23 33 = .ok (.iconst 1, 1) := by decide +kernel
theorem d23_34 : decode B23 34 = .ok (.isub, 1) := by decide +kernel
theorem d23_35 : decode B23 35 = .ok (.iload_n 1, 1) := by decide +kernel
theorem d23_36 : decode B23 36 = .ok (.iand, 1) := by decide +kernel
theorem d23_37 : decode B23 37 = .ok (.dup, 1) := by decide +kernel
theorem d23_38 : decode B23 38 = .ok (.istore 9, 2) := by decide +kernel
theorem d23_40 : decode B23 40 = .ok (.aaload, 1) := by decide +kernel
theorem d23_41 : decode B23 41 = .ok (.dup, 1) := by decide +kernel
theorem d23_42 : decode B23 42 = .ok (.astore 7, 2) := by decide +kernel
theorem d23_44 : decode B23 44 = .ok (.ifnonnull 19, 3) := by decide +kernel
theorem d23_47 : decode B23 47 = .ok (.aload 6, 2) := by decide +kernel
theorem d23_49 : decode B23 49 = .ok (.iload 9, 2) := by decide +kernel
theorem d23_51 : decode B23 51 = .ok (.aload_n 0, 1) := by decide +kernel
theorem d23_52 : decode B23 52 = .ok (.iload_n 1, 1) := by decide +kernel
theorem d23_53 : decode B23 53 = .ok (.aload_n 2, 1) := by decide +kernel
theorem d23_54 : decode B23 54 = .ok (.aload_n 3, 1) := by decide +kernel
theorem d23_55 : decode B23 55 = .ok (.aconst_null, 1) := by decide +kernel
theorem d23_56 : decode B23 56 = .ok (.invokevirtual 186, 3) := by decide +kernel
abbrev B25 := jdk_94_method_4_code
theorem d25_0 : decode B25 0 = .ok (.new 15, 3) := by decide +kernel
abbrev P17 (Z : State) (h : Heap) (a : Addr) (v : Value) : Prop := Fld Z h a "java/util/HashMap$Node" "hash" "I" v
abbrev P18 (Z : State) (h : Heap) (a : Addr) (v : Value) : Prop := Fld Z h a "java/util/HashMap$Node" "key" "Ljava/lang/Object;" v
abbrev P19 (Z : State) (h : Heap) (a : Addr) (v : Value) : Prop := Fld Z h a "java/util/HashMap$Node" "value" "Ljava/lang/Object;" v
abbrev P20 (Z : State) (h : Heap) (a : Addr) (v : Value) : Prop := Fld Z h a "java/util/HashMap$Node" "next" "Ljava/util/HashMap$Node;" v
abbrev P21 (Z : State) (h : Heap) (a : Addr) (v : Value) : Prop := Fld Z h a "java/util/LinkedHashMap$Entry" "after" "Ljava/util/LinkedHashMap$Entry;" v
abbrev P22 (Z : State) (h : Heap) (a : Addr) (v : Value) : Prop := Fld Z h a "java/util/LinkedHashMap$Entry" "before" "Ljava/util/LinkedHashMap$Entry;" v
theorem d25_3 : decode B25 3 = .ok (.dup, 1) := by decide +kernel
theorem d25_4 : decode B25 4 = .ok (.iload_n 1, 1) := by decide +kernel
theorem d25_5 : decode B25 5 = .ok (.aload_n 2, 1) := by decide +kernel
theorem d25_6 : decode B25 6 = .ok (.aload_n 3, 1) := by decide +kernel
theorem d25_7 : decode B25 7 = .ok (.aload 4, 2) := by decide +kernel
theorem d25_9 : decode B25 9 = .ok (.invokespecial 28, 3) := by decide +kernel
abbrev B26 := jdk_83_method_1_code
theorem d26_0 : decode B26 0 = .ok (.aload_n 0, 1) := by decide +kernel
theorem d26_1 : decode B26 1 = .ok (.iload_n 1, 1) := by decide +kernel
theorem d26_2 : decode B26 2 = .ok (.aload_n 2, 1) := by decide +kernel
theorem d26_3 : decode B26 3 = .ok (.aload_n 3, 1) := by decide +kernel
theorem d26_4 : decode B26 4 = .ok (.aload 4, 2) := by decide +kernel
theorem d26_6 : decode B26 6 = .ok (.invokespecial 1, 3) := by decide +kernel
abbrev B27 := jdk_70_method_1_code
theorem d27_0 : decode B27 0 = .ok (.aload_n 0, 1) := by decide +kernel
theorem d27_1 : decode B27 1 = .ok (.invokespecial 1, 3) := by decide +kernel
theorem d27_4 : decode B27 4 = .ok (.aload_n 0, 1) := by decide +kernel
theorem d27_5 : decode B27 5 = .ok (.iload_n 1, 1) := by decide +kernel
theorem d27_6 : decode B27 6 = .ok (.putfield 7, 3) := by decide +kernel
abbrev E_6 (Z : State) (h : Heap) (a : Addr) : Prop := Exa Z h a "java/util/LinkedHashMap$Entry"
theorem d27_9 : decode B27 9 = .ok (.aload_n 0, 1) := by decide +kernel
theorem d27_10 : decode B27 10 = .ok (.aload_n 2, 1) := by decide +kernel
theorem d27_11 : decode B27 11 = .ok (.putfield 13, 3) := by decide +kernel
abbrev S_17 (Z : State) := Jvm.RoadKit.slotOf Z "java/util/HashMap$Node" "key" "Ljava/lang/Object;"
abbrev S_18 (Z : State) := Jvm.RoadKit.slotOf Z "java/util/HashMap$Node" "hash" "I"
theorem ly17 {a0 Z} (hw : HW a0 Z) : Laid Z a0 "java/util/LinkedHashMap$Entry" "java/util/HashMap$Node" "key" "Ljava/lang/Object;" := (Or.inr (w_ hw 184 rfl))
theorem ly18 {a0 Z} (hw : HW a0 Z) : Laid Z a0 "java/util/LinkedHashMap$Entry" "java/util/HashMap$Node" "hash" "I" := (Or.inr (w_ hw 182 rfl))
theorem pf9 : parseFieldDescriptor "Ljava/lang/Object;" = some (.object "java/lang/Object") := by decide
theorem sn44 {a0 Z} (hw : HW a0 Z) : S_17 Z ≠ S_18 Z := Jvm.RoadKit.slot_ne (ly17 hw) (ly18 hw) (by decide) pf9 pf0
theorem d27_14 : decode B27 14 = .ok (.aload_n 0, 1) := by decide +kernel
theorem d27_15 : decode B27 15 = .ok (.aload_n 3, 1) := by decide +kernel
theorem d27_16 : decode B27 16 = .ok (.putfield 17, 3) := by decide +kernel
abbrev S_19 (Z : State) := Jvm.RoadKit.slotOf Z "java/util/HashMap$Node" "value" "Ljava/lang/Object;"
theorem ly19 {a0 Z} (hw : HW a0 Z) : Laid Z a0 "java/util/LinkedHashMap$Entry" "java/util/HashMap$Node" "value" "Ljava/lang/Object;" := (Or.inl (w_ hw 186 rfl))
theorem sn45 {a0 Z} (hw : HW a0 Z) : S_19 Z ≠ S_18 Z := Jvm.RoadKit.slot_ne (ly19 hw) (ly18 hw) (by decide) pf9 pf0
theorem sn46 {a0 Z} (hw : HW a0 Z) : S_19 Z ≠ S_17 Z := Jvm.RoadKit.slot_ne (ly19 hw) (ly17 hw) (by decide) pf9 pf9
theorem d27_19 : decode B27 19 = .ok (.aload_n 0, 1) := by decide +kernel
theorem d27_20 : decode B27 20 = .ok (.aload 4, 2) := by decide +kernel
theorem d27_22 : decode B27 22 = .ok (.putfield 20, 3) := by decide +kernel
abbrev S_20 (Z : State) := Jvm.RoadKit.slotOf Z "java/util/HashMap$Node" "next" "Ljava/util/HashMap$Node;"
theorem ly20 {a0 Z} (hw : HW a0 Z) : Laid Z a0 "java/util/LinkedHashMap$Entry" "java/util/HashMap$Node" "next" "Ljava/util/HashMap$Node;" := (Or.inl (w_ hw 188 rfl))
theorem pf10 : parseFieldDescriptor "Ljava/util/HashMap$Node;" = some (.object "java/util/HashMap$Node") := by decide
theorem sn47 {a0 Z} (hw : HW a0 Z) : S_20 Z ≠ S_18 Z := Jvm.RoadKit.slot_ne (ly20 hw) (ly18 hw) (by decide) pf10 pf0
theorem sn48 {a0 Z} (hw : HW a0 Z) : S_20 Z ≠ S_17 Z := Jvm.RoadKit.slot_ne (ly20 hw) (ly17 hw) (by decide) pf10 pf9
theorem sn49 {a0 Z} (hw : HW a0 Z) : S_20 Z ≠ S_19 Z := Jvm.RoadKit.slot_ne (ly20 hw) (ly19 hw) (by decide) pf10 pf9
theorem d27_25 : decode B27 25 = .ok (.return_, 1) := by decide +kernel
abbrev S_21 (Z : State) := Jvm.RoadKit.slotOf Z "java/util/LinkedHashMap$Entry" "after" "Ljava/util/LinkedHashMap$Entry;"
theorem ly21 {a0 Z} (hw : HW a0 Z) : Laid Z a0 "java/util/LinkedHashMap$Entry" "java/util/LinkedHashMap$Entry" "after" "Ljava/util/LinkedHashMap$Entry;" := (Or.inl (w_ hw 327 rfl))
theorem sn50 {a0 Z} (hw : HW a0 Z) : S_21 Z ≠ S_18 Z := Jvm.RoadKit.slot_ne (ly21 hw) (ly18 hw) (by decide) pf4 pf0
theorem sn51 {a0 Z} (hw : HW a0 Z) : S_21 Z ≠ S_17 Z := Jvm.RoadKit.slot_ne (ly21 hw) (ly17 hw) (by decide) pf4 pf9
theorem sn52 {a0 Z} (hw : HW a0 Z) : S_21 Z ≠ S_19 Z := Jvm.RoadKit.slot_ne (ly21 hw) (ly19 hw) (by decide) pf4 pf9
theorem sn53 {a0 Z} (hw : HW a0 Z) : S_21 Z ≠ S_20 Z := Jvm.RoadKit.slot_ne (ly21 hw) (ly20 hw) (by decide) pf4 pf10
abbrev S_22 (Z : State) := Jvm.RoadKit.slotOf Z "java/util/LinkedHashMap$Entry" "before" "Ljava/util/LinkedHashMap$Entry;"
theorem ly22 {a0 Z} (hw : HW a0 Z) : Laid Z a0 "java/util/LinkedHashMap$Entry" "java/util/LinkedHashMap$Entry" "before" "Ljava/util/LinkedHashMap$Entry;" := (Or.inl (w_ hw 441 rfl))
theorem sn54 {a0 Z} (hw : HW a0 Z) : S_22 Z ≠ S_18 Z := Jvm.RoadKit.slot_ne (ly22 hw) (ly18 hw) (by decide) pf4 pf0
theorem sn55 {a0 Z} (hw : HW a0 Z) : S_22 Z ≠ S_17 Z := Jvm.RoadKit.slot_ne (ly22 hw) (ly17 hw) (by decide) pf4 pf9
theorem sn56 {a0 Z} (hw : HW a0 Z) : S_22 Z ≠ S_19 Z := Jvm.RoadKit.slot_ne (ly22 hw) (ly19 hw) (by decide) pf4 pf9
theorem sn57 {a0 Z} (hw : HW a0 Z) : S_22 Z ≠ S_20 Z := Jvm.RoadKit.slot_ne (ly22 hw) (ly20 hw) (by decide) pf4 pf10
abbrev y27 : MethodName := ⟨"java/util/HashMap$Node", "<init>", "(ILjava/lang/Object;Ljava/lang/Object;Ljava/util/HashMap$Node;)V"⟩
def Q31 (Z : State) (cv : Int32) (de ca : Addr) (r0 : Addr) (i1 : Int32) (r2 r3 : Addr) (h0 : Heap) (n0 : Nat) (v : Option Value) (h : Heap) (L : List Loc) : Prop := v = none ∧ Fr n0 L ∧ Keep h0 h [r0] ∧ P17 Z h r0 (.int i1) ∧ P18 Z h r0 (.ref r2) ∧ P19 Z h r0 (.ref r3) ∧ P21 Z h r0 .null ∧ P22 Z h r0 .null
/-- HashMap$Node.init#0 -/
theorem t31 (hw : HW a0 Z) (SB0 : SB Z cv de ca) (r0 : Addr) (i1 : Int32) (r2 r3 : Addr) (O0 : OL Z n0 h0) (q0 : E_6 Z h0 r0) (q1 : P17 Z h0 r0 (.int 0)) (q2 : P18 Z h0 r0 .null) (q3 : P19 Z h0 r0 .null) (q4 : P20 Z h0 r0 .null) (q5 : P21 Z h0 r0 .null) (q6 : P22 Z h0 r0 .null) (ge0 : n0 ≤ r0) : CT l Z y27 B27 5 none ⟨1, 0, 0, 12⟩ #[(.ref r0), (.int i1), (.ref r2), (.ref r3), .null] h0 (Q31 Z cv de ca r0 i1 r2 r3 h0 n0) := by
  refine ct_intro ?_
  intro p e s m below meth c s₁ E0 hx D hml hown hnm hrt X0 e0 hZ hE
  have Z0 := O0.le
  have K0 := Keep.refl h0 [r0]
  have hws : ∀ w ∈ ([r0] : List Addr), n0 ≤ w := (allS ge0 all0)
  have N0 := Fr.nil n0
  have pre0 := ctp #[vr r0, vi i1, vr r2, vr r3, .val .null] hE
  obtain ⟨T1, X1, e1, st1⟩ := initO X0 hx hZ hown (w_ hw 180 rfl) (w_ hw 20 rfl) (w_ hw 21 rfl) e0 (g := (mkF m 1 #[vr r0, vi i1, vr r2, vr r3, .val .null] [(.ref r0)])) rfl (by rw [hml]; rfl) rfl (D d27_1) (by decide) (W := 0) (by show 2 * 0 + _ ≤ _; exact Nat.le_of_eq rfl) (by decide)
  obtain ⟨T2, h2, X2, e2, W2, st2⟩ := putF X1 hx hZ hown (host := "") (Or.inl (w_ hw 181 rfl)) Via.refl e1 q1 q0 (Or.inr ⟨(w_ hw 182 rfl), rfl, hnm⟩) (w_ hw 168 rfl) (ty := .int) (by decide) rfl rfl (g := (mkF m 6 #[vr r0, vi i1, vr r2, vr r3, .val .null] [(.int i1), (.ref r0)])) rfl rfl (D d27_6)
  have N2 := Fr.snoc X2 N0 ge0
  have k2 := K0.wr W2 (Or.inl (List.mem_of_getElem? (i := 0) rfl))
  have v2 := q1.same W2
  have f3 := (q2.other W2 (Or.inr (sn44 hw)))
  have f4 := (q0.wr W2)
  obtain ⟨T5, h5, X5, e5, W5, st5⟩ := putF X2 hx hZ hown (host := "") (Or.inl (w_ hw 183 rfl)) Via.refl e2 f3 f4 (Or.inr ⟨(w_ hw 184 rfl), rfl, hnm⟩) (w_ hw 168 rfl) (ty := (.object "java/lang/Object")) (by decide) rfl rfl (g := (mkF m 11 #[vr r0, vi i1, vr r2, vr r3, .val .null] [(.ref r2), (.ref r0)])) rfl rfl (D d27_11)
  have N5 := Fr.snoc X5 N2 ge0
  have k5 := k2.wr W5 (Or.inl (List.mem_of_getElem? (i := 0) rfl))
  have v5 := f3.same W5
  have f6 := ((q3.other W2 (Or.inr (sn45 hw))).other W5 (Or.inr (sn46 hw)))
  have f7 := (f4.wr W5)
  obtain ⟨T8, h8, X8, e8, W8, st8⟩ := putF X5 hx hZ hown (host := "") (Or.inl (w_ hw 185 rfl)) Via.refl e5 f6 f7 (Or.inl (w_ hw 186 rfl)) (w_ hw 168 rfl) (ty := (.object "java/lang/Object")) (by decide) rfl rfl (g := (mkF m 16 #[vr r0, vi i1, vr r2, vr r3, .val .null] [(.ref r3), (.ref r0)])) rfl rfl (D d27_16)
  have N8 := Fr.snoc X8 N5 ge0
  have k8 := k5.wr W8 (Or.inl (List.mem_of_getElem? (i := 0) rfl))
  have v8 := f6.same W8
  have f9 := (((q4.other W2 (Or.inr (sn47 hw))).other W5 (Or.inr (sn48 hw))).other W8 (Or.inr (sn49 hw)))
  have f10 := (f7.wr W8)
  obtain ⟨T11, h11, X11, e11, W11, st11⟩ := putF X8 hx hZ hown (host := "") (Or.inl (w_ hw 187 rfl)) Via.refl e8 f9 f10 (Or.inl (w_ hw 188 rfl)) (w_ hw 168 rfl) (ty := (.object "java/util/HashMap$Node")) (by decide) rfl rfl (g := (mkF m 22 #[vr r0, vi i1, vr r2, vr r3, .val .null] [.null, (.ref r0)])) rfl rfl (D d27_22)
  have N11 := Fr.snoc X11 N8 ge0
  have k11 := k8.wr W11 (Or.inl (List.mem_of_getElem? (i := 0) rfl))
  have v11 := f9.same W11
  have f12 := (((v2.other W5 (Or.inr (Ne.symm (sn44 hw)))).other W8 (Or.inr (Ne.symm (sn45 hw)))).other W11 (Or.inr (Ne.symm (sn47 hw))))
  have f13 := ((v5.other W8 (Or.inr (Ne.symm (sn46 hw)))).other W11 (Or.inr (Ne.symm (sn48 hw))))
  have f14 := (v8.other W11 (Or.inr (Ne.symm (sn49 hw))))
  have f15 := ((((q5.other W2 (Or.inr (sn50 hw))).other W5 (Or.inr (sn51 hw))).other W8 (Or.inr (sn52 hw))).other W11 (Or.inr (sn53 hw)))
  have f16 := ((((q6.other W2 (Or.inr (sn54 hw))).other W5 (Or.inr (sn55 hw))).other W8 (Or.inr (sn56 hw))).other W11 (Or.inr (sn57 hw)))
  refine ⟨none, T11, _, _, _, X11, fun _ => rfl, (by rw [e11]; exact ⟨rfl, N11, k11, f12, f13, f14, f15, f16⟩), (by decide), (by decide), fun fs hr => pre0 _ ?_⟩
  show SA p e below s₁ m 0 #[vr r0, vi i1, vr r2, vr r3, .val .null] [] _
  refine XS.aloadN X0.here hx rfl (D d27_0) rfl rfl ?_
  refine st1 _ ?_
  refine XS.aloadN X1.here hx rfl (D d27_4) rfl rfl ?_
  refine XS.iloadN X1.here hx rfl (D d27_5) rfl ?_
  refine st2 _ ?_
  refine XS.aloadN X2.here hx rfl (D d27_9) rfl rfl ?_
  refine XS.aloadN X2.here hx rfl (D d27_10) rfl rfl ?_
  refine st5 _ ?_
  refine XS.aloadN X5.here hx rfl (D d27_14) rfl rfl ?_
  refine XS.aloadN X5.here hx rfl (D d27_15) rfl rfl ?_
  refine st8 _ ?_
  refine XS.aloadN X8.here hx rfl (D d27_19) rfl rfl ?_
  refine XS.aload X8.here hx rfl (D d27_20) rfl rfl ?_
  refine st11 _ ?_
  show SA p e below T11 m 25 #[vr r0, vi i1, vr r2, vr r3, .val .null] [] _
  exact X11.returnOut hx hrt (D d27_25) hr
theorem pd16 : parseMethodDescriptor "(ILjava/lang/Object;Ljava/lang/Object;Ljava/util/HashMap$Node;)V" = some ⟨[.int, (.object "java/lang/Object"), (.object "java/lang/Object"), (.object "java/util/HashMap$Node")], none⟩ := by decide +kernel
theorem d26_9 : decode B26 9 = .ok (.return_, 1) := by decide +kernel
abbrev y28 : MethodName := ⟨"java/util/LinkedHashMap$Entry", "<init>", "(ILjava/lang/Object;Ljava/lang/Object;Ljava/util/HashMap$Node;)V"⟩
def Q32 (Z : State) (cv : Int32) (de ca : Addr) (r0 : Addr) (i1 : Int32) (r2 r3 : Addr) (h0 : Heap) (n0 : Nat) (v : Option Value) (h : Heap) (L : List Loc) : Prop := v = none ∧ Fr n0 L ∧ Keep h0 h [r0] ∧ P17 Z h r0 (.int i1) ∧ P18 Z h r0 (.ref r2) ∧ P19 Z h r0 (.ref r3) ∧ P21 Z h r0 .null ∧ P22 Z h r0 .null
/-- LinkedHashMap$Entry.init#0 -/
theorem t32 (hw : HW a0 Z) (SB0 : SB Z cv de ca) (r0 : Addr) (i1 : Int32) (r2 r3 : Addr) (O0 : OL Z n0 h0) (q0 : E_6 Z h0 r0) (q1 : P17 Z h0 r0 (.int 0)) (q2 : P18 Z h0 r0 .null) (q3 : P19 Z h0 r0 .null) (q4 : P20 Z h0 r0 .null) (q5 : P21 Z h0 r0 .null) (q6 : P22 Z h0 r0 .null) (ge0 : n0 ≤ r0) : CT l Z y28 B26 5 none ⟨2, 0, 0, 28⟩ #[(.ref r0), (.int i1), (.ref r2), (.ref r3), .null] h0 (Q32 Z cv de ca r0 i1 r2 r3 h0 n0) := by
  refine ct_intro ?_
  intro p e s m below meth c s₁ E0 hx D hml hown hnm hrt X0 e0 hZ hE
  have Z0 := O0.le
  have K0 := Keep.refl h0 [r0]
  have hws : ∀ w ∈ ([r0] : List Addr), n0 ≤ w := (allS ge0 all0)
  have N0 := Fr.nil n0
  have pre0 := ctp #[vr r0, vi i1, vr r2, vr r3, .val .null] hE
  obtain ⟨v1, T1, L1, X1, Q1, st1⟩ := kI X0 hx hZ hown (t31 hw SB0 r0 i1 r2 r3 (O0.keep K0 hws) q0 q1 q2 q3 q4 q5 q6 ge0) rfl (w_ hw 174 rfl) (w_ hw 175 rfl) (w_ hw 178 rfl) (w_ hw 179 rfl) e0 (g := (mkF m 6 #[vr r0, vi i1, vr r2, vr r3, .val .null] [.null, (.ref r3), (.ref r2), (.int i1), (.ref r0)])) rfl hml rfl (argsL := [(.int i1), (.ref r2), (.ref r3), .null]) (rest := []) (lenOf pd16 rfl) rfl rfl (W := 0) rfl (D d26_6)
  obtain ⟨h1, e1⟩ : ∃ z, T1.heap = z := ⟨_, rfl⟩
  rw [e1] at Q1
  obtain ⟨rfl, M1, K1, F1_0, F1_1, F1_2, F1_3, F1_4⟩ := Q1
  have N1 := N0.app M1
  have k1 := K0.trans K1 (allS (Or.inl (List.mem_of_getElem? (i := 0) rfl)) all0)
  refine ⟨none, T1, _, _, _, X1, fun _ => rfl, (by rw [e1]; exact ⟨rfl, N1, k1, F1_0, F1_1, F1_2, F1_3, F1_4⟩), (by decide), (by decide), fun fs hr => pre0 _ ?_⟩
  show SA p e below s₁ m 0 #[vr r0, vi i1, vr r2, vr r3, .val .null] [] _
  refine XS.aloadN X0.here hx rfl (D d26_0) rfl rfl ?_
  refine XS.iloadN X0.here hx rfl (D d26_1) rfl ?_
  refine XS.aloadN X0.here hx rfl (D d26_2) rfl rfl ?_
  refine XS.aloadN X0.here hx rfl (D d26_3) rfl rfl ?_
  refine XS.aload X0.here hx rfl (D d26_4) rfl rfl ?_
  refine st1 _ ?_
  show SA p e below T1 m 9 #[vr r0, vi i1, vr r2, vr r3, .val .null] [] _
  exact X1.returnOut hx hrt (D d26_9) hr
theorem d25_12 : decode B25 12 = .ok (.astore 5, 2) := by decide +kernel
theorem d25_14 : decode B25 14 = .ok (.aload_n 0, 1) := by decide +kernel
theorem d25_15 : decode B25 15 = .ok (.aload 5, 2) := by decide +kernel
theorem d25_17 : decode B25 17 = .ok (.invokevirtual 32, 3) := by decide +kernel
abbrev B28 := jdk_94_method_1_code
theorem d28_0 : decode B28 0 = .ok (.aload_n 0, 1) := by decide +kernel
theorem d28_1 : decode B28 1 = .ok (.getfield 1, 3) := by decide +kernel
theorem d28_4 : decode B28 4 = .ok (.iconst 1, 1) := by decide +kernel
theorem d28_5 : decode B28 5 = .ok (.if_icmp .ne 38, 3) := by decide +kernel
theorem d28_43 : decode B28 43 = .ok (.aload_n 0, 1) := by decide +kernel
theorem d28_44 : decode B28 44 = .ok (.getfield 11, 3) := by decide +kernel
theorem d28_47 : decode B28 47 = .ok (.astore_n 2, 1) := by decide +kernel
theorem d28_48 : decode B28 48 = .ok (.aload_n 0, 1) := by decide +kernel
theorem d28_49 : decode B28 49 = .ok (.aload_n 1, 1) := by decide +kernel
theorem d28_50 : decode B28 50 = .ok (.putfield 11, 3) := by decide +kernel
theorem d28_53 : decode B28 53 = .ok (.aload_n 2, 1) := by decide +kernel
theorem d28_54 : decode B28 54 = .ok (.ifnonnull 11, 3) := by decide +kernel
theorem d28_57 : decode B28 57 = .ok (.aload_n 0, 1) := by decide +kernel
theorem d28_58 : decode B28 58 = .ok (.aload_n 1, 1) := by decide +kernel
theorem d28_59 : decode B28 59 = .ok (.putfield 7, 3) := by decide +kernel
theorem sn58 {a0 Z} (hw : HW a0 Z) : S_6 Z ≠ S_5 Z := Jvm.RoadKit.slot_ne (ly6 hw) (ly5 hw) (by decide) pf4 pf4
theorem d28_62 : decode B28 62 = .ok (.goto 13, 3) := by decide +kernel
theorem d28_75 : decode B28 75 = .ok (.return_, 1) := by decide +kernel
theorem sn59 {a0 Z} (hw : HW a0 Z) : S_7 Z ≠ S_5 Z := Jvm.RoadKit.slot_ne (ly7 hw) (ly5 hw) (by decide) pf0 pf4
theorem sn60 {a0 Z} (hw : HW a0 Z) : S_7 Z ≠ S_6 Z := Jvm.RoadKit.slot_ne (ly7 hw) (ly6 hw) (by decide) pf0 pf4
theorem sn61 {a0 Z} (hw : HW a0 Z) : S_8 Z ≠ S_5 Z := Jvm.RoadKit.slot_ne (ly8 hw) (ly5 hw) (by decide) pf0 pf4
theorem sn62 {a0 Z} (hw : HW a0 Z) : S_8 Z ≠ S_6 Z := Jvm.RoadKit.slot_ne (ly8 hw) (ly6 hw) (by decide) pf0 pf4
theorem sn63 {a0 Z} (hw : HW a0 Z) : S_9 Z ≠ S_5 Z := Jvm.RoadKit.slot_ne (ly9 hw) (ly5 hw) (by decide) pf5 pf4
theorem sn64 {a0 Z} (hw : HW a0 Z) : S_9 Z ≠ S_6 Z := Jvm.RoadKit.slot_ne (ly9 hw) (ly6 hw) (by decide) pf5 pf4
abbrev y29 : MethodName := ⟨"java/util/LinkedHashMap", "linkNodeAtEnd", "(Ljava/util/LinkedHashMap$Entry;)V"⟩
def Q33 (Z : State) (cv : Int32) (de ca : Addr) (r0 r1 r2 : Addr) (h0 : Heap) (n0 : Nat) (v : Option Value) (h : Heap) (L : List Loc) : Prop := v = none ∧ Fr n0 L ∧ Keep h0 h [r0] ∧ P1 Z h r0 (.int 0) ∧ P5 Z h r0 (.ref r1) ∧ P3 Z h r0 (.ref r2) ∧ P4 Z h r0 (.int 12) ∧ P2 Z h r0 (.int 0) ∧ P6 Z h r0 (.ref r1) ∧ P7 Z h r0 (.int 0) ∧ P8 Z h r0 (.int 0) ∧ P9 Z h r0 .null
/-- LinkedHashMap.linkNodeAtEnd#0 -/
theorem t33 (hw : HW a0 Z) (SB0 : SB Z cv de ca) (r0 r1 r2 : Addr) (O0 : OL Z n0 h0) (q0 : P1 Z h0 r0 (.int 0)) (q1 : P5 Z h0 r0 .null) (q2 : E_0 Z h0 r0) (q3 : P3 Z h0 r0 (.ref r2)) (q4 : P4 Z h0 r0 (.int 12)) (q5 : P2 Z h0 r0 (.int 0)) (q6 : P6 Z h0 r0 .null) (q7 : P7 Z h0 r0 (.int 0)) (q8 : P8 Z h0 r0 (.int 0)) (q9 : P9 Z h0 r0 .null) (ge0 : n0 ≤ r0) : CT l Z y29 B28 3 none ⟨0, 0, 0, 0⟩ #[(.ref r0), (.ref r1)] h0 (Q33 Z cv de ca r0 r1 r2 h0 n0) := by
  refine ct_intro ?_
  intro p e s m below meth c s₁ E0 hx D hml hown hnm hrt X0 e0 hZ hE
  have Z0 := O0.le
  have K0 := Keep.refl h0 [r0]
  have hws : ∀ w ∈ ([r0] : List Addr), n0 ≤ w := (allS ge0 all0)
  have N0 := Fr.nil n0
  have pre0 := ctp #[vr r0, vr r1, un] hE
  obtain ⟨T1, X1, e1, st1⟩ := gF X0 hx hZ hown (w_ hw 25 rfl) Via.refl e0 q0 (g := (mkF m 1 #[vr r0, vr r1, un] [(.ref r0)])) rfl rfl (D d28_1)
  obtain ⟨T2, X2, e2, st2⟩ := gF X1 hx hZ hown (w_ hw 194 rfl) Via.refl e1 q1 (g := (mkF m 44 #[vr r0, vr r1, un] [(.ref r0)])) rfl rfl (D d28_44)
  obtain ⟨T3, h3, X3, e3, W3, st3⟩ := putF X2 hx hZ hown (host := "") (Or.inl (w_ hw 194 rfl)) Via.refl e2 q1 q2 (Or.inl (w_ hw 195 rfl)) (w_ hw 2 rfl) (ty := (.object "java/util/LinkedHashMap$Entry")) (by decide) rfl rfl (g := (mkF m 50 #[vr r0, vr r1, .val .null] [(.ref r1), (.ref r0)])) rfl rfl (D d28_50)
  have N3 := Fr.snoc X3 N0 ge0
  have k3 := K0.wr W3 (Or.inl (List.mem_of_getElem? (i := 0) rfl))
  have v3 := q1.same W3
  have f4 := (q6.other W3 (Or.inr (sn58 hw)))
  have f5 := (q2.wr W3)
  obtain ⟨T6, h6, X6, e6, W6, st6⟩ := putF X3 hx hZ hown (host := "") (Or.inl (w_ hw 196 rfl)) Via.refl e3 f4 f5 (Or.inl (w_ hw 197 rfl)) (w_ hw 2 rfl) (ty := (.object "java/util/LinkedHashMap$Entry")) (by decide) rfl rfl (g := (mkF m 59 #[vr r0, vr r1, .val .null] [(.ref r1), (.ref r0)])) rfl rfl (D d28_59)
  have N6 := Fr.snoc X6 N3 ge0
  have k6 := k3.wr W6 (Or.inl (List.mem_of_getElem? (i := 0) rfl))
  have v6 := f4.same W6
  have f7 := ((q0.other W3 (Or.inr (Ne.symm (sn14 hw)))).other W6 (Or.inr (Ne.symm (sn16 hw))))
  have f8 := (v3.other W6 (Or.inr (Ne.symm (sn58 hw))))
  have f9 := ((q3.other W3 (Or.inr (Ne.symm (sn35 hw)))).other W6 (Or.inr (Ne.symm (sn37 hw))))
  have f10 := ((q4.other W3 (Or.inr (Ne.symm (sn34 hw)))).other W6 (Or.inr (Ne.symm (sn36 hw))))
  have f11 := ((q5.other W3 (Or.inr (Ne.symm (sn15 hw)))).other W6 (Or.inr (Ne.symm (sn17 hw))))
  have f12 := ((q7.other W3 (Or.inr (sn59 hw))).other W6 (Or.inr (sn60 hw)))
  have f13 := ((q8.other W3 (Or.inr (sn61 hw))).other W6 (Or.inr (sn62 hw)))
  have f14 := ((q9.other W3 (Or.inr (sn63 hw))).other W6 (Or.inr (sn64 hw)))
  refine ⟨none, T6, _, _, _, X6, fun _ => rfl, (by rw [e6]; exact ⟨rfl, N6, k6, f7, f8, f9, f10, f11, v6, f12, f13, f14⟩), (by decide), (by decide), fun fs hr => pre0 _ ?_⟩
  show SA p e below s₁ m 0 #[vr r0, vr r1, un] [] _
  refine XS.aloadN X0.here hx rfl (D d28_0) rfl rfl ?_
  refine st1 _ ?_
  refine XS.iconst X1.here hx rfl (D d28_4) ?_
  refine XS.icmpYes X1.here hx rfl (pc0 := 5) (pc' := 43) rfl (D d28_5) rfl (feq (by decide : ¬ ((0 : Int32) = (1 : Int32)))).2 (by decide) (by decide) ?_
  refine XS.aloadN X1.here hx rfl (D d28_43) rfl rfl ?_
  refine st2 _ ?_
  refine XS.astoreN X2.here hx rfl (D d28_47) rfl rfl (l' := #[vr r0, vr r1, .val .null]) rfl ?_
  refine XS.aloadN X2.here hx rfl (D d28_48) rfl rfl ?_
  refine XS.aloadN X2.here hx rfl (D d28_49) rfl rfl ?_
  refine st3 _ ?_
  refine XS.aloadN X3.here hx rfl (D d28_53) rfl rfl ?_
  refine XS.ifnonnullNo X3.here hx rfl (D d28_54) rfl ?_
  refine XS.aloadN X3.here hx rfl (D d28_57) rfl rfl ?_
  refine XS.aloadN X3.here hx rfl (D d28_58) rfl rfl ?_
  refine st6 _ ?_
  refine XS.goto X6.here hx rfl (pc0 := 62) (pc' := 75) rfl (D d28_62) (by decide) (by decide) ?_
  show SA p e below T6 m 75 #[vr r0, vr r1, .val .null] [] _
  exact X6.returnOut hx hrt (D d28_75) hr
theorem pd17 : parseMethodDescriptor "(Ljava/util/LinkedHashMap$Entry;)V" = some ⟨[(.object "java/util/LinkedHashMap$Entry")], none⟩ := by decide +kernel
abbrev y30 : MethodName := ⟨"java/util/HashMap", "newNode", "(ILjava/lang/Object;Ljava/lang/Object;Ljava/util/HashMap$Node;)Ljava/util/HashMap$Node;"⟩
abbrev y31 : MethodName := ⟨"java/util/LinkedHashMap", "newNode", "(ILjava/lang/Object;Ljava/lang/Object;Ljava/util/HashMap$Node;)Ljava/util/HashMap$Node;"⟩
theorem d25_20 : decode B25 20 = .ok (.aload 5, 2) := by decide +kernel
theorem d25_22 : decode B25 22 = .ok (.areturn, 1) := by decide +kernel
def Q34 (Z : State) (cv : Int32) (de ca : Addr) (r0 : Addr) (i1 : Int32) (r2 r3 r4 : Addr) (h0 : Heap) (n0 : Nat) (v : Option Value) (h : Heap) (L : List Loc) : Prop := ∃ (b1 : Addr), v = (some (.ref b1)) ∧ Fr n0 L ∧ Keep h0 h [r0] ∧ h0.size ≤ b1 ∧ P1 Z h r0 (.int 0) ∧ P5 Z h r0 (.ref b1) ∧ P3 Z h r0 (.ref r4) ∧ P4 Z h r0 (.int 12) ∧ P2 Z h r0 (.int 0) ∧ P6 Z h r0 (.ref b1) ∧ P7 Z h r0 (.int 0) ∧ P8 Z h r0 (.int 0) ∧ P9 Z h r0 .null ∧ E_6 Z h b1 ∧ P17 Z h b1 (.int i1) ∧ P18 Z h b1 (.ref r2) ∧ P19 Z h b1 (.ref r3) ∧ P21 Z h b1 .null ∧ P22 Z h b1 .null
/-- LinkedHashMap.newNode#0 -/
theorem t34 (hw : HW a0 Z) (SB0 : SB Z cv de ca) (r0 : Addr) (i1 : Int32) (r2 r3 r4 : Addr) (O0 : OL Z n0 h0) (q0 : E_0 Z h0 r0) (q1 : P1 Z h0 r0 (.int 0)) (q2 : P5 Z h0 r0 .null) (q3 : P3 Z h0 r0 (.ref r4)) (q4 : P4 Z h0 r0 (.int 12)) (q5 : P2 Z h0 r0 (.int 0)) (q6 : P6 Z h0 r0 .null) (q7 : P7 Z h0 r0 (.int 0)) (q8 : P8 Z h0 r0 (.int 0)) (q9 : P9 Z h0 r0 .null) (ge0 : n0 ≤ r0) : CT l Z y31 B25 6 (some (.object "java/util/HashMap$Node")) ⟨3, 1, 6, 45⟩ #[(.ref r0), (.int i1), (.ref r2), (.ref r3), .null] h0 (Q34 Z cv de ca r0 i1 r2 r3 r4 h0 n0) := by
  refine ct_intro ?_
  intro p e s m below meth c s₁ E0 hx D hml hown hnm hrt X0 e0 hZ hE
  have Z0 := O0.le
  have K0 := Keep.refl h0 [r0]
  have hws : ∀ w ∈ ([r0] : List Addr), n0 ≤ w := (allS ge0 all0)
  have N0 := Fr.nil n0
  have pre0 := ctp #[vr r0, vi i1, vr r2, vr r3, .val .null, un] hE
  obtain ⟨T1, h1, X1, e1, E1, A1, D1, -, st1⟩ := newO X0 hx hZ hown (w_ hw 167 rfl) (w_ hw 168 rfl) (w_ hw 169 rfl) e0 (g := (mkF m 0 #[vr r0, vi i1, vr r2, vr r3, .val .null, un] [])) rfl (D d25_0) (by decide) (by decide)
  obtain ⟨b1, g1⟩ : ∃ z, z = h0.size := ⟨_, rfl⟩
  rw [← g1] at A1 D1 st1
  have z1 : h0.size ≤ b1 := Nat.le_trans K0.1 (Nat.le_of_eq g1.symm)
  have k1 := K0.ext E1
  have F1_182 : P17 Z h1 b1 (.int 0) := D1 (Or.inr (w_ hw 182 rfl)) (ty := .int) (by decide)
  have F1_184 : P18 Z h1 b1 .null := D1 (Or.inr (w_ hw 184 rfl)) (ty := (.object "java/lang/Object")) (by decide)
  have F1_186 : P19 Z h1 b1 .null := D1 (Or.inl (w_ hw 186 rfl)) (ty := (.object "java/lang/Object")) (by decide)
  have F1_188 : P20 Z h1 b1 .null := D1 (Or.inl (w_ hw 188 rfl)) (ty := (.object "java/util/HashMap$Node")) (by decide)
  have F1_327 : P21 Z h1 b1 .null := D1 (Or.inl (w_ hw 327 rfl)) (ty := (.object "java/util/LinkedHashMap$Entry")) (by decide)
  have F1_441 : P22 Z h1 b1 .null := D1 (Or.inl (w_ hw 441 rfl)) (ty := (.object "java/util/LinkedHashMap$Entry")) (by decide)
  obtain ⟨v2, T2, L2, X2, Q2, st2⟩ := kI X1 hx hZ hown (t32 hw SB0 b1 i1 r2 r3 (O0.keep k1 hws) A1 F1_182 F1_184 F1_186 F1_188 F1_327 F1_441 (Nat.le_trans Z0 z1)) rfl (w_ hw 170 rfl) (w_ hw 171 rfl) (w_ hw 169 rfl) (w_ hw 173 rfl) e1 (g := (mkF m 9 #[vr r0, vi i1, vr r2, vr r3, .val .null, un] [.null, (.ref r3), (.ref r2), (.int i1), (.ref b1), (.ref b1)])) rfl hml rfl (argsL := [(.int i1), (.ref r2), (.ref r3), .null]) (rest := [(.ref b1)]) (lenOf pd16 rfl) rfl rfl (W := 1) rfl (D d25_9)
  obtain ⟨h2, e2⟩ : ∃ z, T2.heap = z := ⟨_, rfl⟩
  rw [e2] at Q2
  obtain ⟨rfl, M2, K2, F2_0, F2_1, F2_2, F2_3, F2_4⟩ := Q2
  have N2 := N0.app M2
  have k2 := k1.trans K2 (allS (Or.inr z1) all0)
  have f4 := ((q0.ext E1).keep K2)
  have f5 := (A1.keep K2)
  have ne3 : r0 ≠ b1 := Exa.ne f4 f5 (by decide)
  have f6 := ((q1.ext E1).keep K2 (ninS ne3 nin0))
  have f7 := ((q2.ext E1).keep K2 (ninS ne3 nin0))
  have f8 := ((q3.ext E1).keep K2 (ninS ne3 nin0))
  have f9 := ((q4.ext E1).keep K2 (ninS ne3 nin0))
  have f10 := ((q5.ext E1).keep K2 (ninS ne3 nin0))
  have f11 := ((q6.ext E1).keep K2 (ninS ne3 nin0))
  have f12 := ((q7.ext E1).keep K2 (ninS ne3 nin0))
  have f13 := ((q8.ext E1).keep K2 (ninS ne3 nin0))
  have f14 := ((q9.ext E1).keep K2 (ninS ne3 nin0))
  obtain ⟨v15, T15, L15, X15, Q15, st15⟩ := kP (y := y29) (z := y30) (z' := y31) X2 hx hZ hown (t33 hw SB0 r0 b1 r4 (O0.keep k2 hws) f6 f7 f4 f8 f9 f10 f11 f12 f13 f14 ge0) f4 (w_ hw 189 rfl) (w_ hw 190 rfl) (w_ hw 191 rfl) (w_ hw 164 rfl) rfl (w_ hw 3 rfl) (w_ hw 193 rfl) e2 (g := (mkF m 17 #[vr r0, vi i1, vr r2, vr r3, .val .null, vr b1] [(.ref b1), (.ref r0)])) rfl hml rfl (argsL := [(.ref b1)]) (rest := []) (lenOf pd17 rfl) rfl rfl (W := 0) rfl (D d25_17)
  obtain ⟨h15, e15⟩ : ∃ z, T15.heap = z := ⟨_, rfl⟩
  rw [e15] at Q15
  obtain ⟨rfl, M15, K15, F15_0, F15_1, F15_2, F15_3, F15_4, F15_5, F15_6, F15_7, F15_8⟩ := Q15
  have N15 := N2.app M15
  have k15 := k2.trans K15 (allS (Or.inl (List.mem_of_getElem? (i := 0) rfl)) all0)
  have f16 := (f5.keep K15)
  have f17 := (F2_0.keep K15 (ninS (Ne.symm ne3) nin0))
  have f18 := (F2_1.keep K15 (ninS (Ne.symm ne3) nin0))
  have f19 := (F2_2.keep K15 (ninS (Ne.symm ne3) nin0))
  have f20 := (F2_3.keep K15 (ninS (Ne.symm ne3) nin0))
  have f21 := (F2_4.keep K15 (ninS (Ne.symm ne3) nin0))
  refine ⟨(some (.ref b1)), T15, _, _, _, X15, (fun hh => by cases hh), (by rw [e15]; exact ⟨b1, rfl, N15, k15, z1, F15_0, F15_1, F15_2, F15_3, F15_4, F15_5, F15_6, F15_7, F15_8, f16, f17, f18, f19, f20, f21⟩), (by decide), (by decide), fun fs hr => pre0 _ ?_⟩
  show SA p e below s₁ m 0 #[vr r0, vi i1, vr r2, vr r3, .val .null, un] [] _
  refine st1 _ ?_
  refine XS.dup X1.here hx rfl (D d25_3) rfl rfl ?_
  refine XS.iloadN X1.here hx rfl (D d25_4) rfl ?_
  refine XS.aloadN X1.here hx rfl (D d25_5) rfl rfl ?_
  refine XS.aloadN X1.here hx rfl (D d25_6) rfl rfl ?_
  refine XS.aload X1.here hx rfl (D d25_7) rfl rfl ?_
  refine st2 _ ?_
  refine XS.astore X2.here hx rfl (D d25_12) rfl rfl (l' := #[vr r0, vi i1, vr r2, vr r3, .val .null, vr b1]) rfl ?_
  refine XS.aloadN X2.here hx rfl (D d25_14) rfl rfl ?_
  refine XS.aload X2.here hx rfl (D d25_15) rfl rfl ?_
  refine st15 _ ?_
  refine XS.aload X15.here hx rfl (D d25_20) rfl rfl ?_
  show SA p e below T15 m 22 #[vr r0, vi i1, vr r2, vr r3, .val .null, vr b1] [(.ref b1)] _
  exact retOut X15 hx hrt rfl (Or.inr (Or.inr (Or.inr (Or.inr ⟨rfl, rfl, rfl⟩)))) (D d25_22) hr
theorem pd18 : parseMethodDescriptor "(ILjava/lang/Object;Ljava/lang/Object;Ljava/util/HashMap$Node;)Ljava/util/HashMap$Node;" = some ⟨[.int, (.object "java/lang/Object"), (.object "java/lang/Object"), (.object "java/util/HashMap$Node")], some (.object "java/util/HashMap$Node")⟩ := by decide +kernel
theorem d23_59 : decode B23 59 = .ok (.aastore, 1) := by decide +kernel
theorem d23_60 : decode B23 60 = .ok (.goto 199, 3) := by decide +kernel
theorem d23_259 : decode B23 259 = .ok (.aload_n 0, 1) := by decide +kernel
theorem d23_260 : decode B23 260 = .ok (.dup, 1) := by decide +kernel
theorem d23_261 : decode B23 261 = .ok (.getfield 202, 3) := by decide +kernel
theorem d23_264 : decode B23 264 = .ok (.iconst 1, 1) := by decide +kernel
theorem d23_265 : decode B23 265 = .ok (.iadd, 1) := by decide +kernel
theorem d23_266 : decode B23 266 = .ok (.putfield 202, 3) := by decide +kernel
theorem d23_269 : decode B23 269 = .ok (.aload_n 0, 1) := by decide +kernel
theorem d23_270 : decode B23 270 = .ok (.dup, 1) := by decide +kernel
theorem d23_271 : decode B23 271 = .ok (.getfield 156, 3) := by decide +kernel
theorem sn65 {a0 Z} (hw : HW a0 Z) : S_8 Z ≠ S_7 Z := Jvm.RoadKit.slot_ne (ly8 hw) (ly7 hw) (by decide) pf0 pf0
theorem d23_274 : decode B23 274 = .ok (.iconst 1, 1) := by decide +kernel
theorem d23_275 : decode B23 275 = .ok (.iadd, 1) := by decide +kernel
theorem d23_276 : decode B23 276 = .ok (.dup_x1, 1) := by decide +kernel
theorem d23_277 : decode B23 277 = .ok (.putfield 156, 3) := by decide +kernel
theorem d23_280 : decode B23 280 = .ok (.aload_n 0, 1) := by decide +kernel
theorem d23_281 : decode B23 281 = .ok (.getfield 88, 3) := by decide +kernel
theorem d23_284 : decode B23 284 = .ok (.if_icmp .le 8, 3) := by decide +kernel
theorem d23_292 : decode B23 292 = .ok (.aload_n 0, 1) := by decide +kernel
theorem d23_293 : decode B23 293 = .ok (.iload 5, 2) := by decide +kernel
theorem d23_295 : decode B23 295 = .ok (.invokevirtual 205, 3) := by decide +kernel
abbrev B29 := jdk_94_method_9_code
theorem d29_0 : decode B29 0 = .ok (.iload_n 1, 1) := by decide +kernel
theorem d29_1 : decode B29 1 = .ok (.ifCond .eq 38, 3) := by decide +kernel
theorem d29_4 : decode B29 4 = .ok (.aload_n 0, 1) := by decide +kernel
theorem d29_5 : decode B29 5 = .ok (.getfield 7, 3) := by decide +kernel
theorem d29_8 : decode B29 8 = .ok (.dup, 1) := by decide +kernel
theorem d29_9 : decode B29 9 = .ok (.astore_n 2, 1) := by decide +kernel
theorem d29_10 : decode B29 10 = .ok (.ifnull 29, 3) := by decide +kernel
theorem d29_13 : decode B29 13 = .ok (.aload_n 0, 1) := by decide +kernel
theorem d29_14 : decode B29 14 = .ok (.aload_n 2, 1) := by decide +kernel
theorem d29_15 : decode B29 15 = .ok (.invokevirtual 53, 3) := by decide +kernel
abbrev B30 := jdk_94_method_23_code
theorem d30_0 : decode B30 0 = .ok (.iconst 0, 1) := by decide +kernel
theorem d30_1 : decode B30 1 = .ok (.ireturn, 1) := by decide +kernel
abbrev y32 : MethodName := ⟨"java/util/LinkedHashMap", "removeEldestEntry", "(Ljava/util/Map$Entry;)Z"⟩
/-- LinkedHashMap.removeEldestEntry#0 -/
theorem t35 (hw : HW a0 Z) (SB0 : SB Z cv de ca) (r0 r1 : Addr) (O0 : OL Z n0 h0)   : CT l Z y32 B30 2 (some .boolean) ⟨0, 0, 0, 0⟩ #[(.ref r0), (.ref r1)] h0 (QP0 (some (.int 0)) h0 n0) := by
  refine ct_intro ?_
  intro p e s m below meth c s₁ E0 hx D hml hown hnm hrt X0 e0 hZ hE
  have N0 := Fr.nil n0
  have pre0 := ctp #[vr r0, vr r1] hE
  refine ⟨(some (.int 0)), s₁, _, _, _, X0, (fun hh => by cases hh), (by rw [e0]; exact ⟨rfl, N0, rfl⟩), (by decide), (by decide), fun fs hr => pre0 _ ?_⟩
  show SA p e below s₁ m 0 #[vr r0, vr r1] [] _
  refine XS.iconst X0.here hx rfl (D d30_0) ?_
  show SA p e below s₁ m 1 #[vr r0, vr r1] [(.int 0)] _
  exact retN X0 hx (t := .boolean) hrt (by simp) (D d30_1) hr
theorem pd19 : parseMethodDescriptor "(Ljava/util/Map$Entry;)Z" = some ⟨[(.object "java/util/Map$Entry")], some .boolean⟩ := by decide +kernel
theorem d29_18 : decode B29 18 = .ok (.ifCond .eq 21, 3) := by decide +kernel
theorem d29_39 : decode B29 39 = .ok (.return_, 1) := by decide +kernel
abbrev y33 : MethodName := ⟨"java/util/LinkedHashMap", "afterNodeInsertion", "(Z)V"⟩
/-- LinkedHashMap.afterNodeInsertion#0 -/
theorem t36 (hw : HW a0 Z) (SB0 : SB Z cv de ca) (r0 r1 : Addr) (O0 : OL Z n0 h0) (q0 : P6 Z h0 r0 (.ref r1)) (q1 : E_0 Z h0 r0)  : CT l Z y33 B29 4 none ⟨1, 0, 0, 13⟩ #[(.ref r0), (.int 1)] h0 (QP0 none h0 n0) := by
  refine ct_intro ?_
  intro p e s m below meth c s₁ E0 hx D hml hown hnm hrt X0 e0 hZ hE
  have Z0 := O0.le
  have K0 := Keep.refl h0 []
  have hws : ∀ w ∈ ([] : List Addr), n0 ≤ w := all0
  have N0 := Fr.nil n0
  have pre0 := ctp #[vr r0, vi 1, un, un] hE
  obtain ⟨T1, X1, e1, st1⟩ := gF X0 hx hZ hown (w_ hw 196 rfl) Via.refl e0 q0 (g := (mkF m 5 #[vr r0, vi 1, un, un] [(.ref r0)])) rfl rfl (D d29_5)
  obtain ⟨v2, T2, L2, X2, Q2, st2⟩ := kV (y := y32) (z := y32) X1 hx hZ hown (t35 hw SB0 r0 r1 (O0.keep K0 hws) ) q1 (nf_of (x := y30) (y' := y31) (args := #[]) (mvT hZ (w_ hw 164 rfl)) rfl) (w_ hw 208 rfl) (w_ hw 209 rfl) (w_ hw 211 rfl) (w_ hw 210 rfl) (w_ hw 3 rfl) (w_ hw 212 rfl) e1 (g := (mkF m 15 #[vr r0, vi 1, vr r1, un] [(.ref r1), (.ref r0)])) rfl hml rfl (argsL := [(.ref r1)]) (rest := []) (lenOf pd19 rfl) rfl rfl (W := 0) rfl (D d29_15)
  obtain ⟨rfl, M2, e2⟩ := Q2
  have N2 := N0.app M2
  refine ⟨none, T2, _, _, _, X2, fun _ => rfl, (by rw [e2]; exact ⟨rfl, N2, rfl⟩), (by decide), (by decide), fun fs hr => pre0 _ ?_⟩
  show SA p e below s₁ m 0 #[vr r0, vi 1, un, un] [] _
  refine XS.iloadN X0.here hx rfl (D d29_0) rfl ?_
  refine XS.ifNo X0.here hx rfl (D d29_1) rfl ((if0 _ _).trans (feq (by decide : ¬ ((1 : Int32) = (0 : Int32)))).1) ?_
  refine XS.aloadN X0.here hx rfl (D d29_4) rfl rfl ?_
  refine st1 _ ?_
  refine XS.dup X1.here hx rfl (D d29_8) rfl rfl ?_
  refine XS.astoreN X1.here hx rfl (D d29_9) rfl rfl (l' := #[vr r0, vi 1, vr r1, un]) rfl ?_
  refine XS.ifnullNo X1.here hx rfl (D d29_10) rfl ?_
  refine XS.aloadN X1.here hx rfl (D d29_13) rfl rfl ?_
  refine XS.aloadN X1.here hx rfl (D d29_14) rfl rfl ?_
  refine st2 _ ?_
  refine XS.ifYes X2.here hx rfl (pc0 := 18) (pc' := 39) rfl (D d29_18) rfl ((if0 _ _).trans (teq (by decide : ((0 : Int32) = (0 : Int32)))).1) (by decide) (by decide) ?_
  show SA p e below T2 m 39 #[vr r0, vi 1, vr r1, un] [] _
  exact X2.returnOut hx hrt (D d29_39) hr
theorem pd20 : parseMethodDescriptor "(Z)V" = some ⟨[.boolean], none⟩ := by decide +kernel
abbrev y34 : MethodName := ⟨"java/util/HashMap", "afterNodeInsertion", "(Z)V"⟩
theorem d23_298 : decode B23 298 = .ok (.aconst_null, 1) := by decide +kernel
theorem d23_299 : decode B23 299 = .ok (.areturn, 1) := by decide +kernel
theorem sn66 {a0 Z} (hw : HW a0 Z) : S_9 Z ≠ S_7 Z := Jvm.RoadKit.slot_ne (ly9 hw) (ly7 hw) (by decide) pf5 pf0
theorem sn67 {a0 Z} (hw : HW a0 Z) : S_9 Z ≠ S_8 Z := Jvm.RoadKit.slot_ne (ly9 hw) (ly8 hw) (by decide) pf5 pf0
abbrev y35 : MethodName := ⟨"java/util/HashMap", "putVal", "(ILjava/lang/Object;Ljava/lang/Object;ZZ)Ljava/lang/Object;"⟩
def Q37 (Z : State) (cv : Int32) (de ca : Addr) (r0 r1 r2 : Addr) (h0 : Heap) (n0 : Nat) (v : Option Value) (h : Heap) (L : List Loc) : Prop := ∃ (b6_0 b2_0 : Addr) (c2_1 : ClassId), v = (some .null) ∧ Fr n0 L ∧ Keep h0 h [r0] ∧ h0.size ≤ b6_0 ∧ h0.size ≤ b2_0 ∧ P1 Z h r0 (.int 0) ∧ P5 Z h r0 (.ref b6_0) ∧ P3 Z h r0 (.ref b2_0) ∧ P4 Z h r0 (.int 12) ∧ P2 Z h r0 (.int 0) ∧ P6 Z h r0 (.ref b6_0) ∧ P7 Z h r0 (.int 1) ∧ P8 Z h r0 (.int 1) ∧ P9 Z h r0 .null ∧ E_6 Z h b6_0 ∧ P17 Z h b6_0 (.int 97) ∧ P18 Z h b6_0 (.ref r1) ∧ P19 Z h b6_0 (.ref r2) ∧ P21 Z h b6_0 .null ∧ P22 Z h b6_0 .null ∧ E_5 Z h b2_0 ∧ Arv Z h b2_0 c2_1 (.object "java/util/HashMap$Node") (16 : Int32) [.null, (.ref b6_0), .null, .null, .null, .null, .null, .null, .null, .null, .null, .null, .null, .null, .null, .null] .null ∧ Ovr Z c2_1 "java/util/HashMap$Node"
/-- HashMap.putVal#0 -/
theorem t37 (hw : HW a0 Z) (SB0 : SB Z cv de ca) (r0 r1 r2 : Addr) (O0 : OL Z n0 h0) (q0 : P3 Z h0 r0 .null) (q1 : E_0 Z h0 r0) (q2 : P4 Z h0 r0 (.int 0)) (q3 : P1 Z h0 r0 (.int 0)) (q4 : P2 Z h0 r0 (.int 0)) (q5 : P5 Z h0 r0 .null) (q6 : P6 Z h0 r0 .null) (q7 : P7 Z h0 r0 (.int 0)) (q8 : P8 Z h0 r0 (.int 0)) (q9 : P9 Z h0 r0 .null) (ge0 : n0 ≤ r0) : CT l Z y35 B23 13 (some (.object "java/lang/Object")) ⟨4, 2, 22, 64⟩ #[(.ref r0), (.int 97), (.ref r1), (.ref r2), (.int 0), (.int 1)] h0 (Q37 Z cv de ca r0 r1 r2 h0 n0) := by
  refine ct_intro ?_
  intro p e s m below meth c s₁ E0 hx D hml hown hnm hrt X0 e0 hZ hE
  have Z0 := O0.le
  have K0 := Keep.refl h0 [r0]
  have hws : ∀ w ∈ ([r0] : List Addr), n0 ≤ w := (allS ge0 all0)
  have N0 := Fr.nil n0
  have pre0 := ctp #[vr r0, vi 97, vr r1, vr r2, vi 0, vi 1, un, un, un, un, un, un, un] hE
  obtain ⟨T1, X1, e1, st1⟩ := gF X0 hx hZ hown (w_ hw 150 rfl) Via.refl e0 q0 (g := (mkF m 1 #[vr r0, vi 97, vr r1, vr r2, vi 0, vi 1, un, un, un, un, un, un, un] [(.ref r0)])) rfl rfl (D d23_1)
  obtain ⟨v2, T2, L2, X2, Q2, st2⟩ := kV (y := y24) (z := y24) X1 hx hZ hown (t30 hw SB0 r0 (O0.keep K0 hws) q0 q2 q1 q3 q4 q5 q6 q7 q8 q9 ge0) q1 (nf_of (x := y25) (y' := y26) (args := #[]) (mvT hZ (w_ hw 118 rfl)) rfl) (w_ hw 152 rfl) (w_ hw 153 rfl) (w_ hw 155 rfl) (w_ hw 154 rfl) (w_ hw 11 rfl) (w_ hw 156 rfl) e1 (g := (mkF m 20 #[vr r0, vi 97, vr r1, vr r2, vi 0, vi 1, .val .null, un, un, un, un, un, un] [(.ref r0)])) rfl hml rfl (argsL := []) (rest := []) (lenOf pd15 rfl) rfl rfl (W := 0) rfl (D d23_20)
  obtain ⟨h2, e2⟩ : ∃ z, T2.heap = z := ⟨_, rfl⟩
  rw [e2] at Q2
  obtain ⟨b2_0, c2_1, rfl, M2, K2, y2_0, F2_0, F2_1, F2_2, F2_3, F2_4, F2_5, F2_6, F2_7, F2_8, F2_9, F2_10, F2_11⟩ := Q2
  have N2 := N0.app M2
  have z2_b2_0 := Nat.le_trans K0.1 y2_0
  have k2 := K0.trans K2 (allS (Or.inl (List.mem_of_getElem? (i := 0) rfl)) all0)
  obtain ⟨_, Ar3, -, S3, M3, -, -⟩ := id F2_10
  obtain ⟨_, Ar4, -, S4, M4, H4, -⟩ := id F2_10
  have f5 := (q1.keep K2)
  obtain ⟨v6, T6, L6, X6, Q6, st6⟩ := kV (y := y30) (z := y31) X2 hx hZ hown (t34 hw SB0 r0 (97 : Int32) r1 r2 b2_0 (O0.keep k2 hws) f5 F2_2 F2_4 F2_0 F2_1 F2_3 F2_5 F2_6 F2_7 F2_8 ge0) f5 (nf_of (x := y25) (y' := y26) (args := #[]) (mvT hZ (w_ hw 118 rfl)) rfl) (w_ hw 161 rfl) (w_ hw 162 rfl) (w_ hw 164 rfl) (w_ hw 165 rfl) (w_ hw 3 rfl) (w_ hw 166 rfl) e2 (g := (mkF m 56 #[vr r0, vi 97, vr r1, vr r2, vi 0, vi 1, vr b2_0, .val .null, vi 16, vi 1, un, un, un] [.null, (.ref r2), (.ref r1), (.int 97), (.ref r0), (.int 1), (.ref b2_0)])) rfl hml rfl (argsL := [(.int 97), (.ref r1), (.ref r2), .null]) (rest := [(.int 1), (.ref b2_0)]) (lenOf pd18 rfl) rfl rfl (W := 2) rfl (D d23_56)
  obtain ⟨h6, e6⟩ : ∃ z, T6.heap = z := ⟨_, rfl⟩
  rw [e6] at Q6
  obtain ⟨b6_0, rfl, M6, K6, y6_0, F6_0, F6_1, F6_2, F6_3, F6_4, F6_5, F6_6, F6_7, F6_8, F6_9, F6_10, F6_11, F6_12, F6_13, F6_14⟩ := Q6
  have N6 := N2.app M6
  have z6_b6_0 := Nat.le_trans k2.1 y6_0
  have k6 := k2.trans K6 (allS (Or.inl (List.mem_of_getElem? (i := 0) rfl)) all0)
  have f8 := (F2_9.keep K6)
  have f9 := (f5.keep K6)
  have ne7 : b2_0 ≠ r0 := Exa.ne f8 f9 (by decide)
  have f10 := (F2_10.keep K6 (ninS ne7 nin0))
  obtain ⟨_, Ar11, C11, S11, M11, H11, G11⟩ := id f10
  obtain ⟨T12, h12, X12, e12, W12, st12⟩ := stR X6 hx hZ e6 Ar11 (j := (1 : Int32)) (inb_of S11 ⟨by decide, by decide⟩) rfl (Sto.ofV Ar11 C11 F2_11 (Ins.of_exa F6_9 (w_ hw 177 rfl))) (g := (mkF m 59 #[vr r0, vi 97, vr r1, vr r2, vi 0, vi 1, vr b2_0, .val .null, vi 16, vi 1, un, un, un] [(.ref b6_0), (.int 1), (.ref b2_0)])) rfl rfl (D d23_59)
  have N12 := Fr.snoc X12 N6 (Nat.le_trans Z0 z2_b2_0)
  have k12 := k6.wr W12 (Or.inr z2_b2_0)
  have v12 : Arv Z h12 b2_0 c2_1 (.object "java/util/HashMap$Node") (16 : Int32) [.null, (.ref b6_0), .null, .null, .null, .null, .null, .null, .null, .null, .null, .null, .null, .null, .null, .null] .null := Arv.set Ar11 C11 S11 M11 H11 G11 rfl W12 1 rfl (by show 1 < 16; decide)
  have f13 := (F6_6.other W12 (Or.inl (Ne.symm ne7)))
  obtain ⟨T14, X14, e14, st14⟩ := gF X12 hx hZ hown (w_ hw 198 rfl) Via.refl e12 f13 (g := (mkF m 261 #[vr r0, vi 97, vr r1, vr r2, vi 0, vi 1, vr b2_0, .val .null, vi 16, vi 1, un, un, un] [(.ref r0), (.ref r0)])) rfl rfl (D d23_261)
  have f15 := (f9.wr W12)
  obtain ⟨T16, h16, X16, e16, W16, st16⟩ := putF X14 hx hZ hown (host := "") (Or.inl (w_ hw 198 rfl)) Via.refl e14 f13 f15 (Or.inl (w_ hw 199 rfl)) (w_ hw 2 rfl) (ty := .int) (by decide) rfl rfl (g := (mkF m 266 #[vr r0, vi 97, vr r1, vr r2, vi 0, vi 1, vr b2_0, .val .null, vi 16, vi 1, un, un, un] [(.int 1), (.ref r0)])) rfl rfl (D d23_266)
  have N16 := Fr.snoc X16 N12 ge0
  have k16 := k12.wr W16 (Or.inl (List.mem_of_getElem? (i := 0) rfl))
  have v16 := f13.same W16
  have f17 := ((F6_7.other W12 (Or.inl (Ne.symm ne7))).other W16 (Or.inr (sn65 hw)))
  obtain ⟨T18, X18, e18, st18⟩ := gF X16 hx hZ hown (w_ hw 200 rfl) Via.refl e16 f17 (g := (mkF m 271 #[vr r0, vi 97, vr r1, vr r2, vi 0, vi 1, vr b2_0, .val .null, vi 16, vi 1, un, un, un] [(.ref r0), (.ref r0)])) rfl rfl (D d23_271)
  have f19 := (f15.wr W16)
  obtain ⟨T20, h20, X20, e20, W20, st20⟩ := putF X18 hx hZ hown (host := "") (Or.inl (w_ hw 200 rfl)) Via.refl e18 f17 f19 (Or.inl (w_ hw 201 rfl)) (w_ hw 2 rfl) (ty := .int) (by decide) rfl rfl (g := (mkF m 277 #[vr r0, vi 97, vr r1, vr r2, vi 0, vi 1, vr b2_0, .val .null, vi 16, vi 1, un, un, un] [(.int 1), (.ref r0), (.int 1)])) rfl rfl (D d23_277)
  have N20 := Fr.snoc X20 N16 ge0
  have k20 := k16.wr W20 (Or.inl (List.mem_of_getElem? (i := 0) rfl))
  have v20 := f17.same W20
  have f21 := (((F6_3.other W12 (Or.inl (Ne.symm ne7))).other W16 (Or.inr (Ne.symm (sn38 hw)))).other W20 (Or.inr (Ne.symm (sn40 hw))))
  obtain ⟨T22, X22, e22, st22⟩ := gF X20 hx hZ hown (w_ hw 157 rfl) Via.refl e20 f21 (g := (mkF m 281 #[vr r0, vi 97, vr r1, vr r2, vi 0, vi 1, vr b2_0, .val .null, vi 16, vi 1, un, un, un] [(.ref r0), (.int 1)])) rfl rfl (D d23_281)
  have f23 := (((F6_5.other W12 (Or.inl (Ne.symm ne7))).other W16 (Or.inr (Ne.symm (sn60 hw)))).other W20 (Or.inr (Ne.symm (sn62 hw))))
  have f24 := (f19.wr W20)
  obtain ⟨v25, T25, L25, X25, Q25, st25⟩ := kV (y := y34) (z := y33) X22 hx hZ hown (t36 hw SB0 r0 b6_0 (O0.keep k20 hws) f23 f24) f24 (nf_of (x := y25) (y' := y26) (args := #[]) (mvT hZ (w_ hw 118 rfl)) rfl) (w_ hw 202 rfl) (w_ hw 203 rfl) (w_ hw 205 rfl) (w_ hw 206 rfl) (w_ hw 3 rfl) (w_ hw 207 rfl) e22 (g := (mkF m 295 #[vr r0, vi 97, vr r1, vr r2, vi 0, vi 1, vr b2_0, .val .null, vi 16, vi 1, un, un, un] [(.int 1), (.ref r0)])) rfl hml rfl (argsL := [(.int 1)]) (rest := []) (lenOf pd20 rfl) rfl rfl (W := 0) rfl (D d23_295)
  obtain ⟨rfl, M25, e25⟩ := Q25
  have N25 := N20.app M25
  have f26 := (((F6_0.other W12 (Or.inl (Ne.symm ne7))).other W16 (Or.inr (Ne.symm (sn18 hw)))).other W20 (Or.inr (Ne.symm (sn20 hw))))
  have f27 := (((F6_1.other W12 (Or.inl (Ne.symm ne7))).other W16 (Or.inr (Ne.symm (sn59 hw)))).other W20 (Or.inr (Ne.symm (sn61 hw))))
  have f28 := (((F6_2.other W12 (Or.inl (Ne.symm ne7))).other W16 (Or.inr (Ne.symm (sn39 hw)))).other W20 (Or.inr (Ne.symm (sn41 hw))))
  have f29 := (((F6_4.other W12 (Or.inl (Ne.symm ne7))).other W16 (Or.inr (Ne.symm (sn19 hw)))).other W20 (Or.inr (Ne.symm (sn21 hw))))
  have f30 := (v16.other W20 (Or.inr (Ne.symm (sn65 hw))))
  have f31 := (((F6_8.other W12 (Or.inl (Ne.symm ne7))).other W16 (Or.inr (sn66 hw))).other W20 (Or.inr (sn67 hw)))
  have f32 := (((F6_9.wr W12).wr W16).wr W20)
  have f34 := (((f8.wr W12).wr W16).wr W20)
  have ne33 : b6_0 ≠ b2_0 := Exa.ne f32 f34 (by decide)
  have ne35 : b6_0 ≠ r0 := Exa.ne f32 f24 (by decide)
  have f36 := (((F6_10.other W12 (Or.inl ne33)).other W16 (Or.inl ne35)).other W20 (Or.inl ne35))
  have f37 := (((F6_11.other W12 (Or.inl ne33)).other W16 (Or.inl ne35)).other W20 (Or.inl ne35))
  have f38 := (((F6_12.other W12 (Or.inl ne33)).other W16 (Or.inl ne35)).other W20 (Or.inl ne35))
  have f39 := (((F6_13.other W12 (Or.inl ne33)).other W16 (Or.inl ne35)).other W20 (Or.inl ne35))
  have f40 := (((F6_14.other W12 (Or.inl ne33)).other W16 (Or.inl ne35)).other W20 (Or.inl ne35))
  have f41 := ((v12.other W16 ne7).other W20 ne7)
  refine ⟨(some .null), T25, _, _, _, X25, (fun hh => by cases hh), (by rw [e25]; exact ⟨b6_0, b2_0, c2_1, rfl, N25, k20, z6_b6_0, z2_b2_0, f26, f27, f28, f21, f29, f23, f30, v20, f31, f32, f36, f37, f38, f39, f40, f34, f41, F2_11⟩), (by decide), (by decide), fun fs hr => pre0 _ ?_⟩
  show SA p e below s₁ m 0 #[vr r0, vi 97, vr r1, vr r2, vi 0, vi 1, un, un, un, un, un, un, un] [] _
  refine XS.aloadN X0.here hx rfl (D d23_0) rfl rfl ?_
  refine st1 _ ?_
  refine XS.dup X1.here hx rfl (D d23_4) rfl rfl ?_
  refine XS.astore X1.here hx rfl (D d23_5) rfl rfl (l' := #[vr r0, vi 97, vr r1, vr r2, vi 0, vi 1, .val .null, un, un, un, un, un, un]) rfl ?_
  refine XS.ifnullYes X1.here hx rfl (pc0 := 7) (pc' := 19) rfl (D d23_7) rfl (by decide) (by decide) ?_
  refine XS.aloadN X1.here hx rfl (D d23_19) rfl rfl ?_
  refine st2 _ ?_
  refine XS.dup X2.here hx rfl (D d23_23) rfl rfl ?_
  refine XS.astore X2.here hx rfl (D d23_24) rfl rfl (l' := #[vr r0, vi 97, vr r1, vr r2, vi 0, vi 1, vr b2_0, un, un, un, un, un, un]) rfl ?_
  refine X2.arraylength hx (by rw [e2]; exact Ar3.1) (State.isArrayOf_alike hZ.alike Ar3.2.1) (g := (mkF m 26 #[vr r0, vi 97, vr r1, vr r2, vi 0, vi 1, vr b2_0, un, un, un, un, un, un] [(.ref b2_0)])) rfl rfl (D d23_26) _ ?_
  rw [len_of S3 M3]
  show SA p e below T2 m 27 #[vr r0, vi 97, vr r1, vr r2, vi 0, vi 1, vr b2_0, un, un, un, un, un, un] [(.int 16)] _
  refine XS.istore X2.here hx rfl (D d23_27) rfl (l' := #[vr r0, vi 97, vr r1, vr r2, vi 0, vi 1, vr b2_0, un, vi 16, un, un, un, un]) rfl ?_
  refine XS.aload X2.here hx rfl (D d23_29) rfl rfl ?_
  refine XS.iload X2.here hx rfl (D d23_31) rfl ?_
  refine XS.iconst X2.here hx rfl (D d23_33) ?_
  refine XS.isub X2.here hx rfl (D d23_34) rfl ?_
  refine XS.iloadN X2.here hx rfl (D d23_35) rfl ?_
  refine XS.iand X2.here hx rfl (D d23_36) rfl ?_
  refine XS.dup X2.here hx rfl (D d23_37) rfl rfl ?_
  refine XS.istore X2.here hx rfl (D d23_38) rfl (l' := #[vr r0, vi 97, vr r1, vr r2, vi 0, vi 1, vr b2_0, un, vi 16, vi 1, un, un, un]) rfl ?_
  refine X2.aaload hx (j := (1 : Int32)) (v := .null) (by rw [e2]; exact Ar4.1) (State.isArrayOf_alike hZ.alike Ar4.2.1) rfl Ar4.2.2 (inb_of S4 ⟨by decide, by decide⟩) (Has.at H4 (inb_of S4 ⟨by decide, by decide⟩) rfl) (g := (mkF m 40 #[vr r0, vi 97, vr r1, vr r2, vi 0, vi 1, vr b2_0, un, vi 16, vi 1, un, un, un] [(.int 1), (.ref b2_0)])) rfl rfl (D d23_40) _ ?_
  show SA p e below T2 m 41 #[vr r0, vi 97, vr r1, vr r2, vi 0, vi 1, vr b2_0, un, vi 16, vi 1, un, un, un] [.null] _
  refine XS.dup X2.here hx rfl (D d23_41) rfl rfl ?_
  refine XS.astore X2.here hx rfl (D d23_42) rfl rfl (l' := #[vr r0, vi 97, vr r1, vr r2, vi 0, vi 1, vr b2_0, .val .null, vi 16, vi 1, un, un, un]) rfl ?_
  refine XS.ifnonnullNo X2.here hx rfl (D d23_44) rfl ?_
  refine XS.aload X2.here hx rfl (D d23_47) rfl rfl ?_
  refine XS.iload X2.here hx rfl (D d23_49) rfl ?_
  refine XS.aloadN X2.here hx rfl (D d23_51) rfl rfl ?_
  refine XS.iloadN X2.here hx rfl (D d23_52) rfl ?_
  refine XS.aloadN X2.here hx rfl (D d23_53) rfl rfl ?_
  refine XS.aloadN X2.here hx rfl (D d23_54) rfl rfl ?_
  refine XS.aconstNull X2.here hx rfl (D d23_55) ?_
  refine st6 _ ?_
  refine st12 _ ?_
  refine XS.goto X12.here hx rfl (pc0 := 60) (pc' := 259) rfl (D d23_60) (by decide) (by decide) ?_
  refine XS.aloadN X12.here hx rfl (D d23_259) rfl rfl ?_
  refine XS.dup X12.here hx rfl (D d23_260) rfl rfl ?_
  refine st14 _ ?_
  refine XS.iconst X14.here hx rfl (D d23_264) ?_
  refine XS.iadd X14.here hx rfl (D d23_265) rfl ?_
  refine st16 _ ?_
  refine XS.aloadN X16.here hx rfl (D d23_269) rfl rfl ?_
  refine XS.dup X16.here hx rfl (D d23_270) rfl rfl ?_
  refine st18 _ ?_
  refine XS.iconst X18.here hx rfl (D d23_274) ?_
  refine XS.iadd X18.here hx rfl (D d23_275) rfl ?_
  refine XS.dupX1 X18.here hx rfl (D d23_276) rfl rfl rfl ?_
  refine st20 _ ?_
  refine XS.aloadN X20.here hx rfl (D d23_280) rfl rfl ?_
  refine st22 _ ?_
  refine XS.icmpYes X22.here hx rfl (pc0 := 284) (pc' := 292) rfl (D d23_284) rfl (flt (by decide : ¬ ((12 : Int32) < (1 : Int32)))).2.2.2 (by decide) (by decide) ?_
  refine XS.aloadN X22.here hx rfl (D d23_292) rfl rfl ?_
  refine XS.iload X22.here hx rfl (D d23_293) rfl ?_
  refine st25 _ ?_
  refine XS.aconstNull X25.here hx rfl (D d23_298) ?_
  show SA p e below T25 m 299 #[vr r0, vi 97, vr r1, vr r2, vi 0, vi 1, vr b2_0, .val .null, vi 16, vi 1, un, un, un] [.null] _
  exact retOut X25 hx hrt rfl (Or.inr (Or.inr (Or.inr (Or.inr ⟨rfl, rfl, rfl⟩)))) (D d23_299) hr
theorem pd21 : parseMethodDescriptor "(ILjava/lang/Object;Ljava/lang/Object;ZZ)Ljava/lang/Object;" = some ⟨[.int, (.object "java/lang/Object"), (.object "java/lang/Object"), .boolean, .boolean], some (.object "java/lang/Object")⟩ := by decide +kernel
theorem d18_12 : decode B18 12 = .ok (.areturn, 1) := by decide +kernel
def Q38 (Z : State) (cv : Int32) (de ca : Addr) (r0 r1 r2 r3 : Addr) (k4 : ClassId) (h0 : Heap) (n0 : Nat) (v : Option Value) (h : Heap) (L : List Loc) : Prop := ∃ (b14_0 b14_1 : Addr) (c14_2 : ClassId), v = (some .null) ∧ Fr n0 L ∧ Keep h0 h [r1, r0] ∧ h0.size ≤ b14_0 ∧ h0.size ≤ b14_1 ∧ P12 Z h r1 (.int 97) ∧ P13 Z h r1 (.int 0) ∧ P11 Z h r1 (.int 0) ∧ P10 Z h r1 (.ref r3) ∧ P1 Z h r0 (.int 0) ∧ P5 Z h r0 (.ref b14_0) ∧ P3 Z h r0 (.ref b14_1) ∧ P4 Z h r0 (.int 12) ∧ P2 Z h r0 (.int 0) ∧ P6 Z h r0 (.ref b14_0) ∧ P7 Z h r0 (.int 1) ∧ P8 Z h r0 (.int 1) ∧ P9 Z h r0 .null ∧ E_6 Z h b14_0 ∧ P17 Z h b14_0 (.int 97) ∧ P18 Z h b14_0 (.ref r1) ∧ P19 Z h b14_0 (.ref r2) ∧ P21 Z h b14_0 .null ∧ P22 Z h b14_0 .null ∧ E_5 Z h b14_1 ∧ Arv Z h b14_1 c14_2 (.object "java/util/HashMap$Node") (16 : Int32) [.null, (.ref b14_0), .null, .null, .null, .null, .null, .null, .null, .null, .null, .null, .null, .null, .null, .null] .null ∧ Ovr Z c14_2 "java/util/HashMap$Node"
/-- HashMap.put#0 -/
theorem t38 (hw : HW a0 Z) (SB0 : SB Z cv de ca) (r0 r1 r2 r3 : Addr) (k4 : ClassId) (O0 : OL Z n0 h0) (q0 : E_2 Z h0 r1) (q1 : P12 Z h0 r1 (.int 0)) (q2 : P13 Z h0 r1 (.int 0)) (q3 : P11 Z h0 r1 (.int 0)) (q4 : P10 Z h0 r1 (.ref r3)) (q5 : Arv Z h0 r3 k4 .byte (1 : Int32) [(.int 97)] (.int 0)) (q6 : E_0 Z h0 r0) (q7 : P3 Z h0 r0 .null) (q8 : P4 Z h0 r0 (.int 0)) (q9 : P1 Z h0 r0 (.int 0)) (q10 : P2 Z h0 r0 (.int 0)) (q11 : P5 Z h0 r0 .null) (q12 : P6 Z h0 r0 .null) (q13 : P7 Z h0 r0 (.int 0)) (q14 : P8 Z h0 r0 (.int 0)) (q15 : P9 Z h0 r0 .null) (ge0 : n0 ≤ r1) (ge1 : n0 ≤ r0) : CT l Z y26 B18 3 (some (.object "java/lang/Object")) ⟨5, 2, 22, 88⟩ #[(.ref r0), (.ref r1), (.ref r2)] h0 (Q38 Z cv de ca r0 r1 r2 r3 k4 h0 n0) := by
  refine ct_intro ?_
  intro p e s m below meth c s₁ E0 hx D hml hown hnm hrt X0 e0 hZ hE
  have Z0 := O0.le
  have K0 := Keep.refl h0 [r1, r0]
  have hws : ∀ w ∈ ([r1, r0] : List Addr), n0 ≤ w := (allS ge0 (allS ge1 all0))
  have N0 := Fr.nil n0
  have pre0 := ctp #[vr r0, vr r1, vr r2] hE
  obtain ⟨v1, T1, L1, X1, Q1, st1⟩ := kS X0 hx hZ hown (t29 hw SB0 r1 r3 k4 (O0.keep K0 hws) q0 q1 q2 q3 q4 q5 ge0) (w_ hw 124 rfl) (w_ hw 125 rfl) (w_ hw 11 rfl) (w_ hw 126 rfl) e0 (g := (mkF m 2 #[vr r0, vr r1, vr r2] [(.ref r1), (.ref r0)])) rfl hml rfl (argsL := [(.ref r1)]) (rest := [(.ref r0)]) (lenOf pd14 rfl) rfl rfl (W := 1) rfl (D d18_2)
  obtain ⟨h1, e1⟩ : ∃ z, T1.heap = z := ⟨_, rfl⟩
  rw [e1] at Q1
  obtain ⟨rfl, M1, K1, F1_0, F1_1, F1_2, F1_3⟩ := Q1
  have N1 := N0.app M1
  have k1 := K0.trans K1 (allS (Or.inl (List.mem_of_getElem? (i := 0) rfl)) all0)
  have f3 := (q6.keep K1)
  have f4 := (q0.keep K1)
  have ne2 : r0 ≠ r1 := Exa.ne f3 f4 (by decide)
  have f5 := (q7.keep K1 (ninS ne2 nin0))
  have f6 := (q8.keep K1 (ninS ne2 nin0))
  have f7 := (q9.keep K1 (ninS ne2 nin0))
  have f8 := (q10.keep K1 (ninS ne2 nin0))
  have f9 := (q11.keep K1 (ninS ne2 nin0))
  have f10 := (q12.keep K1 (ninS ne2 nin0))
  have f11 := (q13.keep K1 (ninS ne2 nin0))
  have f12 := (q14.keep K1 (ninS ne2 nin0))
  have f13 := (q15.keep K1 (ninS ne2 nin0))
  obtain ⟨v14, T14, L14, X14, Q14, st14⟩ := kV (y := y35) (z := y35) X1 hx hZ hown (t37 hw SB0 r0 r1 r2 (O0.keep k1 hws) f5 f3 f6 f7 f8 f9 f10 f11 f12 f13 ge1) f3 (nf_of (x := y25) (y' := y26) (args := #[]) (mvT hZ (w_ hw 118 rfl)) rfl) (w_ hw 145 rfl) (w_ hw 146 rfl) (w_ hw 148 rfl) (w_ hw 147 rfl) (w_ hw 11 rfl) (w_ hw 149 rfl) e1 (g := (mkF m 9 #[vr r0, vr r1, vr r2] [(.int 1), (.int 0), (.ref r2), (.ref r1), (.int 97), (.ref r0)])) rfl hml rfl (argsL := [(.int 97), (.ref r1), (.ref r2), (.int 0), (.int 1)]) (rest := []) (lenOf pd21 rfl) rfl rfl (W := 0) rfl (D d18_9)
  obtain ⟨h14, e14⟩ : ∃ z, T14.heap = z := ⟨_, rfl⟩
  rw [e14] at Q14
  obtain ⟨b14_0, b14_1, c14_2, rfl, M14, K14, y14_0, y14_1, F14_0, F14_1, F14_2, F14_3, F14_4, F14_5, F14_6, F14_7, F14_8, F14_9, F14_10, F14_11, F14_12, F14_13, F14_14, F14_15, F14_16, F14_17⟩ := Q14
  have N14 := N1.app M14
  have z14_b14_0 := Nat.le_trans k1.1 y14_0
  have z14_b14_1 := Nat.le_trans k1.1 y14_1
  have k14 := k1.trans K14 (allS (Or.inl (List.mem_of_getElem? (i := 1) rfl)) all0)
  have f15 := (F1_0.keep K14 (ninS (Ne.symm ne2) nin0))
  have f16 := (F1_1.keep K14 (ninS (Ne.symm ne2) nin0))
  have f17 := (F1_2.keep K14 (ninS (Ne.symm ne2) nin0))
  have f18 := (F1_3.keep K14 (ninS (Ne.symm ne2) nin0))
  refine ⟨(some .null), T14, _, _, _, X14, (fun hh => by cases hh), (by rw [e14]; exact ⟨b14_0, b14_1, c14_2, rfl, N14, k14, z14_b14_0, z14_b14_1, f15, f16, f17, f18, F14_0, F14_1, F14_2, F14_3, F14_4, F14_5, F14_6, F14_7, F14_8, F14_9, F14_10, F14_11, F14_12, F14_13, F14_14, F14_15, F14_16, F14_17⟩), (by decide), (by decide), fun fs hr => pre0 _ ?_⟩
  show SA p e below s₁ m 0 #[vr r0, vr r1, vr r2] [] _
  refine XS.aloadN X0.here hx rfl (D d18_0) rfl rfl ?_
  refine XS.aloadN X0.here hx rfl (D d18_1) rfl rfl ?_
  refine st1 _ ?_
  refine XS.aloadN X1.here hx rfl (D d18_5) rfl rfl ?_
  refine XS.aloadN X1.here hx rfl (D d18_6) rfl rfl ?_
  refine XS.iconst X1.here hx rfl (D d18_7) ?_
  refine XS.iconst X1.here hx rfl (D d18_8) ?_
  refine st14 _ ?_
  show SA p e below T14 m 12 #[vr r0, vr r1, vr r2] [.null] _
  exact retOut X14 hx hrt rfl (Or.inr (Or.inr (Or.inr (Or.inr ⟨rfl, rfl, rfl⟩)))) (D d18_12) hr
theorem pd22 : parseMethodDescriptor "(Ljava/lang/Object;Ljava/lang/Object;)Ljava/lang/Object;" = some ⟨[(.object "java/lang/Object"), (.object "java/lang/Object")], some (.object "java/lang/Object")⟩ := by decide +kernel
theorem iw1 {a0 Z} (hw : HW a0 Z) : IFW a0 Z "java/util/LinkedHashMap" y25 y26 B18 3 (some (.object "java/lang/Object")) := ⟨(w_ hw 116 rfl), (w_ hw 118 rfl), (w_ hw 119 rfl), (w_ hw 120 rfl), (w_ hw 121 rfl), (w_ hw 122 rfl), (w_ hw 11 rfl), (w_ hw 123 rfl)⟩
abbrev P23 (Z : State) (h : Heap) (a : Addr) (v : Value) : Prop := Fld Z h a "com/example/derivant/derivant/model/NextStateRelation" "firstNumber" "Ljava/util/Map;" v
abbrev P24 (Z : State) (h : Heap) (a : Addr) (v : Value) : Prop := Fld Z h a "com/example/derivant/derivant/model/NextStateRelation" "last" "[Z" v
abbrev P25 (Z : State) (h : Heap) (a : Addr) (v : Value) : Prop := Fld Z h a "com/example/derivant/derivant/model/NextStateRelation" "targetStarts" "[I" v
abbrev P26 (Z : State) (h : Heap) (a : Addr) (v : Value) : Prop := Fld Z h a "com/example/derivant/derivant/model/NextStateRelation" "messageTargets" "[I" v
abbrev P27 (Z : State) (h : Heap) (a : Addr) (v : Value) : Prop := Fld Z h a "com/example/derivant/derivant/model/NextStateRelation" "sourceStarts" "[I" v
abbrev P28 (Z : State) (h : Heap) (a : Addr) (v : Value) : Prop := Fld Z h a "com/example/derivant/derivant/model/NextStateRelation" "messageSources" "[I" v
abbrev B31 := prog_25_method_1_code
theorem d31_0 : decode B31 0 = .ok (.aload_n 0, 1) := by decide +kernel
theorem d31_1 : decode B31 1 = .ok (.invokespecial 1, 3) := by decide +kernel
theorem d31_4 : decode B31 4 = .ok (.aload_n 0, 1) := by decide +kernel
theorem d31_5 : decode B31 5 = .ok (.new 7, 3) := by decide +kernel
theorem d31_8 : decode B31 8 = .ok (.dup, 1) := by decide +kernel
theorem d31_9 : decode B31 9 = .ok (.invokespecial 9, 3) := by decide +kernel
abbrev E_7 (Z : State) (h : Heap) (a : Addr) : Prop := Exa Z h a "java/util/HashMap"
def Q39 (Z : State) (cv : Int32) (de ca : Addr) (r0 : Addr) (h0 : Heap) (n0 : Nat) (v : Option Value) (h : Heap) (L : List Loc) : Prop := v = none ∧ Fr n0 L ∧ Keep h0 h [r0] ∧ P3 Z h r0 .null ∧ P4 Z h r0 (.int 0) ∧ P7 Z h r0 (.int 0) ∧ P8 Z h r0 (.int 0)
/-- HashMap.init#1 -/
theorem t39 (hw : HW a0 Z) (SB0 : SB Z cv de ca) (r0 : Addr) (O0 : OL Z n0 h0) (q0 : E_7 Z h0 r0) (q1 : P0 Z h0 r0 (.float (0 : UInt32))) (q2 : P3 Z h0 r0 .null) (q3 : P4 Z h0 r0 (.int 0)) (q4 : P7 Z h0 r0 (.int 0)) (q5 : P8 Z h0 r0 (.int 0)) (ge0 : n0 ≤ r0) : CT l Z y1 B2 1 none ⟨2, 0, 0, 24⟩ #[(.ref r0)] h0 (Q39 Z cv de ca r0 h0 n0) := by
  refine ct_intro ?_
  intro p e s m below meth c s₁ E0 hx D hml hown hnm hrt X0 e0 hZ hE
  have Z0 := O0.le
  have K0 := Keep.refl h0 [r0]
  have hws : ∀ w ∈ ([r0] : List Addr), n0 ≤ w := (allS ge0 all0)
  have N0 := Fr.nil n0
  have pre0 := ctp #[vr r0] hE
  obtain ⟨v1, T1, L1, X1, Q1, st1⟩ := kI X0 hx hZ hown (t1 hw SB0 r0 (O0.keep K0 hws) ) rfl (w_ hw 13 rfl) (w_ hw 14 rfl) (w_ hw 17 rfl) (w_ hw 18 rfl) e0 (g := (mkF m 1 #[vr r0] [(.ref r0)])) rfl hml rfl (argsL := []) (rest := []) (lenOf pd0 rfl) rfl rfl (W := 0) rfl (D d2_1)
  obtain ⟨rfl, M1, e1⟩ := Q1
  have N1 := N0.app M1
  obtain ⟨T2, h2, X2, e2, W2, st2⟩ := putF X1 hx hZ hown (host := "") (Or.inl (w_ hw 23 rfl)) Via.refl e1 q1 q0 (Or.inr ⟨(w_ hw 224 rfl), rfl, hnm⟩) (w_ hw 221 rfl) (ty := .float) (by decide) rfl rfl (g := (mkF m 7 #[vr r0] [(.float (1061158912 : UInt32)), (.ref r0)])) rfl rfl (D d2_7)
  have N2 := Fr.snoc X2 N1 ge0
  have k2 := K0.wr W2 (Or.inl (List.mem_of_getElem? (i := 0) rfl))
  have v2 := q1.same W2
  have f3 := (q2.other W2 (Or.inr (sn2 hw)))
  have f4 := (q3.other W2 (Or.inr (sn3 hw)))
  have f5 := (q4.other W2 (Or.inr (sn6 hw)))
  have f6 := (q5.other W2 (Or.inr (sn7 hw)))
  refine ⟨none, T2, _, _, _, X2, fun _ => rfl, (by rw [e2]; exact ⟨rfl, N2, k2, f3, f4, f5, f6⟩), (by decide), (by decide), fun fs hr => pre0 _ ?_⟩
  show SA p e below s₁ m 0 #[vr r0] [] _
  refine XS.aloadN X0.here hx rfl (D d2_0) rfl rfl ?_
  refine st1 _ ?_
  refine XS.aloadN X1.here hx rfl (D d2_4) rfl rfl ?_
  refine X1.ldcFloatC hx hown (mvT hZ (w_ hw 22 rfl)) (g := (mkF m 5 #[vr r0] [(.ref r0)])) rfl (D d2_5) _ ?_
  show SA p e below T1 m 7 #[vr r0] [(.float (1061158912 : UInt32)), (.ref r0)] _
  refine st2 _ ?_
  show SA p e below T2 m 10 #[vr r0] [] _
  exact X2.returnOut hx hrt (D d2_10) hr
theorem d31_12 : decode B31 12 = .ok (.putfield 10, 3) := by decide +kernel
abbrev E_8 (Z : State) (h : Heap) (a : Addr) : Prop := Exa Z h a "com/example/derivant/derivant/model/NextStateRelation"
theorem d31_15 : decode B31 15 = .ok (.iconst 0, 1) := by decide +kernel
theorem d31_16 : decode B31 16 = .ok (.istore_n 3, 1) := by decide +kernel
theorem d31_17 : decode B31 17 = .ok (.aload_n 1, 1) := by decide +kernel
theorem d31_18 : decode B31 18 = .ok (.invokeinterface 16 1, 5) := by decide +kernel
abbrev B32 := jdk_94_method_32_code
theorem d32_0 : decode B32 0 = .ok (.aload_n 0, 1) := by decide +kernel
theorem d32_1 : decode B32 1 = .ok (.invokevirtual 148, 3) := by decide +kernel
abbrev B33 := jdk_94_method_33_code
theorem d33_0 : decode B33 0 = .ok (.aload_n 0, 1) := by decide +kernel
theorem d33_1 : decode B33 1 = .ok (.getfield 151, 3) := by decide +kernel
theorem d33_4 : decode B33 4 = .ok (.astore_n 1, 1) := by decide +kernel
theorem d33_5 : decode B33 5 = .ok (.aload_n 1, 1) := by decide +kernel
theorem d33_6 : decode B33 6 = .ok (.ifnonnull 20, 3) := by decide +kernel
theorem d33_9 : decode B33 9 = .ok (.new 154, 3) := by decide +kernel
abbrev P29 (Z : State) (h : Heap) (a : Addr) (v : Value) : Prop := Fld Z h a "java/util/LinkedHashMap$LinkedEntrySet" "this$0" "Ljava/util/LinkedHashMap;" v
abbrev P30 (Z : State) (h : Heap) (a : Addr) (v : Value) : Prop := Fld Z h a "java/util/LinkedHashMap$LinkedEntrySet" "reversed" "Z" v
theorem d33_12 : decode B33 12 = .ok (.dup, 1) := by decide +kernel
theorem d33_13 : decode B33 13 = .ok (.aload_n 0, 1) := by decide +kernel
theorem d33_14 : decode B33 14 = .ok (.iconst 0, 1) := by decide +kernel
theorem d33_15 : decode B33 15 = .ok (.invokespecial 156, 3) := by decide +kernel
abbrev B34 := jdk_113_method_1_code
theorem d34_0 : decode B34 0 = .ok (.aload_n 0, 1) := by decide +kernel
theorem d34_1 : decode B34 1 = .ok (.aload_n 1, 1) := by decide +kernel
theorem d34_2 : decode B34 2 = .ok (.putfield 1, 3) := by decide +kernel
abbrev E_9 (Z : State) (h : Heap) (a : Addr) : Prop := Exa Z h a "java/util/LinkedHashMap$LinkedEntrySet"
theorem d34_5 : decode B34 5 = .ok (.aload_n 0, 1) := by decide +kernel
theorem d34_6 : decode B34 6 = .ok (.invokespecial 7, 3) := by decide +kernel
abbrev B35 := jdk_91_method_1_code
theorem d35_0 : decode B35 0 = .ok (.aload_n 0, 1) := by decide +kernel
theorem d35_1 : decode B35 1 = .ok (.invokespecial 1, 3) := by decide +kernel
theorem d35_4 : decode B35 4 = .ok (.return_, 1) := by decide +kernel
abbrev y36 : MethodName := ⟨"java/util/AbstractSet", "<init>", "()V"⟩
/-- AbstractSet.init#0 -/
theorem t40 (hw : HW a0 Z) (SB0 : SB Z cv de ca) (r0 : Addr) (O0 : OL Z n0 h0)   : CT l Z y36 B35 1 none ⟨2, 0, 0, 24⟩ #[(.ref r0)] h0 (QP0 none h0 n0) := by
  refine ct_intro ?_
  intro p e s m below meth c s₁ E0 hx D hml hown hnm hrt X0 e0 hZ hE
  have Z0 := O0.le
  have K0 := Keep.refl h0 []
  have hws : ∀ w ∈ ([] : List Addr), n0 ≤ w := all0
  have N0 := Fr.nil n0
  have pre0 := ctp #[vr r0] hE
  obtain ⟨v1, T1, L1, X1, Q1, st1⟩ := kI X0 hx hZ hown (t8 hw SB0 r0 (O0.keep K0 hws) ) rfl (w_ hw 258 rfl) (w_ hw 70 rfl) (w_ hw 73 rfl) (w_ hw 74 rfl) e0 (g := (mkF m 1 #[vr r0] [(.ref r0)])) rfl hml rfl (argsL := []) (rest := []) (lenOf pd0 rfl) rfl rfl (W := 0) rfl (D d35_1)
  obtain ⟨rfl, M1, e1⟩ := Q1
  have N1 := N0.app M1
  refine ⟨none, T1, _, _, _, X1, fun _ => rfl, (by rw [e1]; exact ⟨rfl, N1, rfl⟩), (by decide), (by decide), fun fs hr => pre0 _ ?_⟩
  show SA p e below s₁ m 0 #[vr r0] [] _
  refine XS.aloadN X0.here hx rfl (D d35_0) rfl rfl ?_
  refine st1 _ ?_
  show SA p e below T1 m 4 #[vr r0] [] _
  exact X1.returnOut hx hrt (D d35_4) hr
theorem d34_9 : decode B34 9 = .ok (.aload_n 0, 1) := by decide +kernel
theorem d34_10 : decode B34 10 = .ok (.iload_n 2, 1) := by decide +kernel
theorem d34_11 : decode B34 11 = .ok (.putfield 13, 3) := by decide +kernel
abbrev S_23 (Z : State) := Jvm.RoadKit.slotOf Z "java/util/LinkedHashMap$LinkedEntrySet" "reversed" "Z"
abbrev S_24 (Z : State) := Jvm.RoadKit.slotOf Z "java/util/LinkedHashMap$LinkedEntrySet" "this$0" "Ljava/util/LinkedHashMap;"
theorem ly23 {a0 Z} (hw : HW a0 Z) : Laid Z a0 "java/util/LinkedHashMap$LinkedEntrySet" "java/util/LinkedHashMap$LinkedEntrySet" "reversed" "Z" := (Or.inr (w_ hw 261 rfl))
theorem ly24 {a0 Z} (hw : HW a0 Z) : Laid Z a0 "java/util/LinkedHashMap$LinkedEntrySet" "java/util/LinkedHashMap$LinkedEntrySet" "this$0" "Ljava/util/LinkedHashMap;" := (Or.inr (w_ hw 251 rfl))
theorem pf11 : parseFieldDescriptor "Ljava/util/LinkedHashMap;" = some (.object "java/util/LinkedHashMap") := by decide
theorem sn68 {a0 Z} (hw : HW a0 Z) : S_23 Z ≠ S_24 Z := Jvm.RoadKit.slot_ne (ly23 hw) (ly24 hw) (by decide) pf2 pf11
theorem d34_14 : decode B34 14 = .ok (.return_, 1) := by decide +kernel
abbrev y37 : MethodName := ⟨"java/util/LinkedHashMap$LinkedEntrySet", "<init>", "(Ljava/util/LinkedHashMap;Z)V"⟩
def Q41 (Z : State) (cv : Int32) (de ca : Addr) (r0 r1 : Addr) (h0 : Heap) (n0 : Nat) (v : Option Value) (h : Heap) (L : List Loc) : Prop := v = none ∧ Fr n0 L ∧ Keep h0 h [r0] ∧ P29 Z h r0 (.ref r1) ∧ P30 Z h r0 (.int 0)
/-- LinkedHashMap$LinkedEntrySet.init#0 -/
theorem t41 (hw : HW a0 Z) (SB0 : SB Z cv de ca) (r0 r1 : Addr) (O0 : OL Z n0 h0) (q0 : E_9 Z h0 r0) (q1 : P29 Z h0 r0 .null) (q2 : P30 Z h0 r0 (.int 0)) (ge0 : n0 ≤ r0) : CT l Z y37 B34 3 none ⟨3, 0, 0, 36⟩ #[(.ref r0), (.ref r1), (.int 0)] h0 (Q41 Z cv de ca r0 r1 h0 n0) := by
  refine ct_intro ?_
  intro p e s m below meth c s₁ E0 hx D hml hown hnm hrt X0 e0 hZ hE
  have Z0 := O0.le
  have K0 := Keep.refl h0 [r0]
  have hws : ∀ w ∈ ([r0] : List Addr), n0 ≤ w := (allS ge0 all0)
  have N0 := Fr.nil n0
  have pre0 := ctp #[vr r0, vr r1, vi 0] hE
  obtain ⟨T1, h1, X1, e1, W1, st1⟩ := putF X0 hx hZ hown (host := "") (Or.inl (w_ hw 250 rfl)) Via.refl e0 q1 q0 (Or.inr ⟨(w_ hw 251 rfl), rfl, hnm⟩) (w_ hw 244 rfl) (ty := (.object "java/util/LinkedHashMap")) (by decide) rfl rfl (g := (mkF m 2 #[vr r0, vr r1, vi 0] [(.ref r1), (.ref r0)])) rfl rfl (D d34_2)
  have N1 := Fr.snoc X1 N0 ge0
  have k1 := K0.wr W1 (Or.inl (List.mem_of_getElem? (i := 0) rfl))
  have v1 := q1.same W1
  obtain ⟨v2, T2, L2, X2, Q2, st2⟩ := kI X1 hx hZ hown (t40 hw SB0 r0 (O0.keep k1 hws) ) rfl (w_ hw 252 rfl) (w_ hw 253 rfl) (w_ hw 256 rfl) (w_ hw 257 rfl) e1 (g := (mkF m 6 #[vr r0, vr r1, vi 0] [(.ref r0)])) rfl hml rfl (argsL := []) (rest := []) (lenOf pd0 rfl) rfl rfl (W := 0) rfl (D d34_6)
  obtain ⟨rfl, M2, e2⟩ := Q2
  have N2 := N1.app M2
  have f3 := (q2.other W1 (Or.inr (sn68 hw)))
  have f4 := (q0.wr W1)
  obtain ⟨T5, h5, X5, e5, W5, st5⟩ := putFN X2 hx hZ hown (w_ hw 260 rfl) Via.refl e2 f3 f4 (Or.inr ⟨(w_ hw 261 rfl), rfl, hnm⟩) (w_ hw 244 rfl) (ty := .boolean) (v' := (.int 0)) (by decide) rfl rfl (g := (mkF m 11 #[vr r0, vr r1, vi 0] [(.int 0), (.ref r0)])) rfl rfl (D d34_11)
  have N5 := Fr.snoc X5 N2 ge0
  have k5 := k1.wr W5 (Or.inl (List.mem_of_getElem? (i := 0) rfl))
  have v5 := f3.same W5
  have f6 := (v1.other W5 (Or.inr (Ne.symm (sn68 hw))))
  refine ⟨none, T5, _, _, _, X5, fun _ => rfl, (by rw [e5]; exact ⟨rfl, N5, k5, f6, v5⟩), (by decide), (by decide), fun fs hr => pre0 _ ?_⟩
  show SA p e below s₁ m 0 #[vr r0, vr r1, vi 0] [] _
  refine XS.aloadN X0.here hx rfl (D d34_0) rfl rfl ?_
  refine XS.aloadN X0.here hx rfl (D d34_1) rfl rfl ?_
  refine st1 _ ?_
  refine XS.aloadN X1.here hx rfl (D d34_5) rfl rfl ?_
  refine st2 _ ?_
  refine XS.aloadN X2.here hx rfl (D d34_9) rfl rfl ?_
  refine XS.iloadN X2.here hx rfl (D d34_10) rfl ?_
  refine st5 _ ?_
  show SA p e below T5 m 14 #[vr r0, vr r1, vi 0] [] _
  exact X5.returnOut hx hrt (D d34_14) hr
theorem pd23 : parseMethodDescriptor "(Ljava/util/LinkedHashMap;Z)V" = some ⟨[(.object "java/util/LinkedHashMap"), .boolean], none⟩ := by decide +kernel
theorem d33_18 : decode B33 18 = .ok (.astore_n 2, 1) := by decide +kernel
theorem d33_19 : decode B33 19 = .ok (.aload_n 0, 1) := by decide +kernel
theorem d33_20 : decode B33 20 = .ok (.aload_n 2, 1) := by decide +kernel
theorem d33_21 : decode B33 21 = .ok (.putfield 151, 3) := by decide +kernel
theorem d33_24 : decode B33 24 = .ok (.aload_n 2, 1) := by decide +kernel
theorem d33_25 : decode B33 25 = .ok (.areturn, 1) := by decide +kernel
abbrev y38 : MethodName := ⟨"java/util/LinkedHashMap", "sequencedEntrySet", "()Ljava/util/SequencedSet;"⟩
def Q42 (Z : State) (cv : Int32) (de ca : Addr) (r0 r1 : Addr) (i2 : Int32) (h0 : Heap) (n0 : Nat) (v : Option Value) (h : Heap) (L : List Loc) : Prop := ∃ (b2 : Addr), v = (some (.ref b2)) ∧ Fr n0 L ∧ Keep h0 h [r0] ∧ h0.size ≤ b2 ∧ P9 Z h r0 (.ref b2) ∧ P6 Z h r0 (.ref r1) ∧ P7 Z h r0 (.int i2) ∧ E_9 Z h b2 ∧ P29 Z h b2 (.ref r0) ∧ P30 Z h b2 (.int 0)
/-- LinkedHashMap.sequencedEntrySet#0 -/
theorem t42 (hw : HW a0 Z) (SB0 : SB Z cv de ca) (r0 r1 : Addr) (i2 : Int32) (O0 : OL Z n0 h0) (q0 : P9 Z h0 r0 .null) (q1 : E_0 Z h0 r0) (q2 : P6 Z h0 r0 (.ref r1)) (q3 : P7 Z h0 r0 (.int i2)) (ge0 : n0 ≤ r0) : CT l Z y38 B33 3 (some (.object "java/util/SequencedSet")) ⟨4, 1, 2, 51⟩ #[(.ref r0)] h0 (Q42 Z cv de ca r0 r1 i2 h0 n0) := by
  refine ct_intro ?_
  intro p e s m below meth c s₁ E0 hx D hml hown hnm hrt X0 e0 hZ hE
  have Z0 := O0.le
  have K0 := Keep.refl h0 [r0]
  have hws : ∀ w ∈ ([r0] : List Addr), n0 ≤ w := (allS ge0 all0)
  have N0 := Fr.nil n0
  have pre0 := ctp #[vr r0, un, un] hE
  obtain ⟨T1, X1, e1, st1⟩ := gF X0 hx hZ hown (w_ hw 240 rfl) (Via.of (w_ hw 241 rfl)) e0 q0 (g := (mkF m 1 #[vr r0, un, un] [(.ref r0)])) rfl rfl (D d33_1)
  obtain ⟨T2, h2, X2, e2, E2, A2, D2, -, st2⟩ := newO X1 hx hZ hown (w_ hw 243 rfl) (w_ hw 244 rfl) (w_ hw 245 rfl) e1 (g := (mkF m 9 #[vr r0, .val .null, un] [])) rfl (D d33_9) (by decide) (by decide)
  obtain ⟨b2, g2⟩ : ∃ z, z = h0.size := ⟨_, rfl⟩
  rw [← g2] at A2 D2 st2
  have z2 : h0.size ≤ b2 := Nat.le_trans K0.1 (Nat.le_of_eq g2.symm)
  have k2 := K0.ext E2
  have F2_251 : P29 Z h2 b2 .null := D2 (Or.inr (w_ hw 251 rfl)) (ty := (.object "java/util/LinkedHashMap")) (by decide)
  have F2_261 : P30 Z h2 b2 (.int 0) := D2 (Or.inr (w_ hw 261 rfl)) (ty := .boolean) (by decide)
  obtain ⟨v3, T3, L3, X3, Q3, st3⟩ := kI X2 hx hZ hown (t41 hw SB0 b2 r0 (O0.keep k2 hws) A2 F2_251 F2_261 (Nat.le_trans Z0 z2)) rfl (w_ hw 246 rfl) (w_ hw 247 rfl) (w_ hw 245 rfl) (w_ hw 249 rfl) e2 (g := (mkF m 15 #[vr r0, .val .null, un] [(.int 0), (.ref r0), (.ref b2), (.ref b2)])) rfl hml rfl (argsL := [(.ref r0), (.int 0)]) (rest := [(.ref b2)]) (lenOf pd23 rfl) rfl rfl (W := 1) rfl (D d33_15)
  obtain ⟨h3, e3⟩ : ∃ z, T3.heap = z := ⟨_, rfl⟩
  rw [e3] at Q3
  obtain ⟨rfl, M3, K3, F3_0, F3_1⟩ := Q3
  have N3 := N0.app M3
  have k3 := k2.trans K3 (allS (Or.inr z2) all0)
  have f5 := ((q1.ext E2).keep K3)
  have f6 := (A2.keep K3)
  have ne4 : r0 ≠ b2 := Exa.ne f5 f6 (by decide)
  have f7 := ((q0.ext E2).keep K3 (ninS ne4 nin0))
  obtain ⟨T8, h8, X8, e8, W8, st8⟩ := putF X3 hx hZ hown (host := "") (Or.inl (w_ hw 240 rfl)) (Via.of (w_ hw 241 rfl)) e3 f7 f5 (Or.inl (w_ hw 242 rfl)) (w_ hw 2 rfl) (ty := (.object "java/util/Set")) (by decide) rfl rfl (g := (mkF m 21 #[vr r0, .val .null, vr b2] [(.ref b2), (.ref r0)])) rfl rfl (D d33_21)
  have N8 := Fr.snoc X8 N3 ge0
  have k8 := k3.wr W8 (Or.inl (List.mem_of_getElem? (i := 0) rfl))
  have v8 := f7.same W8
  have f9 := (((q2.ext E2).keep K3 (ninS ne4 nin0)).other W8 (Or.inr (Ne.symm (sn64 hw))))
  have f10 := (((q3.ext E2).keep K3 (ninS ne4 nin0)).other W8 (Or.inr (Ne.symm (sn66 hw))))
  have f11 := (f6.wr W8)
  have f12 := (F3_0.other W8 (Or.inl (Ne.symm ne4)))
  have f13 := (F3_1.other W8 (Or.inl (Ne.symm ne4)))
  refine ⟨(some (.ref b2)), T8, _, _, _, X8, (fun hh => by cases hh), (by rw [e8]; exact ⟨b2, rfl, N8, k8, z2, v8, f9, f10, f11, f12, f13⟩), (by decide), (by decide), fun fs hr => pre0 _ ?_⟩
  show SA p e below s₁ m 0 #[vr r0, un, un] [] _
  refine XS.aloadN X0.here hx rfl (D d33_0) rfl rfl ?_
  refine st1 _ ?_
  refine XS.astoreN X1.here hx rfl (D d33_4) rfl rfl (l' := #[vr r0, .val .null, un]) rfl ?_
  refine XS.aloadN X1.here hx rfl (D d33_5) rfl rfl ?_
  refine XS.ifnonnullNo X1.here hx rfl (D d33_6) rfl ?_
  refine st2 _ ?_
  refine XS.dup X2.here hx rfl (D d33_12) rfl rfl ?_
  refine XS.aloadN X2.here hx rfl (D d33_13) rfl rfl ?_
  refine XS.iconst X2.here hx rfl (D d33_14) ?_
  refine st3 _ ?_
  refine XS.astoreN X3.here hx rfl (D d33_18) rfl rfl (l' := #[vr r0, .val .null, vr b2]) rfl ?_
  refine XS.aloadN X3.here hx rfl (D d33_19) rfl rfl ?_
  refine XS.aloadN X3.here hx rfl (D d33_20) rfl rfl ?_
  refine st8 _ ?_
  refine XS.aloadN X8.here hx rfl (D d33_24) rfl rfl ?_
  show SA p e below T8 m 25 #[vr r0, .val .null, vr b2] [(.ref b2)] _
  exact retOut X8 hx hrt rfl (Or.inr (Or.inr (Or.inr (Or.inr ⟨rfl, rfl, rfl⟩)))) (D d33_25) hr
theorem pd24 : parseMethodDescriptor "()Ljava/util/SequencedSet;" = some ⟨[], some (.object "java/util/SequencedSet")⟩ := by decide +kernel
theorem d32_4 : decode B32 4 = .ok (.areturn, 1) := by decide +kernel
abbrev y39 : MethodName := ⟨"java/util/LinkedHashMap", "entrySet", "()Ljava/util/Set;"⟩
def Q43 (Z : State) (cv : Int32) (de ca : Addr) (r0 r1 : Addr) (i2 : Int32) (h0 : Heap) (n0 : Nat) (v : Option Value) (h : Heap) (L : List Loc) : Prop := ∃ (b1_0 : Addr), v = (some (.ref b1_0)) ∧ Fr n0 L ∧ Keep h0 h [r0] ∧ h0.size ≤ b1_0 ∧ P9 Z h r0 (.ref b1_0) ∧ P6 Z h r0 (.ref r1) ∧ P7 Z h r0 (.int i2) ∧ E_9 Z h b1_0 ∧ P29 Z h b1_0 (.ref r0) ∧ P30 Z h b1_0 (.int 0)
/-- LinkedHashMap.entrySet#0 -/
theorem t43 (hw : HW a0 Z) (SB0 : SB Z cv de ca) (r0 r1 : Addr) (i2 : Int32) (O0 : OL Z n0 h0) (q0 : E_0 Z h0 r0) (q1 : P9 Z h0 r0 .null) (q2 : P6 Z h0 r0 (.ref r1)) (q3 : P7 Z h0 r0 (.int i2)) (ge0 : n0 ≤ r0) : CT l Z y39 B32 1 (some (.object "java/util/Set")) ⟨5, 1, 2, 65⟩ #[(.ref r0)] h0 (Q43 Z cv de ca r0 r1 i2 h0 n0) := by
  refine ct_intro ?_
  intro p e s m below meth c s₁ E0 hx D hml hown hnm hrt X0 e0 hZ hE
  have Z0 := O0.le
  have K0 := Keep.refl h0 [r0]
  have hws : ∀ w ∈ ([r0] : List Addr), n0 ≤ w := (allS ge0 all0)
  have N0 := Fr.nil n0
  have pre0 := ctp #[vr r0] hE
  obtain ⟨v1, T1, L1, X1, Q1, st1⟩ := kV (y := y38) (z := y38) X0 hx hZ hown (t42 hw SB0 r0 r1 i2 (O0.keep K0 hws) q1 q0 q2 q3 ge0) q0 (nf_of (x := y30) (y' := y31) (args := #[]) (mvT hZ (w_ hw 164 rfl)) rfl) (w_ hw 235 rfl) (w_ hw 236 rfl) (w_ hw 238 rfl) (w_ hw 237 rfl) (w_ hw 3 rfl) (w_ hw 239 rfl) e0 (g := (mkF m 1 #[vr r0] [(.ref r0)])) rfl hml rfl (argsL := []) (rest := []) (lenOf pd24 rfl) rfl rfl (W := 0) rfl (D d32_1)
  obtain ⟨h1, e1⟩ : ∃ z, T1.heap = z := ⟨_, rfl⟩
  rw [e1] at Q1
  obtain ⟨b1_0, rfl, M1, K1, y1_0, F1_0, F1_1, F1_2, F1_3, F1_4, F1_5⟩ := Q1
  have N1 := N0.app M1
  have z1_b1_0 := Nat.le_trans K0.1 y1_0
  have k1 := K0.trans K1 (allS (Or.inl (List.mem_of_getElem? (i := 0) rfl)) all0)
  refine ⟨(some (.ref b1_0)), T1, _, _, _, X1, (fun hh => by cases hh), (by rw [e1]; exact ⟨b1_0, rfl, N1, k1, z1_b1_0, F1_0, F1_1, F1_2, F1_3, F1_4, F1_5⟩), (by decide), (by decide), fun fs hr => pre0 _ ?_⟩
  show SA p e below s₁ m 0 #[vr r0] [] _
  refine XS.aloadN X0.here hx rfl (D d32_0) rfl rfl ?_
  refine st1 _ ?_
  show SA p e below T1 m 4 #[vr r0] [(.ref b1_0)] _
  exact retOut X1 hx hrt rfl (Or.inr (Or.inr (Or.inr (Or.inr ⟨rfl, rfl, rfl⟩)))) (D d32_4) hr
theorem pd25 : parseMethodDescriptor "()Ljava/util/Set;" = some ⟨[], some (.object "java/util/Set")⟩ := by decide +kernel
abbrev y40 : MethodName := ⟨"java/util/Map", "entrySet", "()Ljava/util/Set;"⟩
theorem iw2 {a0 Z} (hw : HW a0 Z) : IFW a0 Z "java/util/LinkedHashMap" y40 y39 B32 1 (some (.object "java/util/Set")) := ⟨(w_ hw 228 rfl), (w_ hw 230 rfl), (w_ hw 231 rfl), (w_ hw 232 rfl), (w_ hw 233 rfl), (w_ hw 122 rfl), (w_ hw 3 rfl), (w_ hw 234 rfl)⟩
theorem d31_23 : decode B31 23 = .ok (.invokeinterface 22 1, 5) := by decide +kernel
abbrev B36 := jdk_113_method_4_code
theorem d36_0 : decode B36 0 = .ok (.new 26, 3) := by decide +kernel
abbrev P31 (Z : State) (h : Heap) (a : Addr) (v : Value) : Prop := Fld Z h a "java/util/LinkedHashMap$LinkedHashIterator" "this$0" "Ljava/util/LinkedHashMap;" v
abbrev P32 (Z : State) (h : Heap) (a : Addr) (v : Value) : Prop := Fld Z h a "java/util/LinkedHashMap$LinkedHashIterator" "reversed" "Z" v
abbrev P33 (Z : State) (h : Heap) (a : Addr) (v : Value) : Prop := Fld Z h a "java/util/LinkedHashMap$LinkedHashIterator" "next" "Ljava/util/LinkedHashMap$Entry;" v
abbrev P34 (Z : State) (h : Heap) (a : Addr) (v : Value) : Prop := Fld Z h a "java/util/LinkedHashMap$LinkedHashIterator" "expectedModCount" "I" v
abbrev P35 (Z : State) (h : Heap) (a : Addr) (v : Value) : Prop := Fld Z h a "java/util/LinkedHashMap$LinkedHashIterator" "current" "Ljava/util/LinkedHashMap$Entry;" v
theorem d36_3 : decode B36 3 = .ok (.dup, 1) := by decide +kernel
theorem d36_4 : decode B36 4 = .ok (.aload_n 0, 1) := by decide +kernel
theorem d36_5 : decode B36 5 = .ok (.getfield 1, 3) := by decide +kernel
theorem d36_8 : decode B36 8 = .ok (.aload_n 0, 1) := by decide +kernel
theorem d36_9 : decode B36 9 = .ok (.getfield 13, 3) := by decide +kernel
theorem d36_12 : decode B36 12 = .ok (.invokespecial 28, 3) := by decide +kernel
abbrev B37 := jdk_2615_method_1_code
theorem d37_0 : decode B37 0 = .ok (.aload_n 0, 1) := by decide +kernel
theorem d37_1 : decode B37 1 = .ok (.aload_n 1, 1) := by decide +kernel
theorem d37_2 : decode B37 2 = .ok (.iload_n 2, 1) := by decide +kernel
theorem d37_3 : decode B37 3 = .ok (.invokespecial 1, 3) := by decide +kernel
abbrev B38 := jdk_2616_method_1_code
theorem d38_0 : decode B38 0 = .ok (.aload_n 0, 1) := by decide +kernel
theorem d38_1 : decode B38 1 = .ok (.aload_n 1, 1) := by decide +kernel
theorem d38_2 : decode B38 2 = .ok (.putfield 1, 3) := by decide +kernel
abbrev E_10 (Z : State) (h : Heap) (a : Addr) : Prop := Exa Z h a "java/util/LinkedHashMap$LinkedEntryIterator"
theorem d38_5 : decode B38 5 = .ok (.aload_n 0, 1) := by decide +kernel
theorem d38_6 : decode B38 6 = .ok (.invokespecial 7, 3) := by decide +kernel
theorem d38_9 : decode B38 9 = .ok (.aload_n 0, 1) := by decide +kernel
theorem d38_10 : decode B38 10 = .ok (.iload_n 2, 1) := by decide +kernel
theorem d38_11 : decode B38 11 = .ok (.putfield 13, 3) := by decide +kernel
abbrev S_25 (Z : State) := Jvm.RoadKit.slotOf Z "java/util/LinkedHashMap$LinkedHashIterator" "reversed" "Z"
abbrev S_26 (Z : State) := Jvm.RoadKit.slotOf Z "java/util/LinkedHashMap$LinkedHashIterator" "this$0" "Ljava/util/LinkedHashMap;"
theorem ly25 {a0 Z} (hw : HW a0 Z) : Laid Z a0 "java/util/LinkedHashMap$LinkedEntryIterator" "java/util/LinkedHashMap$LinkedHashIterator" "reversed" "Z" := (Or.inl (w_ hw 288 rfl))
theorem ly26 {a0 Z} (hw : HW a0 Z) : Laid Z a0 "java/util/LinkedHashMap$LinkedEntryIterator" "java/util/LinkedHashMap$LinkedHashIterator" "this$0" "Ljava/util/LinkedHashMap;" := (Or.inr (w_ hw 285 rfl))
theorem sn69 {a0 Z} (hw : HW a0 Z) : S_25 Z ≠ S_26 Z := Jvm.RoadKit.slot_ne (ly25 hw) (ly26 hw) (by decide) pf2 pf11
theorem d38_14 : decode B38 14 = .ok (.aload_n 0, 1) := by decide +kernel
theorem d38_15 : decode B38 15 = .ok (.iload_n 2, 1) := by decide +kernel
theorem d38_16 : decode B38 16 = .ok (.ifCond .eq 10, 3) := by decide +kernel
theorem d38_26 : decode B38 26 = .ok (.aload_n 1, 1) := by decide +kernel
theorem d38_27 : decode B38 27 = .ok (.getfield 23, 3) := by decide +kernel
theorem d38_30 : decode B38 30 = .ok (.putfield 26, 3) := by decide +kernel
abbrev S_27 (Z : State) := Jvm.RoadKit.slotOf Z "java/util/LinkedHashMap$LinkedHashIterator" "next" "Ljava/util/LinkedHashMap$Entry;"
theorem ly27 {a0 Z} (hw : HW a0 Z) : Laid Z a0 "java/util/LinkedHashMap$LinkedEntryIterator" "java/util/LinkedHashMap$LinkedHashIterator" "next" "Ljava/util/LinkedHashMap$Entry;" := (Or.inl (w_ hw 291 rfl))
theorem sn70 {a0 Z} (hw : HW a0 Z) : S_27 Z ≠ S_26 Z := Jvm.RoadKit.slot_ne (ly27 hw) (ly26 hw) (by decide) pf4 pf11
theorem sn71 {a0 Z} (hw : HW a0 Z) : S_27 Z ≠ S_25 Z := Jvm.RoadKit.slot_ne (ly27 hw) (ly25 hw) (by decide) pf4 pf2
theorem d38_33 : decode B38 33 = .ok (.aload_n 0, 1) := by decide +kernel
theorem d38_34 : decode B38 34 = .ok (.aload_n 1, 1) := by decide +kernel
theorem d38_35 : decode B38 35 = .ok (.getfield 29, 3) := by decide +kernel
theorem d38_38 : decode B38 38 = .ok (.putfield 33, 3) := by decide +kernel
abbrev S_28 (Z : State) := Jvm.RoadKit.slotOf Z "java/util/LinkedHashMap$LinkedHashIterator" "expectedModCount" "I"
theorem ly28 {a0 Z} (hw : HW a0 Z) : Laid Z a0 "java/util/LinkedHashMap$LinkedEntryIterator" "java/util/LinkedHashMap$LinkedHashIterator" "expectedModCount" "I" := (Or.inl (w_ hw 295 rfl))
theorem sn72 {a0 Z} (hw : HW a0 Z) : S_28 Z ≠ S_26 Z := Jvm.RoadKit.slot_ne (ly28 hw) (ly26 hw) (by decide) pf0 pf11
theorem sn73 {a0 Z} (hw : HW a0 Z) : S_28 Z ≠ S_25 Z := Jvm.RoadKit.slot_ne (ly28 hw) (ly25 hw) (by decide) pf0 pf2
theorem sn74 {a0 Z} (hw : HW a0 Z) : S_28 Z ≠ S_27 Z := Jvm.RoadKit.slot_ne (ly28 hw) (ly27 hw) (by decide) pf0 pf4
theorem d38_41 : decode B38 41 = .ok (.aload_n 0, 1) := by decide +kernel
theorem d38_42 : decode B38 42 = .ok (.aconst_null, 1) := by decide +kernel
theorem d38_43 : decode B38 43 = .ok (.putfield 36, 3) := by decide +kernel
abbrev S_29 (Z : State) := Jvm.RoadKit.slotOf Z "java/util/LinkedHashMap$LinkedHashIterator" "current" "Ljava/util/LinkedHashMap$Entry;"
theorem ly29 {a0 Z} (hw : HW a0 Z) : Laid Z a0 "java/util/LinkedHashMap$LinkedEntryIterator" "java/util/LinkedHashMap$LinkedHashIterator" "current" "Ljava/util/LinkedHashMap$Entry;" := (Or.inl (w_ hw 297 rfl))
theorem sn75 {a0 Z} (hw : HW a0 Z) : S_29 Z ≠ S_26 Z := Jvm.RoadKit.slot_ne (ly29 hw) (ly26 hw) (by decide) pf4 pf11
theorem sn76 {a0 Z} (hw : HW a0 Z) : S_29 Z ≠ S_25 Z := Jvm.RoadKit.slot_ne (ly29 hw) (ly25 hw) (by decide) pf4 pf2
theorem sn77 {a0 Z} (hw : HW a0 Z) : S_29 Z ≠ S_27 Z := Jvm.RoadKit.slot_ne (ly29 hw) (ly27 hw) (by decide) pf4 pf4
theorem sn78 {a0 Z} (hw : HW a0 Z) : S_29 Z ≠ S_28 Z := Jvm.RoadKit.slot_ne (ly29 hw) (ly28 hw) (by decide) pf4 pf0
theorem d38_46 : decode B38 46 = .ok (.return_, 1) := by decide +kernel
abbrev y41 : MethodName := ⟨"java/util/LinkedHashMap$LinkedHashIterator", "<init>", "(Ljava/util/LinkedHashMap;Z)V"⟩
def Q44 (Z : State) (cv : Int32) (de ca : Addr) (r0 r1 : Addr) (i2 : Int32) (r3 : Addr) (i4 : Int32) (h0 : Heap) (n0 : Nat) (v : Option Value) (h : Heap) (L : List Loc) : Prop := v = none ∧ Fr n0 L ∧ Keep h0 h [r0] ∧ P31 Z h r0 (.ref r1) ∧ P32 Z h r0 (.int 0) ∧ P33 Z h r0 (.ref r3) ∧ P34 Z h r0 (.int i4) ∧ P35 Z h r0 .null
/-- LinkedHashMap$LinkedHashIterator.init#0 -/
theorem t44 (hw : HW a0 Z) (SB0 : SB Z cv de ca) (r0 r1 : Addr) (i2 : Int32) (r3 : Addr) (i4 : Int32) (O0 : OL Z n0 h0) (q0 : E_10 Z h0 r0) (q1 : P31 Z h0 r0 .null) (q2 : P32 Z h0 r0 (.int 0)) (q3 : P33 Z h0 r0 .null) (q4 : P34 Z h0 r0 (.int i2)) (q5 : P35 Z h0 r0 .null) (q6 : P6 Z h0 r1 (.ref r3)) (q7 : P7 Z h0 r1 (.int i4)) (q8 : E_0 Z h0 r1) (ge0 : n0 ≤ r0) : CT l Z y41 B38 3 none ⟨1, 0, 0, 12⟩ #[(.ref r0), (.ref r1), (.int 0)] h0 (Q44 Z cv de ca r0 r1 i2 r3 i4 h0 n0) := by
  refine ct_intro ?_
  intro p e s m below meth c s₁ E0 hx D hml hown hnm hrt X0 e0 hZ hE
  have Z0 := O0.le
  have K0 := Keep.refl h0 [r0]
  have hws : ∀ w ∈ ([r0] : List Addr), n0 ≤ w := (allS ge0 all0)
  have N0 := Fr.nil n0
  have pre0 := ctp #[vr r0, vr r1, vi 0] hE
  have nin_r1 : r1 ∉ ([r0] : List Addr) := (ninS (Exa.ne q8 q0 (by decide)) nin0)
  obtain ⟨T1, h1, X1, e1, W1, st1⟩ := putF X0 hx hZ hown (host := "") (Or.inl (w_ hw 284 rfl)) Via.refl e0 q1 q0 (Or.inr ⟨(w_ hw 285 rfl), rfl, hnm⟩) (w_ hw 272 rfl) (ty := (.object "java/util/LinkedHashMap")) (by decide) rfl rfl (g := (mkF m 2 #[vr r0, vr r1, vi 0] [(.ref r1), (.ref r0)])) rfl rfl (D d38_2)
  have N1 := Fr.snoc X1 N0 ge0
  have k1 := K0.wr W1 (Or.inl (List.mem_of_getElem? (i := 0) rfl))
  have v1 := q1.same W1
  obtain ⟨T2, X2, e2, st2⟩ := initO X1 hx hZ hown (w_ hw 286 rfl) (w_ hw 20 rfl) (w_ hw 21 rfl) e1 (g := (mkF m 6 #[vr r0, vr r1, vi 0] [(.ref r0)])) rfl (by rw [hml]; rfl) rfl (D d38_6) (by decide) (W := 0) (by show 2 * 0 + _ ≤ _; exact Nat.le_of_eq rfl) (by decide)
  have f3 := (q2.other W1 (Or.inr (sn69 hw)))
  have f4 := (q0.wr W1)
  obtain ⟨T5, h5, X5, e5, W5, st5⟩ := putFN X2 hx hZ hown (w_ hw 287 rfl) Via.refl e2 f3 f4 (Or.inl (w_ hw 288 rfl)) (w_ hw 272 rfl) (ty := .boolean) (v' := (.int 0)) (by decide) rfl rfl (g := (mkF m 11 #[vr r0, vr r1, vi 0] [(.int 0), (.ref r0)])) rfl rfl (D d38_11)
  have N5 := Fr.snoc X5 N1 ge0
  have k5 := k1.wr W5 (Or.inl (List.mem_of_getElem? (i := 0) rfl))
  have v5 := f3.same W5
  have f6 := q6.keep k5 nin_r1
  obtain ⟨T7, X7, e7, st7⟩ := gF X5 hx hZ hown (w_ hw 289 rfl) Via.refl e5 f6 (g := (mkF m 27 #[vr r0, vr r1, vi 0] [(.ref r1), (.ref r0)])) rfl rfl (D d38_27)
  have f8 := ((q3.other W1 (Or.inr (sn70 hw))).other W5 (Or.inr (sn71 hw)))
  have f9 := (f4.wr W5)
  obtain ⟨T10, h10, X10, e10, W10, st10⟩ := putF X7 hx hZ hown (host := "") (Or.inl (w_ hw 290 rfl)) Via.refl e7 f8 f9 (Or.inl (w_ hw 291 rfl)) (w_ hw 272 rfl) (ty := (.object "java/util/LinkedHashMap$Entry")) (by decide) rfl rfl (g := (mkF m 30 #[vr r0, vr r1, vi 0] [(.ref r3), (.ref r0)])) rfl rfl (D d38_30)
  have N10 := Fr.snoc X10 N5 ge0
  have k10 := k5.wr W10 (Or.inl (List.mem_of_getElem? (i := 0) rfl))
  have v10 := f8.same W10
  have f11 := q7.keep k10 nin_r1
  obtain ⟨T12, X12, e12, st12⟩ := gF X10 hx hZ hown (w_ hw 292 rfl) (Via.of (w_ hw 293 rfl)) e10 f11 (g := (mkF m 35 #[vr r0, vr r1, vi 0] [(.ref r1), (.ref r0)])) rfl rfl (D d38_35)
  have f13 := (((q4.other W1 (Or.inr (sn72 hw))).other W5 (Or.inr (sn73 hw))).other W10 (Or.inr (sn74 hw)))
  have f14 := (f9.wr W10)
  obtain ⟨T15, h15, X15, e15, W15, st15⟩ := putF X12 hx hZ hown (host := "") (Or.inl (w_ hw 294 rfl)) Via.refl e12 f13 f14 (Or.inl (w_ hw 295 rfl)) (w_ hw 272 rfl) (ty := .int) (by decide) rfl rfl (g := (mkF m 38 #[vr r0, vr r1, vi 0] [(.int i4), (.ref r0)])) rfl rfl (D d38_38)
  have N15 := Fr.snoc X15 N10 ge0
  have k15 := k10.wr W15 (Or.inl (List.mem_of_getElem? (i := 0) rfl))
  have v15 := f13.same W15
  have f16 := ((((q5.other W1 (Or.inr (sn75 hw))).other W5 (Or.inr (sn76 hw))).other W10 (Or.inr (sn77 hw))).other W15 (Or.inr (sn78 hw)))
  have f17 := (f14.wr W15)
  obtain ⟨T18, h18, X18, e18, W18, st18⟩ := putF X15 hx hZ hown (host := "") (Or.inl (w_ hw 296 rfl)) Via.refl e15 f16 f17 (Or.inl (w_ hw 297 rfl)) (w_ hw 272 rfl) (ty := (.object "java/util/LinkedHashMap$Entry")) (by decide) rfl rfl (g := (mkF m 43 #[vr r0, vr r1, vi 0] [.null, (.ref r0)])) rfl rfl (D d38_43)
  have N18 := Fr.snoc X18 N15 ge0
  have k18 := k15.wr W18 (Or.inl (List.mem_of_getElem? (i := 0) rfl))
  have v18 := f16.same W18
  have f19 := ((((v1.other W5 (Or.inr (Ne.symm (sn69 hw)))).other W10 (Or.inr (Ne.symm (sn70 hw)))).other W15 (Or.inr (Ne.symm (sn72 hw)))).other W18 (Or.inr (Ne.symm (sn75 hw))))
  have f20 := (((v5.other W10 (Or.inr (Ne.symm (sn71 hw)))).other W15 (Or.inr (Ne.symm (sn73 hw)))).other W18 (Or.inr (Ne.symm (sn76 hw))))
  have f21 := ((v10.other W15 (Or.inr (Ne.symm (sn74 hw)))).other W18 (Or.inr (Ne.symm (sn77 hw))))
  have f22 := (v15.other W18 (Or.inr (Ne.symm (sn78 hw))))
  refine ⟨none, T18, _, _, _, X18, fun _ => rfl, (by rw [e18]; exact ⟨rfl, N18, k18, f19, f20, f21, f22, v18⟩), (by decide), (by decide), fun fs hr => pre0 _ ?_⟩
  show SA p e below s₁ m 0 #[vr r0, vr r1, vi 0] [] _
  refine XS.aloadN X0.here hx rfl (D d38_0) rfl rfl ?_
  refine XS.aloadN X0.here hx rfl (D d38_1) rfl rfl ?_
  refine st1 _ ?_
  refine XS.aloadN X1.here hx rfl (D d38_5) rfl rfl ?_
  refine st2 _ ?_
  refine XS.aloadN X2.here hx rfl (D d38_9) rfl rfl ?_
  refine XS.iloadN X2.here hx rfl (D d38_10) rfl ?_
  refine st5 _ ?_
  refine XS.aloadN X5.here hx rfl (D d38_14) rfl rfl ?_
  refine XS.iloadN X5.here hx rfl (D d38_15) rfl ?_
  refine XS.ifYes X5.here hx rfl (pc0 := 16) (pc' := 26) rfl (D d38_16) rfl ((if0 _ _).trans (teq (by decide : ((0 : Int32) = (0 : Int32)))).1) (by decide) (by decide) ?_
  refine XS.aloadN X5.here hx rfl (D d38_26) rfl rfl ?_
  refine st7 _ ?_
  refine st10 _ ?_
  refine XS.aloadN X10.here hx rfl (D d38_33) rfl rfl ?_
  refine XS.aloadN X10.here hx rfl (D d38_34) rfl rfl ?_
  refine st12 _ ?_
  refine st15 _ ?_
  refine XS.aloadN X15.here hx rfl (D d38_41) rfl rfl ?_
  refine XS.aconstNull X15.here hx rfl (D d38_42) ?_
  refine st18 _ ?_
  show SA p e below T18 m 46 #[vr r0, vr r1, vi 0] [] _
  exact X18.returnOut hx hrt (D d38_46) hr
theorem d37_6 : decode B37 6 = .ok (.return_, 1) := by decide +kernel
abbrev y42 : MethodName := ⟨"java/util/LinkedHashMap$LinkedEntryIterator", "<init>", "(Ljava/util/LinkedHashMap;Z)V"⟩
def Q45 (Z : State) (cv : Int32) (de ca : Addr) (r0 r1 : Addr) (i2 : Int32) (r3 : Addr) (i4 : Int32) (h0 : Heap) (n0 : Nat) (v : Option Value) (h : Heap) (L : List Loc) : Prop := v = none ∧ Fr n0 L ∧ Keep h0 h [r0] ∧ P31 Z h r0 (.ref r1) ∧ P32 Z h r0 (.int 0) ∧ P33 Z h r0 (.ref r3) ∧ P34 Z h r0 (.int i4) ∧ P35 Z h r0 .null
/-- LinkedHashMap$LinkedEntryIterator.init#0 -/
theorem t45 (hw : HW a0 Z) (SB0 : SB Z cv de ca) (r0 r1 : Addr) (i2 : Int32) (r3 : Addr) (i4 : Int32) (O0 : OL Z n0 h0) (q0 : E_10 Z h0 r0) (q1 : P31 Z h0 r0 .null) (q2 : P32 Z h0 r0 (.int 0)) (q3 : P33 Z h0 r0 .null) (q4 : P34 Z h0 r0 (.int i2)) (q5 : P35 Z h0 r0 .null) (q6 : P6 Z h0 r1 (.ref r3)) (q7 : P7 Z h0 r1 (.int i4)) (q8 : E_0 Z h0 r1) (ge0 : n0 ≤ r0) : CT l Z y42 B37 3 none ⟨2, 0, 0, 26⟩ #[(.ref r0), (.ref r1), (.int 0)] h0 (Q45 Z cv de ca r0 r1 i2 r3 i4 h0 n0) := by
  refine ct_intro ?_
  intro p e s m below meth c s₁ E0 hx D hml hown hnm hrt X0 e0 hZ hE
  have Z0 := O0.le
  have K0 := Keep.refl h0 [r0]
  have hws : ∀ w ∈ ([r0] : List Addr), n0 ≤ w := (allS ge0 all0)
  have N0 := Fr.nil n0
  have pre0 := ctp #[vr r0, vr r1, vi 0] hE
  obtain ⟨v1, T1, L1, X1, Q1, st1⟩ := kI X0 hx hZ hown (t44 hw SB0 r0 r1 i2 r3 i4 (O0.keep K0 hws) q0 q1 q2 q3 q4 q5 q6 q7 q8 ge0) rfl (w_ hw 278 rfl) (w_ hw 279 rfl) (w_ hw 282 rfl) (w_ hw 283 rfl) e0 (g := (mkF m 3 #[vr r0, vr r1, vi 0] [(.int 0), (.ref r1), (.ref r0)])) rfl hml rfl (argsL := [(.ref r1), (.int 0)]) (rest := []) (lenOf pd23 rfl) rfl rfl (W := 0) rfl (D d37_3)
  obtain ⟨h1, e1⟩ : ∃ z, T1.heap = z := ⟨_, rfl⟩
  rw [e1] at Q1
  obtain ⟨rfl, M1, K1, F1_0, F1_1, F1_2, F1_3, F1_4⟩ := Q1
  have N1 := N0.app M1
  have k1 := K0.trans K1 (allS (Or.inl (List.mem_of_getElem? (i := 0) rfl)) all0)
  refine ⟨none, T1, _, _, _, X1, fun _ => rfl, (by rw [e1]; exact ⟨rfl, N1, k1, F1_0, F1_1, F1_2, F1_3, F1_4⟩), (by decide), (by decide), fun fs hr => pre0 _ ?_⟩
  show SA p e below s₁ m 0 #[vr r0, vr r1, vi 0] [] _
  refine XS.aloadN X0.here hx rfl (D d37_0) rfl rfl ?_
  refine XS.aloadN X0.here hx rfl (D d37_1) rfl rfl ?_
  refine XS.iloadN X0.here hx rfl (D d37_2) rfl ?_
  refine st1 _ ?_
  show SA p e below T1 m 6 #[vr r0, vr r1, vi 0] [] _
  exact X1.returnOut hx hrt (D d37_6) hr
theorem d36_15 : decode B36 15 = .ok (.areturn, 1) := by decide +kernel
abbrev y43 : MethodName := ⟨"java/util/LinkedHashMap$LinkedEntrySet", "iterator", "()Ljava/util/Iterator;"⟩
def Q46 (Z : State) (cv : Int32) (de ca : Addr) (r0 r1 r2 : Addr) (i3 : Int32) (h0 : Heap) (n0 : Nat) (v : Option Value) (h : Heap) (L : List Loc) : Prop := ∃ (b1 : Addr), v = (some (.ref b1)) ∧ Fr n0 L ∧ Keep h0 h [] ∧ h0.size ≤ b1 ∧ E_10 Z h b1 ∧ P31 Z h b1 (.ref r1) ∧ P32 Z h b1 (.int 0) ∧ P33 Z h b1 (.ref r2) ∧ P34 Z h b1 (.int i3) ∧ P35 Z h b1 .null
/-- LinkedHashMap$LinkedEntrySet.iterator#0 -/
theorem t46 (hw : HW a0 Z) (SB0 : SB Z cv de ca) (r0 r1 r2 : Addr) (i3 : Int32) (O0 : OL Z n0 h0) (q0 : P29 Z h0 r0 (.ref r1)) (q1 : P30 Z h0 r0 (.int 0)) (q2 : P6 Z h0 r1 (.ref r2)) (q3 : P7 Z h0 r1 (.int i3)) (q4 : E_0 Z h0 r1)  : CT l Z y43 B36 1 (some (.object "java/util/Iterator")) ⟨3, 1, 5, 41⟩ #[(.ref r0)] h0 (Q46 Z cv de ca r0 r1 r2 i3 h0 n0) := by
  refine ct_intro ?_
  intro p e s m below meth c s₁ E0 hx D hml hown hnm hrt X0 e0 hZ hE
  have Z0 := O0.le
  have K0 := Keep.refl h0 []
  have hws : ∀ w ∈ ([] : List Addr), n0 ≤ w := all0
  have N0 := Fr.nil n0
  have pre0 := ctp #[vr r0] hE
  have nin_r0 : r0 ∉ ([] : List Addr) := nin0
  have nin_r1 : r1 ∉ ([] : List Addr) := nin0
  obtain ⟨T1, h1, X1, e1, E1, A1, D1, -, st1⟩ := newO X0 hx hZ hown (w_ hw 271 rfl) (w_ hw 272 rfl) (w_ hw 273 rfl) e0 (g := (mkF m 0 #[vr r0] [])) rfl (D d36_0) (by decide) (by decide)
  obtain ⟨b1, g1⟩ : ∃ z, z = h0.size := ⟨_, rfl⟩
  rw [← g1] at A1 D1 st1
  have z1 : h0.size ≤ b1 := Nat.le_trans K0.1 (Nat.le_of_eq g1.symm)
  have k1 := K0.ext E1
  have F1_285 : P31 Z h1 b1 .null := D1 (Or.inr (w_ hw 285 rfl)) (ty := (.object "java/util/LinkedHashMap")) (by decide)
  have F1_288 : P32 Z h1 b1 (.int 0) := D1 (Or.inl (w_ hw 288 rfl)) (ty := .boolean) (by decide)
  have F1_291 : P33 Z h1 b1 .null := D1 (Or.inl (w_ hw 291 rfl)) (ty := (.object "java/util/LinkedHashMap$Entry")) (by decide)
  have F1_295 : P34 Z h1 b1 (.int 0) := D1 (Or.inl (w_ hw 295 rfl)) (ty := .int) (by decide)
  have F1_297 : P35 Z h1 b1 .null := D1 (Or.inl (w_ hw 297 rfl)) (ty := (.object "java/util/LinkedHashMap$Entry")) (by decide)
  have f2 := q0.keep k1 nin_r0
  obtain ⟨T3, X3, e3, st3⟩ := gF X1 hx hZ hown (w_ hw 250 rfl) Via.refl e1 f2 (g := (mkF m 5 #[vr r0] [(.ref r0), (.ref b1), (.ref b1)])) rfl rfl (D d36_5)
  have f4 := q1.keep k1 nin_r0
  obtain ⟨T5, X5, e5, st5⟩ := gF X3 hx hZ hown (w_ hw 260 rfl) Via.refl e3 f4 (g := (mkF m 9 #[vr r0] [(.ref r0), (.ref r1), (.ref b1), (.ref b1)])) rfl rfl (D d36_9)
  have f6 := q2.keep k1 nin_r1
  have f7 := q3.keep k1 nin_r1
  have f8 := q4.keep k1
  obtain ⟨v9, T9, L9, X9, Q9, st9⟩ := kI X5 hx hZ hown (t45 hw SB0 b1 r1 (0 : Int32) r2 i3 (O0.keep k1 hws) A1 F1_285 F1_288 F1_291 F1_295 F1_297 f6 f7 f8 (Nat.le_trans Z0 z1)) rfl (w_ hw 274 rfl) (w_ hw 275 rfl) (w_ hw 273 rfl) (w_ hw 277 rfl) e5 (g := (mkF m 12 #[vr r0] [(.int 0), (.ref r1), (.ref b1), (.ref b1)])) rfl hml rfl (argsL := [(.ref r1), (.int 0)]) (rest := [(.ref b1)]) (lenOf pd23 rfl) rfl rfl (W := 1) rfl (D d36_12)
  obtain ⟨h9, e9⟩ : ∃ z, T9.heap = z := ⟨_, rfl⟩
  rw [e9] at Q9
  obtain ⟨rfl, M9, K9, F9_0, F9_1, F9_2, F9_3, F9_4⟩ := Q9
  have N9 := N0.app M9
  have k9 := k1.trans K9 (allS (Or.inr z1) all0)
  have f10 := (A1.keep K9)
  refine ⟨(some (.ref b1)), T9, _, _, _, X9, (fun hh => by cases hh), (by rw [e9]; exact ⟨b1, rfl, N9, k9, z1, f10, F9_0, F9_1, F9_2, F9_3, F9_4⟩), (by decide), (by decide), fun fs hr => pre0 _ ?_⟩
  show SA p e below s₁ m 0 #[vr r0] [] _
  refine st1 _ ?_
  refine XS.dup X1.here hx rfl (D d36_3) rfl rfl ?_
  refine XS.aloadN X1.here hx rfl (D d36_4) rfl rfl ?_
  refine st3 _ ?_
  refine XS.aloadN X3.here hx rfl (D d36_8) rfl rfl ?_
  refine st5 _ ?_
  refine st9 _ ?_
  show SA p e below T9 m 15 #[vr r0] [(.ref b1)] _
  exact retOut X9 hx hrt rfl (Or.inr (Or.inr (Or.inr (Or.inr ⟨rfl, rfl, rfl⟩)))) (D d36_15) hr
theorem pd26 : parseMethodDescriptor "()Ljava/util/Iterator;" = some ⟨[], some (.object "java/util/Iterator")⟩ := by decide +kernel
abbrev y44 : MethodName := ⟨"java/util/Set", "iterator", "()Ljava/util/Iterator;"⟩
theorem iw3 {a0 Z} (hw : HW a0 Z) : IFW a0 Z "java/util/LinkedHashMap$LinkedEntrySet" y44 y43 B36 1 (some (.object "java/util/Iterator")) := ⟨(w_ hw 263 rfl), (w_ hw 265 rfl), (w_ hw 266 rfl), (w_ hw 267 rfl), (w_ hw 268 rfl), (w_ hw 269 rfl), (w_ hw 245 rfl), (w_ hw 270 rfl)⟩
theorem d31_28 : decode B31 28 = .ok (.astore 4, 2) := by decide +kernel
theorem d31_30 : decode B31 30 = .ok (.aload 4, 2) := by decide +kernel
theorem d31_32 : decode B31 32 = .ok (.invokeinterface 28 1, 5) := by decide +kernel
abbrev B39 := jdk_2616_method_2_code
theorem d39_0 : decode B39 0 = .ok (.aload_n 0, 1) := by decide +kernel
theorem d39_1 : decode B39 1 = .ok (.getfield 26, 3) := by decide +kernel
theorem d39_4 : decode B39 4 = .ok (.ifnull 7, 3) := by decide +kernel
theorem d39_7 : decode B39 7 = .ok (.iconst 1, 1) := by decide +kernel
theorem d39_8 : decode B39 8 = .ok (.goto 4, 3) := by decide +kernel
theorem d39_12 : decode B39 12 = .ok (.ireturn, 1) := by decide +kernel
abbrev y45 : MethodName := ⟨"java/util/LinkedHashMap$LinkedHashIterator", "hasNext", "()Z"⟩
/-- LinkedHashMap$LinkedHashIterator.hasNext#0 -/
theorem t47 (hw : HW a0 Z) (SB0 : SB Z cv de ca) (r0 r1 : Addr) (O0 : OL Z n0 h0) (q0 : P33 Z h0 r0 (.ref r1))  : CT l Z y45 B39 1 (some .boolean) ⟨0, 0, 0, 0⟩ #[(.ref r0)] h0 (QP0 (some (.int 1)) h0 n0) := by
  refine ct_intro ?_
  intro p e s m below meth c s₁ E0 hx D hml hown hnm hrt X0 e0 hZ hE
  have N0 := Fr.nil n0
  have pre0 := ctp #[vr r0] hE
  obtain ⟨T1, X1, e1, st1⟩ := gF X0 hx hZ hown (w_ hw 290 rfl) Via.refl e0 q0 (g := (mkF m 1 #[vr r0] [(.ref r0)])) rfl rfl (D d39_1)
  refine ⟨(some (.int 1)), T1, _, _, _, X1, (fun hh => by cases hh), (by rw [e1]; exact ⟨rfl, N0, rfl⟩), (by decide), (by decide), fun fs hr => pre0 _ ?_⟩
  show SA p e below s₁ m 0 #[vr r0] [] _
  refine XS.aloadN X0.here hx rfl (D d39_0) rfl rfl ?_
  refine st1 _ ?_
  refine XS.ifnullNo X1.here hx rfl (D d39_4) rfl ?_
  refine XS.iconst X1.here hx rfl (D d39_7) ?_
  refine XS.goto X1.here hx rfl (pc0 := 8) (pc' := 12) rfl (D d39_8) (by decide) (by decide) ?_
  show SA p e below T1 m 12 #[vr r0] [(.int 1)] _
  exact retN X1 hx (t := .boolean) hrt (by simp) (D d39_12) hr
abbrev y46 : MethodName := ⟨"java/util/Iterator", "hasNext", "()Z"⟩
theorem iw4 {a0 Z} (hw : HW a0 Z) : IFW a0 Z "java/util/LinkedHashMap$LinkedEntryIterator" y46 y45 B39 1 (some .boolean) := ⟨(w_ hw 299 rfl), (w_ hw 301 rfl), (w_ hw 302 rfl), (w_ hw 303 rfl), (w_ hw 304 rfl), (w_ hw 305 rfl), (w_ hw 282 rfl), (w_ hw 306 rfl)⟩
theorem d31_37 : decode B31 37 = .ok (.ifCond .eq 60, 3) := by decide +kernel
theorem d31_40 : decode B31 40 = .ok (.aload 4, 2) := by decide +kernel
theorem d31_42 : decode B31 42 = .ok (.invokeinterface 34 1, 5) := by decide +kernel
abbrev B40 := jdk_2615_method_3_code
theorem d40_0 : decode B40 0 = .ok (.aload_n 0, 1) := by decide +kernel
theorem d40_1 : decode B40 1 = .ok (.invokevirtual 13, 3) := by decide +kernel
abbrev B41 := jdk_2615_method_2_code
theorem d41_0 : decode B41 0 = .ok (.aload_n 0, 1) := by decide +kernel
theorem d41_1 : decode B41 1 = .ok (.invokevirtual 7, 3) := by decide +kernel
abbrev B42 := jdk_2616_method_3_code
theorem d42_0 : decode B42 0 = .ok (.aload_n 0, 1) := by decide +kernel
theorem d42_1 : decode B42 1 = .ok (.getfield 26, 3) := by decide +kernel
theorem d42_4 : decode B42 4 = .ok (.astore_n 1, 1) := by decide +kernel
theorem d42_5 : decode B42 5 = .ok (.aload_n 0, 1) := by decide +kernel
theorem d42_6 : decode B42 6 = .ok (.getfield 1, 3) := by decide +kernel
theorem d42_9 : decode B42 9 = .ok (.getfield 29, 3) := by decide +kernel
theorem d42_12 : decode B42 12 = .ok (.aload_n 0, 1) := by decide +kernel
theorem d42_13 : decode B42 13 = .ok (.getfield 33, 3) := by decide +kernel
theorem d42_16 : decode B42 16 = .ok (.if_icmp .eq 11, 3) := by decide +kernel
theorem d42_27 : decode B42 27 = .ok (.aload_n 1, 1) := by decide +kernel
theorem d42_28 : decode B42 28 = .ok (.ifnonnull 11, 3) := by decide +kernel
theorem d42_39 : decode B42 39 = .ok (.aload_n 0, 1) := by decide +kernel
theorem d42_40 : decode B42 40 = .ok (.aload_n 1, 1) := by decide +kernel
theorem d42_41 : decode B42 41 = .ok (.putfield 36, 3) := by decide +kernel
theorem d42_44 : decode B42 44 = .ok (.aload_n 0, 1) := by decide +kernel
theorem d42_45 : decode B42 45 = .ok (.aload_n 0, 1) := by decide +kernel
theorem d42_46 : decode B42 46 = .ok (.getfield 13, 3) := by decide +kernel
theorem d42_49 : decode B42 49 = .ok (.ifCond .eq 10, 3) := by decide +kernel
theorem d42_59 : decode B42 59 = .ok (.aload_n 1, 1) := by decide +kernel
theorem d42_60 : decode B42 60 = .ok (.getfield 50, 3) := by decide +kernel
theorem d42_63 : decode B42 63 = .ok (.putfield 26, 3) := by decide +kernel
theorem d42_66 : decode B42 66 = .ok (.aload_n 1, 1) := by decide +kernel
theorem d42_67 : decode B42 67 = .ok (.areturn, 1) := by decide +kernel
abbrev y47 : MethodName := ⟨"java/util/LinkedHashMap$LinkedHashIterator", "nextNode", "()Ljava/util/LinkedHashMap$Entry;"⟩
def Q48 (Z : State) (cv : Int32) (de ca : Addr) (r0 r1 r2 : Addr) (i3 : Int32) (h0 : Heap) (n0 : Nat) (v : Option Value) (h : Heap) (L : List Loc) : Prop := v = (some (.ref r1)) ∧ Fr n0 L ∧ Keep h0 h [r0] ∧ P33 Z h r0 .null ∧ P31 Z h r0 (.ref r2) ∧ P34 Z h r0 (.int i3) ∧ P32 Z h r0 (.int 0) ∧ P35 Z h r0 (.ref r1)
/-- LinkedHashMap$LinkedHashIterator.nextNode#0 -/
theorem t48 (hw : HW a0 Z) (SB0 : SB Z cv de ca) (r0 r1 r2 : Addr) (i3 : Int32) (O0 : OL Z n0 h0) (q0 : P33 Z h0 r0 (.ref r1)) (q1 : P31 Z h0 r0 (.ref r2)) (q2 : P7 Z h0 r2 (.int i3)) (q3 : P34 Z h0 r0 (.int i3)) (q4 : E_10 Z h0 r0) (q5 : P32 Z h0 r0 (.int 0)) (q6 : P35 Z h0 r0 .null) (q7 : P21 Z h0 r1 .null) (q8 : E_6 Z h0 r1) (ge0 : n0 ≤ r0) : CT l Z y47 B42 2 (some (.object "java/util/LinkedHashMap$Entry")) ⟨0, 0, 0, 0⟩ #[(.ref r0)] h0 (Q48 Z cv de ca r0 r1 r2 i3 h0 n0) := by
  refine ct_intro ?_
  intro p e s m below meth c s₁ E0 hx D hml hown hnm hrt X0 e0 hZ hE
  have Z0 := O0.le
  have K0 := Keep.refl h0 [r0]
  have hws : ∀ w ∈ ([r0] : List Addr), n0 ≤ w := (allS ge0 all0)
  have N0 := Fr.nil n0
  have pre0 := ctp #[vr r0, un] hE
  have nin_r1 : r1 ∉ ([r0] : List Addr) := (ninS (Exa.ne q8 q4 (by decide)) nin0)
  obtain ⟨T1, X1, e1, st1⟩ := gF X0 hx hZ hown (w_ hw 290 rfl) Via.refl e0 q0 (g := (mkF m 1 #[vr r0, un] [(.ref r0)])) rfl rfl (D d42_1)
  obtain ⟨T2, X2, e2, st2⟩ := gF X1 hx hZ hown (w_ hw 284 rfl) Via.refl e1 q1 (g := (mkF m 6 #[vr r0, vr r1] [(.ref r0)])) rfl rfl (D d42_6)
  obtain ⟨T3, X3, e3, st3⟩ := gF X2 hx hZ hown (w_ hw 292 rfl) (Via.of (w_ hw 293 rfl)) e2 q2 (g := (mkF m 9 #[vr r0, vr r1] [(.ref r2)])) rfl rfl (D d42_9)
  obtain ⟨T4, X4, e4, st4⟩ := gF X3 hx hZ hown (w_ hw 294 rfl) Via.refl e3 q3 (g := (mkF m 13 #[vr r0, vr r1] [(.ref r0), (.int i3)])) rfl rfl (D d42_13)
  obtain ⟨T5, h5, X5, e5, W5, st5⟩ := putF X4 hx hZ hown (host := "") (Or.inl (w_ hw 296 rfl)) Via.refl e4 q6 q4 (Or.inl (w_ hw 297 rfl)) (w_ hw 272 rfl) (ty := (.object "java/util/LinkedHashMap$Entry")) (by decide) rfl rfl (g := (mkF m 41 #[vr r0, vr r1] [(.ref r1), (.ref r0)])) rfl rfl (D d42_41)
  have N5 := Fr.snoc X5 N0 ge0
  have k5 := K0.wr W5 (Or.inl (List.mem_of_getElem? (i := 0) rfl))
  have v5 := q6.same W5
  have f6 := (q5.other W5 (Or.inr (Ne.symm (sn76 hw))))
  obtain ⟨T7, X7, e7, st7⟩ := gF X5 hx hZ hown (w_ hw 287 rfl) Via.refl e5 f6 (g := (mkF m 46 #[vr r0, vr r1] [(.ref r0), (.ref r0)])) rfl rfl (D d42_46)
  have f8 := q7.keep k5 nin_r1
  obtain ⟨T9, X9, e9, st9⟩ := gF X7 hx hZ hown (w_ hw 326 rfl) Via.refl e7 f8 (g := (mkF m 60 #[vr r0, vr r1] [(.ref r1), (.ref r0)])) rfl rfl (D d42_60)
  have f10 := (q0.other W5 (Or.inr (Ne.symm (sn77 hw))))
  have f11 := (q4.wr W5)
  obtain ⟨T12, h12, X12, e12, W12, st12⟩ := putF X9 hx hZ hown (host := "") (Or.inl (w_ hw 290 rfl)) Via.refl e9 f10 f11 (Or.inl (w_ hw 291 rfl)) (w_ hw 272 rfl) (ty := (.object "java/util/LinkedHashMap$Entry")) (by decide) rfl rfl (g := (mkF m 63 #[vr r0, vr r1] [.null, (.ref r0)])) rfl rfl (D d42_63)
  have N12 := Fr.snoc X12 N5 ge0
  have k12 := k5.wr W12 (Or.inl (List.mem_of_getElem? (i := 0) rfl))
  have v12 := f10.same W12
  have f13 := ((q1.other W5 (Or.inr (Ne.symm (sn75 hw)))).other W12 (Or.inr (Ne.symm (sn70 hw))))
  have f14 := ((q3.other W5 (Or.inr (Ne.symm (sn78 hw)))).other W12 (Or.inr (sn74 hw)))
  have f15 := (f6.other W12 (Or.inr (Ne.symm (sn71 hw))))
  have f16 := (v5.other W12 (Or.inr (sn77 hw)))
  refine ⟨(some (.ref r1)), T12, _, _, _, X12, (fun hh => by cases hh), (by rw [e12]; exact ⟨rfl, N12, k12, v12, f13, f14, f15, f16⟩), (by decide), (by decide), fun fs hr => pre0 _ ?_⟩
  show SA p e below s₁ m 0 #[vr r0, un] [] _
  refine XS.aloadN X0.here hx rfl (D d42_0) rfl rfl ?_
  refine st1 _ ?_
  refine XS.astoreN X1.here hx rfl (D d42_4) rfl rfl (l' := #[vr r0, vr r1]) rfl ?_
  refine XS.aloadN X1.here hx rfl (D d42_5) rfl rfl ?_
  refine st2 _ ?_
  refine st3 _ ?_
  refine XS.aloadN X3.here hx rfl (D d42_12) rfl rfl ?_
  refine st4 _ ?_
  refine XS.icmpYes X4.here hx rfl (pc0 := 16) (pc' := 27) rfl (D d42_16) rfl (teq rfl).1 (by decide) (by decide) ?_
  refine XS.aloadN X4.here hx rfl (D d42_27) rfl rfl ?_
  refine XS.ifnonnullYes X4.here hx rfl (pc0 := 28) (pc' := 39) rfl (D d42_28) rfl (by decide) (by decide) ?_
  refine XS.aloadN X4.here hx rfl (D d42_39) rfl rfl ?_
  refine XS.aloadN X4.here hx rfl (D d42_40) rfl rfl ?_
  refine st5 _ ?_
  refine XS.aloadN X5.here hx rfl (D d42_44) rfl rfl ?_
  refine XS.aloadN X5.here hx rfl (D d42_45) rfl rfl ?_
  refine st7 _ ?_
  refine XS.ifYes X7.here hx rfl (pc0 := 49) (pc' := 59) rfl (D d42_49) rfl ((if0 _ _).trans (teq (by decide : ((0 : Int32) = (0 : Int32)))).1) (by decide) (by decide) ?_
  refine XS.aloadN X7.here hx rfl (D d42_59) rfl rfl ?_
  refine st9 _ ?_
  refine st12 _ ?_
  refine XS.aloadN X12.here hx rfl (D d42_66) rfl rfl ?_
  show SA p e below T12 m 67 #[vr r0, vr r1] [(.ref r1)] _
  exact retOut X12 hx hrt rfl (Or.inr (Or.inr (Or.inr (Or.inr ⟨rfl, rfl, rfl⟩)))) (D d42_67) hr
theorem pd27 : parseMethodDescriptor "()Ljava/util/LinkedHashMap$Entry;" = some ⟨[], some (.object "java/util/LinkedHashMap$Entry")⟩ := by decide +kernel
abbrev y48 : MethodName := ⟨"java/util/LinkedHashMap$LinkedEntryIterator", "nextNode", "()Ljava/util/LinkedHashMap$Entry;"⟩
theorem d41_4 : decode B41 4 = .ok (.areturn, 1) := by decide +kernel
abbrev y49 : MethodName := ⟨"java/util/LinkedHashMap$LinkedEntryIterator", "next", "()Ljava/util/Map$Entry;"⟩
def Q49 (Z : State) (cv : Int32) (de ca : Addr) (r0 r1 r2 : Addr) (i3 : Int32) (h0 : Heap) (n0 : Nat) (v : Option Value) (h : Heap) (L : List Loc) : Prop := v = (some (.ref r1)) ∧ Fr n0 L ∧ Keep h0 h [r0] ∧ P33 Z h r0 .null ∧ P31 Z h r0 (.ref r2) ∧ P34 Z h r0 (.int i3) ∧ P32 Z h r0 (.int 0) ∧ P35 Z h r0 (.ref r1)
/-- LinkedHashMap$LinkedEntryIterator.next#0 -/
theorem t49 (hw : HW a0 Z) (SB0 : SB Z cv de ca) (r0 r1 r2 : Addr) (i3 : Int32) (O0 : OL Z n0 h0) (q0 : E_10 Z h0 r0) (q1 : P33 Z h0 r0 (.ref r1)) (q2 : P31 Z h0 r0 (.ref r2)) (q3 : P7 Z h0 r2 (.int i3)) (q4 : P34 Z h0 r0 (.int i3)) (q5 : P32 Z h0 r0 (.int 0)) (q6 : P35 Z h0 r0 .null) (q7 : P21 Z h0 r1 .null) (q8 : E_6 Z h0 r1) (ge0 : n0 ≤ r0) : CT l Z y49 B41 1 (some (.object "java/util/Map$Entry")) ⟨1, 0, 0, 13⟩ #[(.ref r0)] h0 (Q49 Z cv de ca r0 r1 r2 i3 h0 n0) := by
  refine ct_intro ?_
  intro p e s m below meth c s₁ E0 hx D hml hown hnm hrt X0 e0 hZ hE
  have Z0 := O0.le
  have K0 := Keep.refl h0 [r0]
  have hws : ∀ w ∈ ([r0] : List Addr), n0 ≤ w := (allS ge0 all0)
  have N0 := Fr.nil n0
  have pre0 := ctp #[vr r0] hE
  obtain ⟨v1, T1, L1, X1, Q1, st1⟩ := kU (x := y48) (y := y47) (owner := "java/util/LinkedHashMap$LinkedHashIterator") X0 hx hZ hown (t48 hw SB0 r0 r1 r2 i3 (O0.keep K0 hws) q1 q2 q3 q4 q0 q5 q6 q7 q8 ge0) q0 (w_ hw 320 rfl) (w_ hw 321 rfl) (w_ hw 322 rfl) (w_ hw 324 rfl) (w_ hw 323 rfl) (w_ hw 282 rfl) (w_ hw 325 rfl) e0 (g := (mkF m 1 #[vr r0] [(.ref r0)])) rfl hml rfl (argsL := []) (rest := []) (lenOf pd27 rfl) rfl rfl (W := 0) rfl (D d41_1)
  obtain ⟨h1, e1⟩ : ∃ z, T1.heap = z := ⟨_, rfl⟩
  rw [e1] at Q1
  obtain ⟨rfl, M1, K1, F1_0, F1_1, F1_2, F1_3, F1_4⟩ := Q1
  have N1 := N0.app M1
  have k1 := K0.trans K1 (allS (Or.inl (List.mem_of_getElem? (i := 0) rfl)) all0)
  refine ⟨(some (.ref r1)), T1, _, _, _, X1, (fun hh => by cases hh), (by rw [e1]; exact ⟨rfl, N1, k1, F1_0, F1_1, F1_2, F1_3, F1_4⟩), (by decide), (by decide), fun fs hr => pre0 _ ?_⟩
  show SA p e below s₁ m 0 #[vr r0] [] _
  refine XS.aloadN X0.here hx rfl (D d41_0) rfl rfl ?_
  refine st1 _ ?_
  show SA p e below T1 m 4 #[vr r0] [(.ref r1)] _
  exact retOut X1 hx hrt rfl (Or.inr (Or.inr (Or.inr (Or.inr ⟨rfl, rfl, rfl⟩)))) (D d41_4) hr
theorem pd28 : parseMethodDescriptor "()Ljava/util/Map$Entry;" = some ⟨[], some (.object "java/util/Map$Entry")⟩ := by decide +kernel
abbrev y50 : MethodName := ⟨"java/util/Iterator", "next", "()Ljava/lang/Object;"⟩
abbrev y51 : MethodName := ⟨"java/util/LinkedHashMap$LinkedEntryIterator", "next", "()Ljava/lang/Object;"⟩
theorem d40_4 : decode B40 4 = .ok (.areturn, 1) := by decide +kernel
def Q50 (Z : State) (cv : Int32) (de ca : Addr) (r0 r1 r2 : Addr) (i3 : Int32) (h0 : Heap) (n0 : Nat) (v : Option Value) (h : Heap) (L : List Loc) : Prop := v = (some (.ref r1)) ∧ Fr n0 L ∧ Keep h0 h [r0] ∧ P33 Z h r0 .null ∧ P31 Z h r0 (.ref r2) ∧ P34 Z h r0 (.int i3) ∧ P32 Z h r0 (.int 0) ∧ P35 Z h r0 (.ref r1)
/-- LinkedHashMap$LinkedEntryIterator.next#0 -/
theorem t50 (hw : HW a0 Z) (SB0 : SB Z cv de ca) (r0 r1 r2 : Addr) (i3 : Int32) (O0 : OL Z n0 h0) (q0 : E_10 Z h0 r0) (q1 : P33 Z h0 r0 (.ref r1)) (q2 : P31 Z h0 r0 (.ref r2)) (q3 : P7 Z h0 r2 (.int i3)) (q4 : P34 Z h0 r0 (.int i3)) (q5 : P32 Z h0 r0 (.int 0)) (q6 : P35 Z h0 r0 .null) (q7 : P21 Z h0 r1 .null) (q8 : E_6 Z h0 r1) (ge0 : n0 ≤ r0) : CT l Z y51 B40 1 (some (.object "java/lang/Object")) ⟨2, 0, 0, 25⟩ #[(.ref r0)] h0 (Q50 Z cv de ca r0 r1 r2 i3 h0 n0) := by
  refine ct_intro ?_
  intro p e s m below meth c s₁ E0 hx D hml hown hnm hrt X0 e0 hZ hE
  have Z0 := O0.le
  have K0 := Keep.refl h0 [r0]
  have hws : ∀ w ∈ ([r0] : List Addr), n0 ≤ w := (allS ge0 all0)
  have N0 := Fr.nil n0
  have pre0 := ctp #[vr r0] hE
  obtain ⟨v1, T1, L1, X1, Q1, st1⟩ := kV (y := y49) (z := y49) X0 hx hZ hown (t49 hw SB0 r0 r1 r2 i3 (O0.keep K0 hws) q0 q1 q2 q3 q4 q5 q6 q7 q8 ge0) q0 (nf_of (x := y50) (y' := y51) (args := #[]) (mvT hZ (w_ hw 310 rfl)) rfl) (w_ hw 315 rfl) (w_ hw 316 rfl) (w_ hw 318 rfl) (w_ hw 317 rfl) (w_ hw 273 rfl) (w_ hw 319 rfl) e0 (g := (mkF m 1 #[vr r0] [(.ref r0)])) rfl hml rfl (argsL := []) (rest := []) (lenOf pd28 rfl) rfl rfl (W := 0) rfl (D d40_1)
  obtain ⟨h1, e1⟩ : ∃ z, T1.heap = z := ⟨_, rfl⟩
  rw [e1] at Q1
  obtain ⟨rfl, M1, K1, F1_0, F1_1, F1_2, F1_3, F1_4⟩ := Q1
  have N1 := N0.app M1
  have k1 := K0.trans K1 (allS (Or.inl (List.mem_of_getElem? (i := 0) rfl)) all0)
  refine ⟨(some (.ref r1)), T1, _, _, _, X1, (fun hh => by cases hh), (by rw [e1]; exact ⟨rfl, N1, k1, F1_0, F1_1, F1_2, F1_3, F1_4⟩), (by decide), (by decide), fun fs hr => pre0 _ ?_⟩
  show SA p e below s₁ m 0 #[vr r0] [] _
  refine XS.aloadN X0.here hx rfl (D d40_0) rfl rfl ?_
  refine st1 _ ?_
  show SA p e below T1 m 4 #[vr r0] [(.ref r1)] _
  exact retOut X1 hx hrt rfl (Or.inr (Or.inr (Or.inr (Or.inr ⟨rfl, rfl, rfl⟩)))) (D d40_4) hr
theorem pd29 : parseMethodDescriptor "()Ljava/lang/Object;" = some ⟨[], some (.object "java/lang/Object")⟩ := by decide +kernel
theorem iw5 {a0 Z} (hw : HW a0 Z) : IFW a0 Z "java/util/LinkedHashMap$LinkedEntryIterator" y50 y51 B40 1 (some (.object "java/lang/Object")) := ⟨(w_ hw 308 rfl), (w_ hw 310 rfl), (w_ hw 311 rfl), (w_ hw 312 rfl), (w_ hw 313 rfl), (w_ hw 305 rfl), (w_ hw 273 rfl), (w_ hw 314 rfl)⟩
theorem d31_47 : decode B31 47 = .ok (.checkcast 38, 3) := by decide +kernel
theorem d31_50 : decode B31 50 = .ok (.astore 5, 2) := by decide +kernel
theorem d31_52 : decode B31 52 = .ok (.aload_n 0, 1) := by decide +kernel
theorem d31_53 : decode B31 53 = .ok (.getfield 10, 3) := by decide +kernel
theorem d31_56 : decode B31 56 = .ok (.aload 5, 2) := by decide +kernel
theorem d31_58 : decode B31 58 = .ok (.invokeinterface 40 1, 5) := by decide +kernel
abbrev B43 := jdk_70_method_2_code
theorem d43_0 : decode B43 0 = .ok (.aload_n 0, 1) := by decide +kernel
theorem d43_1 : decode B43 1 = .ok (.getfield 13, 3) := by decide +kernel
theorem d43_4 : decode B43 4 = .ok (.areturn, 1) := by decide +kernel
abbrev y52 : MethodName := ⟨"java/util/HashMap$Node", "getKey", "()Ljava/lang/Object;"⟩
/-- HashMap$Node.getKey#0 -/
theorem t51 (hw : HW a0 Z) (SB0 : SB Z cv de ca) (r0 r1 : Addr) (O0 : OL Z n0 h0) (q0 : P18 Z h0 r0 (.ref r1))  : CT l Z y52 B43 1 (some (.object "java/lang/Object")) ⟨0, 0, 0, 0⟩ #[(.ref r0)] h0 (QP0 (some (.ref r1)) h0 n0) := by
  refine ct_intro ?_
  intro p e s m below meth c s₁ E0 hx D hml hown hnm hrt X0 e0 hZ hE
  have N0 := Fr.nil n0
  have pre0 := ctp #[vr r0] hE
  obtain ⟨T1, X1, e1, st1⟩ := gF X0 hx hZ hown (w_ hw 183 rfl) Via.refl e0 q0 (g := (mkF m 1 #[vr r0] [(.ref r0)])) rfl rfl (D d43_1)
  refine ⟨(some (.ref r1)), T1, _, _, _, X1, (fun hh => by cases hh), (by rw [e1]; exact ⟨rfl, N0, rfl⟩), (by decide), (by decide), fun fs hr => pre0 _ ?_⟩
  show SA p e below s₁ m 0 #[vr r0] [] _
  refine XS.aloadN X0.here hx rfl (D d43_0) rfl rfl ?_
  refine st1 _ ?_
  show SA p e below T1 m 4 #[vr r0] [(.ref r1)] _
  exact retOut X1 hx hrt rfl (Or.inr (Or.inr (Or.inr (Or.inr ⟨rfl, rfl, rfl⟩)))) (D d43_4) hr
abbrev y53 : MethodName := ⟨"java/util/Map$Entry", "getKey", "()Ljava/lang/Object;"⟩
theorem iw6 {a0 Z} (hw : HW a0 Z) : IFW a0 Z "java/util/LinkedHashMap$Entry" y53 y52 B43 1 (some (.object "java/lang/Object")) := ⟨(w_ hw 331 rfl), (w_ hw 333 rfl), (w_ hw 334 rfl), (w_ hw 335 rfl), (w_ hw 336 rfl), (w_ hw 329 rfl), (w_ hw 178 rfl), (w_ hw 337 rfl)⟩
theorem d31_63 : decode B31 63 = .ok (.checkcast 43, 3) := by decide +kernel
theorem d31_66 : decode B31 66 = .ok (.iload_n 3, 1) := by decide +kernel
theorem d31_67 : decode B31 67 = .ok (.invokestatic 45, 3) := by decide +kernel
abbrev B44 := jdk_33_method_22_code
theorem d44_0 : decode B44 0 = .ok (.iload_n 0, 1) := by decide +kernel
theorem d44_1 : decode B44 1 = .ok (.bipush (-128), 2) := by decide +kernel
theorem d44_3 : decode B44 3 = .ok (.if_icmp .lt 20, 3) := by decide +kernel
theorem d44_6 : decode B44 6 = .ok (.iload_n 0, 1) := by decide +kernel
theorem d44_7 : decode B44 7 = .ok (.getstatic 191, 3) := by decide +kernel
theorem d44_10 : decode B44 10 = .ok (.if_icmp .gt 13, 3) := by decide +kernel
theorem d44_13 : decode B44 13 = .ok (.getstatic 195, 3) := by decide +kernel
theorem d44_16 : decode B44 16 = .ok (.iload_n 0, 1) := by decide +kernel
theorem d44_17 : decode B44 17 = .ok (.sipush 128, 3) := by decide +kernel
theorem d44_20 : decode B44 20 = .ok (.iadd, 1) := by decide +kernel
theorem d44_21 : decode B44 21 = .ok (.aaload, 1) := by decide +kernel
theorem d44_22 : decode B44 22 = .ok (.areturn, 1) := by decide +kernel
abbrev E_11 (Z : State) (h : Heap) (a : Addr) : Prop := Exa Z h a "java/lang/Integer"
abbrev P36 (Z : State) (h : Heap) (a : Addr) (v : Value) : Prop := Fld Z h a "java/lang/Integer" "value" "I" v
abbrev y54 : MethodName := ⟨"java/lang/Integer", "valueOf", "(I)Ljava/lang/Integer;"⟩
def Q52 (Z : State) (cv : Int32) (de ca : Addr) (i0 : Int32) (h0 : Heap) (n0 : Nat) (v : Option Value) (h : Heap) (L : List Loc) : Prop := ∃ (wo : Addr), v = (some (.ref wo)) ∧ Fr n0 L ∧ Keep h0 h [] ∧ E_11 Z h wo ∧ P36 Z h wo (.int i0)
/-- valueOf -/
theorem t52 (hw : HW a0 Z) (SB0 : SB Z cv de ca) (i0 : Int32) (O0 : OL Z n0 h0) (q0 : BD i0)  : CT l Z y54 B44 1 (some (.object "java/lang/Integer")) ⟨0, 0, 0, 0⟩ #[(.int i0)] h0 (Q52 Z cv de ca i0 h0 n0) := by
  refine ct_intro ?_
  intro p e s m below meth c s₁ E0 hx D hml hown hnm hrt X0 e0 hZ hE
  have Z0 := O0.le
  have K0 := Keep.refl h0 []
  have hws : ∀ w ∈ ([] : List Addr), n0 ≤ w := all0
  have N0 := Fr.nil n0
  have pre0 := ctp #[vi i0] hE
  obtain ⟨T1, X1, e1, st1⟩ := getS2 X0 hx hZ hown (host := "") (Or.inl (w_ hw 343 rfl)) Via.refl e0 (SB0.2.2.2.2.1.ext (O0.keep K0 hws).2) (g := (mkF m 7 #[vi i0] [(.int i0)])) rfl (D d44_7)
  obtain ⟨T2, X2, e2, st2⟩ := getS2 X1 hx hZ hown (host := "") (Or.inl (w_ hw 345 rfl)) Via.refl e1 (SB0.2.2.2.2.2.1.ext (O0.keep K0 hws).2) (g := (mkF m 13 #[vi i0] [])) rfl (D d44_13)
  obtain ⟨cl, Acl, Scl, Hcl⟩ := SB0.2.2.2.2.2.2
  obtain ⟨hin, wo, hat, wE, wF⟩ := bd_at q0 Scl Hcl
  have wE1 := wE.ext (O0.keep K0 hws).2
  have wF1 := wF.ext (O0.keep K0 hws).2
  refine ⟨(some (.ref wo)), T2, _, _, _, X2, (fun hh => by cases hh), (by rw [e2]; exact ⟨wo, rfl, N0, K0, wE1, wF1⟩), (by decide), (by decide), fun fs hr => pre0 _ ?_⟩
  show SA p e below s₁ m 0 #[vi i0] [] _
  refine XS.iloadN X0.here hx rfl (D d44_0) rfl ?_
  refine XS.bipush X0.here hx rfl (D d44_1) ?_
  refine XS.icmpNo X0.here hx rfl (D d44_3) rfl (flt (bd_lo q0)).1 ?_
  refine XS.iloadN X0.here hx rfl (D d44_6) rfl ?_
  refine st1 _ ?_
  refine XS.icmpNo X1.here hx rfl (D d44_10) rfl (flt (bd_hi q0)).2.2.1 ?_
  refine st2 _ ?_
  refine XS.iloadN X2.here hx rfl (D d44_16) rfl ?_
  refine XS.sipush X2.here hx rfl (D d44_17) ?_
  refine XS.iadd X2.here hx rfl (D d44_20) rfl ?_
  refine X2.aaload hx (j := (i0 + (128 : Int32))) (v := .ref wo) (by rw [e2]; exact (Acl.ext (O0.keep K0 hws).2).1) (State.isArrayOf_alike hZ.alike Acl.2.1) rfl Acl.2.2 hin hat (g := (mkF m 21 #[vi i0] [(.int (i0 + (128 : Int32))), (.ref ca)])) rfl rfl (D d44_21) _ ?_
  show SA p e below T2 m 22 #[vi i0] [(.ref wo)] _
  exact retOut X2 hx hrt rfl (Or.inr (Or.inr (Or.inr (Or.inr ⟨rfl, rfl, rfl⟩)))) (D d44_22) hr
theorem pd30 : parseMethodDescriptor "(I)Ljava/lang/Integer;" = some ⟨[.int], some (.object "java/lang/Integer")⟩ := by decide +kernel
theorem d31_70 : decode B31 70 = .ok (.invokeinterface 51 3, 5) := by decide +kernel
/-- String.hashCode#1 -/
theorem t53 (hw : HW a0 Z) (SB0 : SB Z cv de ca) (r0 : Addr) (O0 : OL Z n0 h0) (q0 : P12 Z h0 r0 (.int 97))  : CT l Z y19 B20 2 (some .int) ⟨0, 0, 0, 0⟩ #[(.ref r0)] h0 (QP0 (some (.int 97)) h0 n0) := by
  refine ct_intro ?_
  intro p e s m below meth c s₁ E0 hx D hml hown hnm hrt X0 e0 hZ hE
  have N0 := Fr.nil n0
  have pre0 := ctp #[vr r0, un] hE
  obtain ⟨T1, X1, e1, st1⟩ := gF X0 hx hZ hown (w_ hw 133 rfl) Via.refl e0 q0 (g := (mkF m 1 #[vr r0, un] [(.ref r0)])) rfl rfl (D d20_1)
  refine ⟨(some (.int 97)), T1, _, _, _, X1, (fun hh => by cases hh), (by rw [e1]; exact ⟨rfl, N0, rfl⟩), (by decide), (by decide), fun fs hr => pre0 _ ?_⟩
  show SA p e below s₁ m 0 #[vr r0, un] [] _
  refine XS.aloadN X0.here hx rfl (D d20_0) rfl rfl ?_
  refine st1 _ ?_
  refine XS.istoreN X1.here hx rfl (D d20_4) rfl (l' := #[vr r0, vi 97]) rfl ?_
  refine XS.iloadN X1.here hx rfl (D d20_5) rfl ?_
  refine XS.ifYes X1.here hx rfl (pc0 := 6) (pc' := 58) rfl (D d20_6) rfl ((if0 _ _).trans (feq (by decide : ¬ ((97 : Int32) = (0 : Int32)))).2) (by decide) (by decide) ?_
  refine XS.iloadN X1.here hx rfl (D d20_58) rfl ?_
  show SA p e below T1 m 59 #[vr r0, vi 97] [(.int 97)] _
  exact retOut X1 hx hrt rfl (Or.inl ⟨rfl, Or.inl rfl, _, rfl⟩) (D d20_59) hr
/-- HashMap.hash#1 -/
theorem t54 (hw : HW a0 Z) (SB0 : SB Z cv de ca) (r0 : Addr) (O0 : OL Z n0 h0) (q0 : E_2 Z h0 r0) (q1 : P12 Z h0 r0 (.int 97))  : CT l Z y23 B19 2 (some .int) ⟨1, 0, 0, 13⟩ #[(.ref r0)] h0 (QP0 (some (.int 97)) h0 n0) := by
  refine ct_intro ?_
  intro p e s m below meth c s₁ E0 hx D hml hown hnm hrt X0 e0 hZ hE
  have Z0 := O0.le
  have K0 := Keep.refl h0 []
  have hws : ∀ w ∈ ([] : List Addr), n0 ≤ w := all0
  have N0 := Fr.nil n0
  have pre0 := ctp #[vr r0, un] hE
  obtain ⟨v1, T1, L1, X1, Q1, st1⟩ := kV (y := y18) (z := y19) X0 hx hZ hown (t53 hw SB0 r0 (O0.keep K0 hws) q1) q0 (nf_of (x := y21) (y' := y22) (args := #[]) (mvT hZ (w_ hw 424 rfl)) rfl) (w_ hw 127 rfl) (w_ hw 128 rfl) (w_ hw 130 rfl) (w_ hw 131 rfl) (w_ hw 31 rfl) (w_ hw 132 rfl) e0 (g := (mkF m 9 #[vr r0, un] [(.ref r0)])) rfl hml rfl (argsL := []) (rest := []) (lenOf pd13 rfl) rfl rfl (W := 0) rfl (D d19_9)
  obtain ⟨rfl, M1, e1⟩ := Q1
  have N1 := N0.app M1
  refine ⟨(some (.int 97)), T1, _, _, _, X1, (fun hh => by cases hh), (by rw [e1]; exact ⟨rfl, N1, rfl⟩), (by decide), (by decide), fun fs hr => pre0 _ ?_⟩
  show SA p e below s₁ m 0 #[vr r0, un] [] _
  refine XS.aloadN X0.here hx rfl (D d19_0) rfl rfl ?_
  refine XS.ifnonnullYes X0.here hx rfl (pc0 := 1) (pc' := 8) rfl (D d19_1) rfl (by decide) (by decide) ?_
  refine XS.aloadN X0.here hx rfl (D d19_8) rfl rfl ?_
  refine st1 _ ?_
  refine XS.dup X1.here hx rfl (D d19_12) rfl rfl ?_
  refine XS.istoreN X1.here hx rfl (D d19_13) rfl (l' := #[vr r0, vi 97]) rfl ?_
  refine XS.iloadN X1.here hx rfl (D d19_14) rfl ?_
  refine XS.bipush X1.here hx rfl (D d19_15) ?_
  refine XS.iushr X1.here hx rfl (D d19_17) rfl ?_
  refine XS.ixor X1.here hx rfl (D d19_18) rfl ?_
  show SA p e below T1 m 19 #[vr r0, vi 97] [(.int 97)] _
  exact retOut X1 hx hrt rfl (Or.inl ⟨rfl, Or.inl rfl, _, rfl⟩) (D d19_19) hr
def Q55 (Z : State) (cv : Int32) (de ca : Addr) (r0 : Addr) (h0 : Heap) (n0 : Nat) (v : Option Value) (h : Heap) (L : List Loc) : Prop := ∃ (b4 : Addr) (c4 : ClassId), v = (some (.ref b4)) ∧ Fr n0 L ∧ Keep h0 h [r0] ∧ h0.size ≤ b4 ∧ P3 Z h r0 (.ref b4) ∧ P4 Z h r0 (.int 12) ∧ P7 Z h r0 (.int 0) ∧ P8 Z h r0 (.int 0) ∧ E_5 Z h b4 ∧ Arv Z h b4 c4 (.object "java/util/HashMap$Node") (16 : Int32) [.null, .null, .null, .null, .null, .null, .null, .null, .null, .null, .null, .null, .null, .null, .null, .null] .null ∧ Ovr Z c4 "java/util/HashMap$Node"
/-- HashMap.resize#1 -/
theorem t55 (hw : HW a0 Z) (SB0 : SB Z cv de ca) (r0 : Addr) (O0 : OL Z n0 h0) (q0 : P3 Z h0 r0 .null) (q1 : P4 Z h0 r0 (.int 0)) (q2 : E_7 Z h0 r0) (q3 : P7 Z h0 r0 (.int 0)) (q4 : P8 Z h0 r0 (.int 0)) (ge0 : n0 ≤ r0) : CT l Z y24 B24 14 (some (.array (.object "java/util/HashMap$Node"))) ⟨0, 1, 16, 0⟩ #[(.ref r0)] h0 (Q55 Z cv de ca r0 h0 n0) := by
  refine ct_intro ?_
  intro p e s m below meth c s₁ E0 hx D hml hown hnm hrt X0 e0 hZ hE
  have Z0 := O0.le
  have K0 := Keep.refl h0 [r0]
  have hws : ∀ w ∈ ([r0] : List Addr), n0 ≤ w := (allS ge0 all0)
  have N0 := Fr.nil n0
  have pre0 := ctp #[vr r0, un, un, un, un, un, un, un, un, un, un, un, un, un] hE
  obtain ⟨T1, X1, e1, st1⟩ := gF X0 hx hZ hown (w_ hw 150 rfl) Via.refl e0 q0 (g := (mkF m 1 #[vr r0, un, un, un, un, un, un, un, un, un, un, un, un, un] [(.ref r0)])) rfl rfl (D d24_1)
  obtain ⟨T2, X2, e2, st2⟩ := gF X1 hx hZ hown (w_ hw 157 rfl) Via.refl e1 q1 (g := (mkF m 17 #[vr r0, .val .null, vi 0, un, un, un, un, un, un, un, un, un, un, un] [(.ref r0)])) rfl rfl (D d24_17)
  obtain ⟨T3, h3, X3, e3, W3, st3⟩ := putF X2 hx hZ hown (host := "") (Or.inl (w_ hw 157 rfl)) Via.refl e2 q1 q2 (Or.inl (w_ hw 353 rfl)) (w_ hw 221 rfl) (ty := .int) (by decide) rfl rfl (g := (mkF m 128 #[vr r0, .val .null, vi 0, vi 0, vi 16, vi 12, un, un, un, un, un, un, un, un] [(.int 12), (.ref r0)])) rfl rfl (D d24_128)
  have N3 := Fr.snoc X3 N0 ge0
  have k3 := K0.wr W3 (Or.inl (List.mem_of_getElem? (i := 0) rfl))
  have v3 := q1.same W3
  obtain ⟨T4, h4, c4, X4, e4, E4, A4, B4, O4, st4⟩ := newRE X3 hx hZ hown (w_ hw 159 rfl) (w_ hw 160 rfl) e3 (g := (mkF m 133 #[vr r0, .val .null, vi 0, vi 0, vi 16, vi 12, un, un, un, un, un, un, un, un] [(.int 16)])) rfl (D d24_133) rfl (by decide) (cap := 16) (by decide) (by decide) (by decide) (by decide) (ad := "[Ljava/util/HashMap$Node;") (by decide)
  obtain ⟨b4, g4⟩ : ∃ z, z = h3.size := ⟨_, rfl⟩
  rw [← g4] at A4 B4 st4
  have z4 : h0.size ≤ b4 := Nat.le_trans k3.1 (Nat.le_of_eq g4.symm)
  have k4 := k3.ext E4
  have v4 : Arv Z h4 b4 c4 (.object "java/util/HashMap$Node") (16 : Int32) [.null, .null, .null, .null, .null, .null, .null, .null, .null, .null, .null, .null, .null, .null, .null, .null] .null := (Arv.new A4 (by decide)).pad (pad_rep [] .null 16)
  have f5 := ((q0.other W3 (Or.inr (sn33 hw))).ext E4)
  have f6 := ((q2.wr W3).ext E4)
  obtain ⟨T7, h7, X7, e7, W7, st7⟩ := putF X4 hx hZ hown (host := "") (Or.inl (w_ hw 150 rfl)) Via.refl e4 f5 f6 (Or.inl (w_ hw 351 rfl)) (w_ hw 221 rfl) (ty := (.array (.object "java/util/HashMap$Node"))) (by decide) rfl rfl (g := (mkF m 141 #[vr r0, .val .null, vi 0, vi 0, vi 16, vi 12, vr b4, un, un, un, un, un, un, un] [(.ref b4), (.ref r0)])) rfl rfl (D d24_141)
  have N7 := Fr.snoc X7 N3 ge0
  have k7 := k4.wr W7 (Or.inl (List.mem_of_getElem? (i := 0) rfl))
  have v7 := f5.same W7
  have f8 := ((v3.ext E4).other W7 (Or.inr (Ne.symm (sn33 hw))))
  have f9 := (((q3.other W3 (Or.inr (sn38 hw))).ext E4).other W7 (Or.inr (sn39 hw)))
  have f10 := (((q4.other W3 (Or.inr (sn40 hw))).ext E4).other W7 (Or.inr (sn41 hw)))
  have f11 := (B4.wr W7)
  have f13 := (f6.wr W7)
  have ne12 : b4 ≠ r0 := Exa.ne f11 f13 (by decide)
  have f14 := (v4.other W7 ne12)
  refine ⟨(some (.ref b4)), T7, _, _, _, X7, (fun hh => by cases hh), (by rw [e7]; exact ⟨b4, c4, rfl, N7, k7, z4, v7, f8, f9, f10, f11, f14, O4⟩), (by decide), (by decide), fun fs hr => pre0 _ ?_⟩
  show SA p e below s₁ m 0 #[vr r0, un, un, un, un, un, un, un, un, un, un, un, un, un] [] _
  refine XS.aloadN X0.here hx rfl (D d24_0) rfl rfl ?_
  refine st1 _ ?_
  refine XS.astoreN X1.here hx rfl (D d24_4) rfl rfl (l' := #[vr r0, .val .null, un, un, un, un, un, un, un, un, un, un, un, un]) rfl ?_
  refine XS.aloadN X1.here hx rfl (D d24_5) rfl rfl ?_
  refine XS.ifnonnullNo X1.here hx rfl (D d24_6) rfl ?_
  refine XS.iconst X1.here hx rfl (D d24_9) ?_
  refine XS.goto X1.here hx rfl (pc0 := 10) (pc' := 15) rfl (D d24_10) (by decide) (by decide) ?_
  refine XS.istoreN X1.here hx rfl (D d24_15) rfl (l' := #[vr r0, .val .null, vi 0, un, un, un, un, un, un, un, un, un, un, un]) rfl ?_
  refine XS.aloadN X1.here hx rfl (D d24_16) rfl rfl ?_
  refine st2 _ ?_
  refine XS.istoreN X2.here hx rfl (D d24_20) rfl (l' := #[vr r0, .val .null, vi 0, vi 0, un, un, un, un, un, un, un, un, un, un]) rfl ?_
  refine XS.iconst X2.here hx rfl (D d24_21) ?_
  refine XS.istore X2.here hx rfl (D d24_22) rfl (l' := #[vr r0, .val .null, vi 0, vi 0, un, vi 0, un, un, un, un, un, un, un, un]) rfl ?_
  refine XS.iloadN X2.here hx rfl (D d24_24) rfl ?_
  refine XS.ifYes X2.here hx rfl (pc0 := 25) (pc' := 67) rfl (D d24_25) rfl ((if0 _ _).trans (flt (by decide : ¬ ((0 : Int32) < (0 : Int32)))).2.2.2) (by decide) (by decide) ?_
  refine XS.iloadN X2.here hx rfl (D d24_67) rfl ?_
  refine XS.ifYes X2.here hx rfl (pc0 := 68) (pc' := 77) rfl (D d24_68) rfl ((if0 _ _).trans (flt (by decide : ¬ ((0 : Int32) < (0 : Int32)))).2.2.2) (by decide) (by decide) ?_
  refine XS.bipush X2.here hx rfl (D d24_77) ?_
  refine XS.istore X2.here hx rfl (D d24_79) rfl (l' := #[vr r0, .val .null, vi 0, vi 0, vi 16, vi 0, un, un, un, un, un, un, un, un]) rfl ?_
  refine XS.bipush X2.here hx rfl (D d24_81) ?_
  refine XS.istore X2.here hx rfl (D d24_83) rfl (l' := #[vr r0, .val .null, vi 0, vi 0, vi 16, vi 12, un, un, un, un, un, un, un, un]) rfl ?_
  refine XS.iload X2.here hx rfl (D d24_85) rfl ?_
  refine XS.ifYes X2.here hx rfl (pc0 := 87) (pc' := 125) rfl (D d24_87) rfl ((if0 _ _).trans (feq (by decide : ¬ ((12 : Int32) = (0 : Int32)))).2) (by decide) (by decide) ?_
  refine XS.aloadN X2.here hx rfl (D d24_125) rfl rfl ?_
  refine XS.iload X2.here hx rfl (D d24_126) rfl ?_
  refine st3 _ ?_
  refine XS.iload X3.here hx rfl (D d24_131) rfl ?_
  refine st4 _ ?_
  refine XS.astore X4.here hx rfl (D d24_136) rfl rfl (l' := #[vr r0, .val .null, vi 0, vi 0, vi 16, vi 12, vr b4, un, un, un, un, un, un, un]) rfl ?_
  refine XS.aloadN X4.here hx rfl (D d24_138) rfl rfl ?_
  refine XS.aload X4.here hx rfl (D d24_139) rfl rfl ?_
  refine st7 _ ?_
  refine XS.aloadN X7.here hx rfl (D d24_144) rfl rfl ?_
  refine XS.ifnullYes X7.here hx rfl (pc0 := 145) (pc' := 353) rfl (D d24_145) rfl (by decide) (by decide) ?_
  refine XS.aload X7.here hx rfl (D d24_353) rfl rfl ?_
  show SA p e below T7 m 355 #[vr r0, .val .null, vi 0, vi 0, vi 16, vi 12, vr b4, un, un, un, un, un, un, un] [(.ref b4)] _
  exact retOut X7 hx hrt rfl (Or.inr (Or.inr (Or.inr (Or.inr ⟨rfl, rfl, rfl⟩)))) (D d24_355) hr
abbrev B45 := jdk_69_method_46_code
theorem d45_0 : decode B45 0 = .ok (.new 163, 3) := by decide +kernel
theorem d45_3 : decode B45 3 = .ok (.dup, 1) := by decide +kernel
theorem d45_4 : decode B45 4 = .ok (.iload_n 1, 1) := by decide +kernel
theorem d45_5 : decode B45 5 = .ok (.aload_n 2, 1) := by decide +kernel
theorem d45_6 : decode B45 6 = .ok (.aload_n 3, 1) := by decide +kernel
theorem d45_7 : decode B45 7 = .ok (.aload 4, 2) := by decide +kernel
theorem d45_9 : decode B45 9 = .ok (.invokespecial 375, 3) := by decide +kernel
abbrev E_12 (Z : State) (h : Heap) (a : Addr) : Prop := Exa Z h a "java/util/HashMap$Node"
def Q56 (Z : State) (cv : Int32) (de ca : Addr) (r0 : Addr) (i1 : Int32) (r2 r3 : Addr) (h0 : Heap) (n0 : Nat) (v : Option Value) (h : Heap) (L : List Loc) : Prop := v = none ∧ Fr n0 L ∧ Keep h0 h [r0] ∧ P17 Z h r0 (.int i1) ∧ P18 Z h r0 (.ref r2) ∧ P19 Z h r0 (.ref r3)
/-- HashMap$Node.init#1 -/
theorem t56 (hw : HW a0 Z) (SB0 : SB Z cv de ca) (r0 : Addr) (i1 : Int32) (r2 r3 : Addr) (O0 : OL Z n0 h0) (q0 : E_12 Z h0 r0) (q1 : P17 Z h0 r0 (.int 0)) (q2 : P18 Z h0 r0 .null) (q3 : P19 Z h0 r0 .null) (q4 : P20 Z h0 r0 .null) (ge0 : n0 ≤ r0) : CT l Z y27 B27 5 none ⟨1, 0, 0, 12⟩ #[(.ref r0), (.int i1), (.ref r2), (.ref r3), .null] h0 (Q56 Z cv de ca r0 i1 r2 r3 h0 n0) := by
  refine ct_intro ?_
  intro p e s m below meth c s₁ E0 hx D hml hown hnm hrt X0 e0 hZ hE
  have Z0 := O0.le
  have K0 := Keep.refl h0 [r0]
  have hws : ∀ w ∈ ([r0] : List Addr), n0 ≤ w := (allS ge0 all0)
  have N0 := Fr.nil n0
  have pre0 := ctp #[vr r0, vi i1, vr r2, vr r3, .val .null] hE
  obtain ⟨T1, X1, e1, st1⟩ := initO X0 hx hZ hown (w_ hw 180 rfl) (w_ hw 20 rfl) (w_ hw 21 rfl) e0 (g := (mkF m 1 #[vr r0, vi i1, vr r2, vr r3, .val .null] [(.ref r0)])) rfl (by rw [hml]; rfl) rfl (D d27_1) (by decide) (W := 0) (by show 2 * 0 + _ ≤ _; exact Nat.le_of_eq rfl) (by decide)
  obtain ⟨T2, h2, X2, e2, W2, st2⟩ := putF X1 hx hZ hown (host := "") (Or.inl (w_ hw 181 rfl)) Via.refl e1 q1 q0 (Or.inr ⟨(w_ hw 359 rfl), rfl, hnm⟩) (w_ hw 356 rfl) (ty := .int) (by decide) rfl rfl (g := (mkF m 6 #[vr r0, vi i1, vr r2, vr r3, .val .null] [(.int i1), (.ref r0)])) rfl rfl (D d27_6)
  have N2 := Fr.snoc X2 N0 ge0
  have k2 := K0.wr W2 (Or.inl (List.mem_of_getElem? (i := 0) rfl))
  have v2 := q1.same W2
  have f3 := (q2.other W2 (Or.inr (sn44 hw)))
  have f4 := (q0.wr W2)
  obtain ⟨T5, h5, X5, e5, W5, st5⟩ := putF X2 hx hZ hown (host := "") (Or.inl (w_ hw 183 rfl)) Via.refl e2 f3 f4 (Or.inr ⟨(w_ hw 360 rfl), rfl, hnm⟩) (w_ hw 356 rfl) (ty := (.object "java/lang/Object")) (by decide) rfl rfl (g := (mkF m 11 #[vr r0, vi i1, vr r2, vr r3, .val .null] [(.ref r2), (.ref r0)])) rfl rfl (D d27_11)
  have N5 := Fr.snoc X5 N2 ge0
  have k5 := k2.wr W5 (Or.inl (List.mem_of_getElem? (i := 0) rfl))
  have v5 := f3.same W5
  have f6 := ((q3.other W2 (Or.inr (sn45 hw))).other W5 (Or.inr (sn46 hw)))
  have f7 := (f4.wr W5)
  obtain ⟨T8, h8, X8, e8, W8, st8⟩ := putF X5 hx hZ hown (host := "") (Or.inl (w_ hw 185 rfl)) Via.refl e5 f6 f7 (Or.inl (w_ hw 361 rfl)) (w_ hw 356 rfl) (ty := (.object "java/lang/Object")) (by decide) rfl rfl (g := (mkF m 16 #[vr r0, vi i1, vr r2, vr r3, .val .null] [(.ref r3), (.ref r0)])) rfl rfl (D d27_16)
  have N8 := Fr.snoc X8 N5 ge0
  have k8 := k5.wr W8 (Or.inl (List.mem_of_getElem? (i := 0) rfl))
  have v8 := f6.same W8
  have f9 := (((q4.other W2 (Or.inr (sn47 hw))).other W5 (Or.inr (sn48 hw))).other W8 (Or.inr (sn49 hw)))
  have f10 := (f7.wr W8)
  obtain ⟨T11, h11, X11, e11, W11, st11⟩ := putF X8 hx hZ hown (host := "") (Or.inl (w_ hw 187 rfl)) Via.refl e8 f9 f10 (Or.inl (w_ hw 362 rfl)) (w_ hw 356 rfl) (ty := (.object "java/util/HashMap$Node")) (by decide) rfl rfl (g := (mkF m 22 #[vr r0, vi i1, vr r2, vr r3, .val .null] [.null, (.ref r0)])) rfl rfl (D d27_22)
  have N11 := Fr.snoc X11 N8 ge0
  have k11 := k8.wr W11 (Or.inl (List.mem_of_getElem? (i := 0) rfl))
  have v11 := f9.same W11
  have f12 := (((v2.other W5 (Or.inr (Ne.symm (sn44 hw)))).other W8 (Or.inr (Ne.symm (sn45 hw)))).other W11 (Or.inr (Ne.symm (sn47 hw))))
  have f13 := ((v5.other W8 (Or.inr (Ne.symm (sn46 hw)))).other W11 (Or.inr (Ne.symm (sn48 hw))))
  have f14 := (v8.other W11 (Or.inr (Ne.symm (sn49 hw))))
  refine ⟨none, T11, _, _, _, X11, fun _ => rfl, (by rw [e11]; exact ⟨rfl, N11, k11, f12, f13, f14⟩), (by decide), (by decide), fun fs hr => pre0 _ ?_⟩
  show SA p e below s₁ m 0 #[vr r0, vi i1, vr r2, vr r3, .val .null] [] _
  refine XS.aloadN X0.here hx rfl (D d27_0) rfl rfl ?_
  refine st1 _ ?_
  refine XS.aloadN X1.here hx rfl (D d27_4) rfl rfl ?_
  refine XS.iloadN X1.here hx rfl (D d27_5) rfl ?_
  refine st2 _ ?_
  refine XS.aloadN X2.here hx rfl (D d27_9) rfl rfl ?_
  refine XS.aloadN X2.here hx rfl (D d27_10) rfl rfl ?_
  refine st5 _ ?_
  refine XS.aloadN X5.here hx rfl (D d27_14) rfl rfl ?_
  refine XS.aloadN X5.here hx rfl (D d27_15) rfl rfl ?_
  refine st8 _ ?_
  refine XS.aloadN X8.here hx rfl (D d27_19) rfl rfl ?_
  refine XS.aload X8.here hx rfl (D d27_20) rfl rfl ?_
  refine st11 _ ?_
  show SA p e below T11 m 25 #[vr r0, vi i1, vr r2, vr r3, .val .null] [] _
  exact X11.returnOut hx hrt (D d27_25) hr
theorem d45_12 : decode B45 12 = .ok (.areturn, 1) := by decide +kernel
def Q57 (Z : State) (cv : Int32) (de ca : Addr) (r0 : Addr) (i1 : Int32) (r2 r3 : Addr) (h0 : Heap) (n0 : Nat) (v : Option Value) (h : Heap) (L : List Loc) : Prop := ∃ (b1 : Addr), v = (some (.ref b1)) ∧ Fr n0 L ∧ Keep h0 h [] ∧ h0.size ≤ b1 ∧ E_12 Z h b1 ∧ P17 Z h b1 (.int i1) ∧ P18 Z h b1 (.ref r2) ∧ P19 Z h b1 (.ref r3)
/-- HashMap.newNode#0 -/
theorem t57 (hw : HW a0 Z) (SB0 : SB Z cv de ca) (r0 : Addr) (i1 : Int32) (r2 r3 : Addr) (O0 : OL Z n0 h0)   : CT l Z y30 B45 5 (some (.object "java/util/HashMap$Node")) ⟨2, 1, 4, 29⟩ #[(.ref r0), (.int i1), (.ref r2), (.ref r3), .null] h0 (Q57 Z cv de ca r0 i1 r2 r3 h0 n0) := by
  refine ct_intro ?_
  intro p e s m below meth c s₁ E0 hx D hml hown hnm hrt X0 e0 hZ hE
  have Z0 := O0.le
  have K0 := Keep.refl h0 []
  have hws : ∀ w ∈ ([] : List Addr), n0 ≤ w := all0
  have N0 := Fr.nil n0
  have pre0 := ctp #[vr r0, vi i1, vr r2, vr r3, .val .null] hE
  obtain ⟨T1, h1, X1, e1, E1, A1, D1, -, st1⟩ := newO X0 hx hZ hown (w_ hw 159 rfl) (w_ hw 356 rfl) (w_ hw 178 rfl) e0 (g := (mkF m 0 #[vr r0, vi i1, vr r2, vr r3, .val .null] [])) rfl (D d45_0) (by decide) (by decide)
  obtain ⟨b1, g1⟩ : ∃ z, z = h0.size := ⟨_, rfl⟩
  rw [← g1] at A1 D1 st1
  have z1 : h0.size ≤ b1 := Nat.le_trans K0.1 (Nat.le_of_eq g1.symm)
  have k1 := K0.ext E1
  have F1_359 : P17 Z h1 b1 (.int 0) := D1 (Or.inr (w_ hw 359 rfl)) (ty := .int) (by decide)
  have F1_360 : P18 Z h1 b1 .null := D1 (Or.inr (w_ hw 360 rfl)) (ty := (.object "java/lang/Object")) (by decide)
  have F1_361 : P19 Z h1 b1 .null := D1 (Or.inl (w_ hw 361 rfl)) (ty := (.object "java/lang/Object")) (by decide)
  have F1_362 : P20 Z h1 b1 .null := D1 (Or.inl (w_ hw 362 rfl)) (ty := (.object "java/util/HashMap$Node")) (by decide)
  obtain ⟨v2, T2, L2, X2, Q2, st2⟩ := kI X1 hx hZ hown (t56 hw SB0 b1 i1 r2 r3 (O0.keep k1 hws) A1 F1_359 F1_360 F1_361 F1_362 (Nat.le_trans Z0 z1)) rfl (w_ hw 357 rfl) (w_ hw 175 rfl) (w_ hw 178 rfl) (w_ hw 179 rfl) e1 (g := (mkF m 9 #[vr r0, vi i1, vr r2, vr r3, .val .null] [.null, (.ref r3), (.ref r2), (.int i1), (.ref b1), (.ref b1)])) rfl hml rfl (argsL := [(.int i1), (.ref r2), (.ref r3), .null]) (rest := [(.ref b1)]) (lenOf pd16 rfl) rfl rfl (W := 1) rfl (D d45_9)
  obtain ⟨h2, e2⟩ : ∃ z, T2.heap = z := ⟨_, rfl⟩
  rw [e2] at Q2
  obtain ⟨rfl, M2, K2, F2_0, F2_1, F2_2⟩ := Q2
  have N2 := N0.app M2
  have k2 := k1.trans K2 (allS (Or.inr z1) all0)
  have f3 := (A1.keep K2)
  refine ⟨(some (.ref b1)), T2, _, _, _, X2, (fun hh => by cases hh), (by rw [e2]; exact ⟨b1, rfl, N2, k2, z1, f3, F2_0, F2_1, F2_2⟩), (by decide), (by decide), fun fs hr => pre0 _ ?_⟩
  show SA p e below s₁ m 0 #[vr r0, vi i1, vr r2, vr r3, .val .null] [] _
  refine st1 _ ?_
  refine XS.dup X1.here hx rfl (D d45_3) rfl rfl ?_
  refine XS.iloadN X1.here hx rfl (D d45_4) rfl ?_
  refine XS.aloadN X1.here hx rfl (D d45_5) rfl rfl ?_
  refine XS.aloadN X1.here hx rfl (D d45_6) rfl rfl ?_
  refine XS.aload X1.here hx rfl (D d45_7) rfl rfl ?_
  refine st2 _ ?_
  show SA p e below T2 m 12 #[vr r0, vi i1, vr r2, vr r3, .val .null] [(.ref b1)] _
  exact retOut X2 hx hrt rfl (Or.inr (Or.inr (Or.inr (Or.inr ⟨rfl, rfl, rfl⟩)))) (D d45_12) hr
abbrev B46 := jdk_69_method_52_code
theorem d46_0 : decode B46 0 = .ok (.return_, 1) := by decide +kernel
/-- HashMap.afterNodeInsertion#0 -/
theorem t58 (hw : HW a0 Z) (SB0 : SB Z cv de ca) (r0 : Addr) (O0 : OL Z n0 h0)   : CT l Z y34 B46 2 none ⟨0, 0, 0, 0⟩ #[(.ref r0), (.int 1)] h0 (QP0 none h0 n0) := by
  refine ct_intro ?_
  intro p e s m below meth c s₁ E0 hx D hml hown hnm hrt X0 e0 hZ hE
  have N0 := Fr.nil n0
  have pre0 := ctp #[vr r0, vi 1] hE
  refine ⟨none, s₁, _, _, _, X0, fun _ => rfl, (by rw [e0]; exact ⟨rfl, N0, rfl⟩), (by decide), (by decide), fun fs hr => pre0 _ ?_⟩
  show SA p e below s₁ m 0 #[vr r0, vi 1] [] _
  exact X0.returnOut hx hrt (D d46_0) hr
def Q59 (Z : State) (cv : Int32) (de ca : Addr) (r0 r1 r2 : Addr) (h0 : Heap) (n0 : Nat) (v : Option Value) (h : Heap) (L : List Loc) : Prop := ∃ (b2_0 b6_0 : Addr) (c2_1 : ClassId), v = (some .null) ∧ Fr n0 L ∧ Keep h0 h [r0] ∧ h0.size ≤ b2_0 ∧ h0.size ≤ b6_0 ∧ P3 Z h r0 (.ref b2_0) ∧ P4 Z h r0 (.int 12) ∧ P7 Z h r0 (.int 1) ∧ P8 Z h r0 (.int 1) ∧ E_5 Z h b2_0 ∧ Arv Z h b2_0 c2_1 (.object "java/util/HashMap$Node") (16 : Int32) [.null, (.ref b6_0), .null, .null, .null, .null, .null, .null, .null, .null, .null, .null, .null, .null, .null, .null] .null ∧ Ovr Z c2_1 "java/util/HashMap$Node" ∧ E_12 Z h b6_0 ∧ P17 Z h b6_0 (.int 97) ∧ P18 Z h b6_0 (.ref r1) ∧ P19 Z h b6_0 (.ref r2)
/-- HashMap.putVal#1 -/
theorem t59 (hw : HW a0 Z) (SB0 : SB Z cv de ca) (r0 r1 r2 : Addr) (O0 : OL Z n0 h0) (q0 : P3 Z h0 r0 .null) (q1 : E_7 Z h0 r0) (q2 : P4 Z h0 r0 (.int 0)) (q3 : P7 Z h0 r0 (.int 0)) (q4 : P8 Z h0 r0 (.int 0)) (ge0 : n0 ≤ r0) : CT l Z y35 B23 13 (some (.object "java/lang/Object")) ⟨3, 2, 20, 47⟩ #[(.ref r0), (.int 97), (.ref r1), (.ref r2), (.int 0), (.int 1)] h0 (Q59 Z cv de ca r0 r1 r2 h0 n0) := by
  refine ct_intro ?_
  intro p e s m below meth c s₁ E0 hx D hml hown hnm hrt X0 e0 hZ hE
  have Z0 := O0.le
  have K0 := Keep.refl h0 [r0]
  have hws : ∀ w ∈ ([r0] : List Addr), n0 ≤ w := (allS ge0 all0)
  have N0 := Fr.nil n0
  have pre0 := ctp #[vr r0, vi 97, vr r1, vr r2, vi 0, vi 1, un, un, un, un, un, un, un] hE
  obtain ⟨T1, X1, e1, st1⟩ := gF X0 hx hZ hown (w_ hw 150 rfl) Via.refl e0 q0 (g := (mkF m 1 #[vr r0, vi 97, vr r1, vr r2, vi 0, vi 1, un, un, un, un, un, un, un] [(.ref r0)])) rfl rfl (D d23_1)
  obtain ⟨v2, T2, L2, X2, Q2, st2⟩ := kV (y := y24) (z := y24) X1 hx hZ hown (t55 hw SB0 r0 (O0.keep K0 hws) q0 q2 q1 q3 q4 ge0) q1 (nf_of (x := y25) (y' := y26) (args := #[]) (mvT hZ (w_ hw 118 rfl)) rfl) (w_ hw 152 rfl) (w_ hw 153 rfl) (w_ hw 352 rfl) (w_ hw 154 rfl) (w_ hw 11 rfl) (w_ hw 156 rfl) e1 (g := (mkF m 20 #[vr r0, vi 97, vr r1, vr r2, vi 0, vi 1, .val .null, un, un, un, un, un, un] [(.ref r0)])) rfl hml rfl (argsL := []) (rest := []) (lenOf pd15 rfl) rfl rfl (W := 0) rfl (D d23_20)
  obtain ⟨h2, e2⟩ : ∃ z, T2.heap = z := ⟨_, rfl⟩
  rw [e2] at Q2
  obtain ⟨b2_0, c2_1, rfl, M2, K2, y2_0, F2_0, F2_1, F2_2, F2_3, F2_4, F2_5, F2_6⟩ := Q2
  have N2 := N0.app M2
  have z2_b2_0 := Nat.le_trans K0.1 y2_0
  have k2 := K0.trans K2 (allS (Or.inl (List.mem_of_getElem? (i := 0) rfl)) all0)
  obtain ⟨_, Ar3, -, S3, M3, -, -⟩ := id F2_5
  obtain ⟨_, Ar4, -, S4, M4, H4, -⟩ := id F2_5
  have f5 := (q1.keep K2)
  obtain ⟨v6, T6, L6, X6, Q6, st6⟩ := kV (y := y30) (z := y30) X2 hx hZ hown (t57 hw SB0 r0 (97 : Int32) r1 r2 (O0.keep k2 hws) ) f5 (nf_of (x := y25) (y' := y26) (args := #[]) (mvT hZ (w_ hw 118 rfl)) rfl) (w_ hw 161 rfl) (w_ hw 162 rfl) (w_ hw 354 rfl) (w_ hw 163 rfl) (w_ hw 11 rfl) (w_ hw 355 rfl) e2 (g := (mkF m 56 #[vr r0, vi 97, vr r1, vr r2, vi 0, vi 1, vr b2_0, .val .null, vi 16, vi 1, un, un, un] [.null, (.ref r2), (.ref r1), (.int 97), (.ref r0), (.int 1), (.ref b2_0)])) rfl hml rfl (argsL := [(.int 97), (.ref r1), (.ref r2), .null]) (rest := [(.int 1), (.ref b2_0)]) (lenOf pd18 rfl) rfl rfl (W := 2) rfl (D d23_56)
  obtain ⟨h6, e6⟩ : ∃ z, T6.heap = z := ⟨_, rfl⟩
  rw [e6] at Q6
  obtain ⟨b6_0, rfl, M6, K6, y6_0, F6_0, F6_1, F6_2, F6_3⟩ := Q6
  have N6 := N2.app M6
  have z6_b6_0 := Nat.le_trans k2.1 y6_0
  have k6 := k2.trans K6 all0
  have f7 := (F2_5.keep K6 nin0)
  obtain ⟨_, Ar8, C8, S8, M8, H8, G8⟩ := id f7
  obtain ⟨T9, h9, X9, e9, W9, st9⟩ := stR X6 hx hZ e6 Ar8 (j := (1 : Int32)) (inb_of S8 ⟨by decide, by decide⟩) rfl (Sto.ofV Ar8 C8 F2_6 (Ins.self F6_0)) (g := (mkF m 59 #[vr r0, vi 97, vr r1, vr r2, vi 0, vi 1, vr b2_0, .val .null, vi 16, vi 1, un, un, un] [(.ref b6_0), (.int 1), (.ref b2_0)])) rfl rfl (D d23_59)
  have N9 := Fr.snoc X9 N6 (Nat.le_trans Z0 z2_b2_0)
  have k9 := k6.wr W9 (Or.inr z2_b2_0)
  have v9 : Arv Z h9 b2_0 c2_1 (.object "java/util/HashMap$Node") (16 : Int32) [.null, (.ref b6_0), .null, .null, .null, .null, .null, .null, .null, .null, .null, .null, .null, .null, .null, .null] .null := Arv.set Ar8 C8 S8 M8 H8 G8 rfl W9 1 rfl (by show 1 < 16; decide)
  have f11 := ((f5.keep K6).wr W9)
  have f12 := ((F2_4.keep K6).wr W9)
  have ne10 : r0 ≠ b2_0 := Exa.ne f11 f12 (by decide)
  have f13 := ((F2_2.keep K6 nin0).other W9 (Or.inl ne10))
  obtain ⟨T14, X14, e14, st14⟩ := gF X9 hx hZ hown (w_ hw 198 rfl) Via.refl e9 f13 (g := (mkF m 261 #[vr r0, vi 97, vr r1, vr r2, vi 0, vi 1, vr b2_0, .val .null, vi 16, vi 1, un, un, un] [(.ref r0), (.ref r0)])) rfl rfl (D d23_261)
  obtain ⟨T15, h15, X15, e15, W15, st15⟩ := putF X14 hx hZ hown (host := "") (Or.inl (w_ hw 198 rfl)) Via.refl e14 f13 f11 (Or.inl (w_ hw 363 rfl)) (w_ hw 221 rfl) (ty := .int) (by decide) rfl rfl (g := (mkF m 266 #[vr r0, vi 97, vr r1, vr r2, vi 0, vi 1, vr b2_0, .val .null, vi 16, vi 1, un, un, un] [(.int 1), (.ref r0)])) rfl rfl (D d23_266)
  have N15 := Fr.snoc X15 N9 ge0
  have k15 := k9.wr W15 (Or.inl (List.mem_of_getElem? (i := 0) rfl))
  have v15 := f13.same W15
  have f16 := (((F2_3.keep K6 nin0).other W9 (Or.inl ne10)).other W15 (Or.inr (sn65 hw)))
  obtain ⟨T17, X17, e17, st17⟩ := gF X15 hx hZ hown (w_ hw 200 rfl) Via.refl e15 f16 (g := (mkF m 271 #[vr r0, vi 97, vr r1, vr r2, vi 0, vi 1, vr b2_0, .val .null, vi 16, vi 1, un, un, un] [(.ref r0), (.ref r0)])) rfl rfl (D d23_271)
  have f18 := (f11.wr W15)
  obtain ⟨T19, h19, X19, e19, W19, st19⟩ := putF X17 hx hZ hown (host := "") (Or.inl (w_ hw 200 rfl)) Via.refl e17 f16 f18 (Or.inl (w_ hw 364 rfl)) (w_ hw 221 rfl) (ty := .int) (by decide) rfl rfl (g := (mkF m 277 #[vr r0, vi 97, vr r1, vr r2, vi 0, vi 1, vr b2_0, .val .null, vi 16, vi 1, un, un, un] [(.int 1), (.ref r0), (.int 1)])) rfl rfl (D d23_277)
  have N19 := Fr.snoc X19 N15 ge0
  have k19 := k15.wr W19 (Or.inl (List.mem_of_getElem? (i := 0) rfl))
  have v19 := f16.same W19
  have f20 := ((((F2_1.keep K6 nin0).other W9 (Or.inl ne10)).other W15 (Or.inr (Ne.symm (sn38 hw)))).other W19 (Or.inr (Ne.symm (sn40 hw))))
  obtain ⟨T21, X21, e21, st21⟩ := gF X19 hx hZ hown (w_ hw 157 rfl) Via.refl e19 f20 (g := (mkF m 281 #[vr r0, vi 97, vr r1, vr r2, vi 0, vi 1, vr b2_0, .val .null, vi 16, vi 1, un, un, un] [(.ref r0), (.int 1)])) rfl rfl (D d23_281)
  have f22 := (f18.wr W19)
  obtain ⟨v23, T23, L23, X23, Q23, st23⟩ := kV (y := y34) (z := y34) X21 hx hZ hown (t58 hw SB0 r0 (O0.keep k19 hws) ) f22 (nf_of (x := y25) (y' := y26) (args := #[]) (mvT hZ (w_ hw 118 rfl)) rfl) (w_ hw 202 rfl) (w_ hw 203 rfl) (w_ hw 365 rfl) (w_ hw 204 rfl) (w_ hw 11 rfl) (w_ hw 366 rfl) e21 (g := (mkF m 295 #[vr r0, vi 97, vr r1, vr r2, vi 0, vi 1, vr b2_0, .val .null, vi 16, vi 1, un, un, un] [(.int 1), (.ref r0)])) rfl hml rfl (argsL := [(.int 1)]) (rest := []) (lenOf pd20 rfl) rfl rfl (W := 0) rfl (D d23_295)
  obtain ⟨rfl, M23, e23⟩ := Q23
  have N23 := N19.app M23
  have f24 := ((((F2_0.keep K6 nin0).other W9 (Or.inl ne10)).other W15 (Or.inr (Ne.symm (sn39 hw)))).other W19 (Or.inr (Ne.symm (sn41 hw))))
  have f25 := (v15.other W19 (Or.inr (Ne.symm (sn65 hw))))
  have f26 := ((f12.wr W15).wr W19)
  have f27 := ((v9.other W15 (Ne.symm ne10)).other W19 (Ne.symm ne10))
  have f28 := (((F6_0.wr W9).wr W15).wr W19)
  have ne29 : b6_0 ≠ b2_0 := Exa.ne f28 f26 (by decide)
  have ne30 : b6_0 ≠ r0 := Exa.ne f28 f22 (by decide)
  have f31 := (((F6_1.other W9 (Or.inl ne29)).other W15 (Or.inl ne30)).other W19 (Or.inl ne30))
  have f32 := (((F6_2.other W9 (Or.inl ne29)).other W15 (Or.inl ne30)).other W19 (Or.inl ne30))
  have f33 := (((F6_3.other W9 (Or.inl ne29)).other W15 (Or.inl ne30)).other W19 (Or.inl ne30))
  refine ⟨(some .null), T23, _, _, _, X23, (fun hh => by cases hh), (by rw [e23]; exact ⟨b2_0, b6_0, c2_1, rfl, N23, k19, z2_b2_0, z6_b6_0, f24, f20, f25, v19, f26, f27, F2_6, f28, f31, f32, f33⟩), (by decide), (by decide), fun fs hr => pre0 _ ?_⟩
  show SA p e below s₁ m 0 #[vr r0, vi 97, vr r1, vr r2, vi 0, vi 1, un, un, un, un, un, un, un] [] _
  refine XS.aloadN X0.here hx rfl (D d23_0) rfl rfl ?_
  refine st1 _ ?_
  refine XS.dup X1.here hx rfl (D d23_4) rfl rfl ?_
  refine XS.astore X1.here hx rfl (D d23_5) rfl rfl (l' := #[vr r0, vi 97, vr r1, vr r2, vi 0, vi 1, .val .null, un, un, un, un, un, un]) rfl ?_
  refine XS.ifnullYes X1.here hx rfl (pc0 := 7) (pc' := 19) rfl (D d23_7) rfl (by decide) (by decide) ?_
  refine XS.aloadN X1.here hx rfl (D d23_19) rfl rfl ?_
  refine st2 _ ?_
  refine XS.dup X2.here hx rfl (D d23_23) rfl rfl ?_
  refine XS.astore X2.here hx rfl (D d23_24) rfl rfl (l' := #[vr r0, vi 97, vr r1, vr r2, vi 0, vi 1, vr b2_0, un, un, un, un, un, un]) rfl ?_
  refine X2.arraylength hx (by rw [e2]; exact Ar3.1) (State.isArrayOf_alike hZ.alike Ar3.2.1) (g := (mkF m 26 #[vr r0, vi 97, vr r1, vr r2, vi 0, vi 1, vr b2_0, un, un, un, un, un, un] [(.ref b2_0)])) rfl rfl (D d23_26) _ ?_
  rw [len_of S3 M3]
  show SA p e below T2 m 27 #[vr r0, vi 97, vr r1, vr r2, vi 0, vi 1, vr b2_0, un, un, un, un, un, un] [(.int 16)] _
  refine XS.istore X2.here hx rfl (D d23_27) rfl (l' := #[vr r0, vi 97, vr r1, vr r2, vi 0, vi 1, vr b2_0, un, vi 16, un, un, un, un]) rfl ?_
  refine XS.aload X2.here hx rfl (D d23_29) rfl rfl ?_
  refine XS.iload X2.here hx rfl (D d23_31) rfl ?_
  refine XS.iconst X2.here hx rfl (D d23_33) ?_
  refine XS.isub X2.here hx rfl (D d23_34) rfl ?_
  refine XS.iloadN X2.here hx rfl (D d23_35) rfl ?_
  refine XS.iand X2.here hx rfl (D d23_36) rfl ?_
  refine XS.dup X2.here hx rfl (D d23_37) rfl rfl ?_
  refine XS.istore X2.here hx rfl (D d23_38) rfl (l' := #[vr r0, vi 97, vr r1, vr r2, vi 0, vi 1, vr b2_0, un, vi 16, vi 1, un, un, un]) rfl ?_
  refine X2.aaload hx (j := (1 : Int32)) (v := .null) (by rw [e2]; exact Ar4.1) (State.isArrayOf_alike hZ.alike Ar4.2.1) rfl Ar4.2.2 (inb_of S4 ⟨by decide, by decide⟩) (Has.at H4 (inb_of S4 ⟨by decide, by decide⟩) rfl) (g := (mkF m 40 #[vr r0, vi 97, vr r1, vr r2, vi 0, vi 1, vr b2_0, un, vi 16, vi 1, un, un, un] [(.int 1), (.ref b2_0)])) rfl rfl (D d23_40) _ ?_
  show SA p e below T2 m 41 #[vr r0, vi 97, vr r1, vr r2, vi 0, vi 1, vr b2_0, un, vi 16, vi 1, un, un, un] [.null] _
  refine XS.dup X2.here hx rfl (D d23_41) rfl rfl ?_
  refine XS.astore X2.here hx rfl (D d23_42) rfl rfl (l' := #[vr r0, vi 97, vr r1, vr r2, vi 0, vi 1, vr b2_0, .val .null, vi 16, vi 1, un, un, un]) rfl ?_
  refine XS.ifnonnullNo X2.here hx rfl (D d23_44) rfl ?_
  refine XS.aload X2.here hx rfl (D d23_47) rfl rfl ?_
  refine XS.iload X2.here hx rfl (D d23_49) rfl ?_
  refine XS.aloadN X2.here hx rfl (D d23_51) rfl rfl ?_
  refine XS.iloadN X2.here hx rfl (D d23_52) rfl ?_
  refine XS.aloadN X2.here hx rfl (D d23_53) rfl rfl ?_
  refine XS.aloadN X2.here hx rfl (D d23_54) rfl rfl ?_
  refine XS.aconstNull X2.here hx rfl (D d23_55) ?_
  refine st6 _ ?_
  refine st9 _ ?_
  refine XS.goto X9.here hx rfl (pc0 := 60) (pc' := 259) rfl (D d23_60) (by decide) (by decide) ?_
  refine XS.aloadN X9.here hx rfl (D d23_259) rfl rfl ?_
  refine XS.dup X9.here hx rfl (D d23_260) rfl rfl ?_
  refine st14 _ ?_
  refine XS.iconst X14.here hx rfl (D d23_264) ?_
  refine XS.iadd X14.here hx rfl (D d23_265) rfl ?_
  refine st15 _ ?_
  refine XS.aloadN X15.here hx rfl (D d23_269) rfl rfl ?_
  refine XS.dup X15.here hx rfl (D d23_270) rfl rfl ?_
  refine st17 _ ?_
  refine XS.iconst X17.here hx rfl (D d23_274) ?_
  refine XS.iadd X17.here hx rfl (D d23_275) rfl ?_
  refine XS.dupX1 X17.here hx rfl (D d23_276) rfl rfl rfl ?_
  refine st19 _ ?_
  refine XS.aloadN X19.here hx rfl (D d23_280) rfl rfl ?_
  refine st21 _ ?_
  refine XS.icmpYes X21.here hx rfl (pc0 := 284) (pc' := 292) rfl (D d23_284) rfl (flt (by decide : ¬ ((12 : Int32) < (1 : Int32)))).2.2.2 (by decide) (by decide) ?_
  refine XS.aloadN X21.here hx rfl (D d23_292) rfl rfl ?_
  refine XS.iload X21.here hx rfl (D d23_293) rfl ?_
  refine st23 _ ?_
  refine XS.aconstNull X23.here hx rfl (D d23_298) ?_
  show SA p e below T23 m 299 #[vr r0, vi 97, vr r1, vr r2, vi 0, vi 1, vr b2_0, .val .null, vi 16, vi 1, un, un, un] [.null] _
  exact retOut X23 hx hrt rfl (Or.inr (Or.inr (Or.inr (Or.inr ⟨rfl, rfl, rfl⟩)))) (D d23_299) hr
def Q60 (Z : State) (cv : Int32) (de ca : Addr) (r0 r1 r2 : Addr) (h0 : Heap) (n0 : Nat) (v : Option Value) (h : Heap) (L : List Loc) : Prop := ∃ (b2_0 b2_1 : Addr) (c2_2 : ClassId), v = (some .null) ∧ Fr n0 L ∧ Keep h0 h [r0] ∧ h0.size ≤ b2_0 ∧ h0.size ≤ b2_1 ∧ P3 Z h r0 (.ref b2_0) ∧ P4 Z h r0 (.int 12) ∧ P7 Z h r0 (.int 1) ∧ P8 Z h r0 (.int 1) ∧ E_5 Z h b2_0 ∧ Arv Z h b2_0 c2_2 (.object "java/util/HashMap$Node") (16 : Int32) [.null, (.ref b2_1), .null, .null, .null, .null, .null, .null, .null, .null, .null, .null, .null, .null, .null, .null] .null ∧ Ovr Z c2_2 "java/util/HashMap$Node" ∧ E_12 Z h b2_1 ∧ P17 Z h b2_1 (.int 97) ∧ P18 Z h b2_1 (.ref r1) ∧ P19 Z h b2_1 (.ref r2)
/-- HashMap.put#1 -/
theorem t60 (hw : HW a0 Z) (SB0 : SB Z cv de ca) (r0 r1 r2 : Addr) (O0 : OL Z n0 h0) (q0 : E_2 Z h0 r1) (q1 : P12 Z h0 r1 (.int 97)) (q2 : E_7 Z h0 r0) (q3 : P3 Z h0 r0 .null) (q4 : P4 Z h0 r0 (.int 0)) (q5 : P7 Z h0 r0 (.int 0)) (q6 : P8 Z h0 r0 (.int 0)) (ge0 : n0 ≤ r0) : CT l Z y26 B18 3 (some (.object "java/lang/Object")) ⟨4, 2, 20, 71⟩ #[(.ref r0), (.ref r1), (.ref r2)] h0 (Q60 Z cv de ca r0 r1 r2 h0 n0) := by
  refine ct_intro ?_
  intro p e s m below meth c s₁ E0 hx D hml hown hnm hrt X0 e0 hZ hE
  have Z0 := O0.le
  have K0 := Keep.refl h0 [r0]
  have hws : ∀ w ∈ ([r0] : List Addr), n0 ≤ w := (allS ge0 all0)
  have N0 := Fr.nil n0
  have pre0 := ctp #[vr r0, vr r1, vr r2] hE
  obtain ⟨v1, T1, L1, X1, Q1, st1⟩ := kS X0 hx hZ hown (t54 hw SB0 r1 (O0.keep K0 hws) q0 q1) (w_ hw 124 rfl) (w_ hw 125 rfl) (w_ hw 11 rfl) (w_ hw 126 rfl) e0 (g := (mkF m 2 #[vr r0, vr r1, vr r2] [(.ref r1), (.ref r0)])) rfl hml rfl (argsL := [(.ref r1)]) (rest := [(.ref r0)]) (lenOf pd14 rfl) rfl rfl (W := 1) rfl (D d18_2)
  obtain ⟨rfl, M1, e1⟩ := Q1
  have N1 := N0.app M1
  obtain ⟨v2, T2, L2, X2, Q2, st2⟩ := kV (y := y35) (z := y35) X1 hx hZ hown (t59 hw SB0 r0 r1 r2 (O0.keep K0 hws) q3 q2 q4 q5 q6 ge0) q2 (nf_of (x := y25) (y' := y26) (args := #[]) (mvT hZ (w_ hw 118 rfl)) rfl) (w_ hw 145 rfl) (w_ hw 146 rfl) (w_ hw 350 rfl) (w_ hw 147 rfl) (w_ hw 11 rfl) (w_ hw 149 rfl) e1 (g := (mkF m 9 #[vr r0, vr r1, vr r2] [(.int 1), (.int 0), (.ref r2), (.ref r1), (.int 97), (.ref r0)])) rfl hml rfl (argsL := [(.int 97), (.ref r1), (.ref r2), (.int 0), (.int 1)]) (rest := []) (lenOf pd21 rfl) rfl rfl (W := 0) rfl (D d18_9)
  obtain ⟨h2, e2⟩ : ∃ z, T2.heap = z := ⟨_, rfl⟩
  rw [e2] at Q2
  obtain ⟨b2_0, b2_1, c2_2, rfl, M2, K2, y2_0, y2_1, F2_0, F2_1, F2_2, F2_3, F2_4, F2_5, F2_6, F2_7, F2_8, F2_9, F2_10⟩ := Q2
  have N2 := N1.app M2
  have z2_b2_0 := Nat.le_trans K0.1 y2_0
  have z2_b2_1 := Nat.le_trans K0.1 y2_1
  have k2 := K0.trans K2 (allS (Or.inl (List.mem_of_getElem? (i := 0) rfl)) all0)
  refine ⟨(some .null), T2, _, _, _, X2, (fun hh => by cases hh), (by rw [e2]; exact ⟨b2_0, b2_1, c2_2, rfl, N2, k2, z2_b2_0, z2_b2_1, F2_0, F2_1, F2_2, F2_3, F2_4, F2_5, F2_6, F2_7, F2_8, F2_9, F2_10⟩), (by decide), (by decide), fun fs hr => pre0 _ ?_⟩
  show SA p e below s₁ m 0 #[vr r0, vr r1, vr r2] [] _
  refine XS.aloadN X0.here hx rfl (D d18_0) rfl rfl ?_
  refine XS.aloadN X0.here hx rfl (D d18_1) rfl rfl ?_
  refine st1 _ ?_
  refine XS.aloadN X1.here hx rfl (D d18_5) rfl rfl ?_
  refine XS.aloadN X1.here hx rfl (D d18_6) rfl rfl ?_
  refine XS.iconst X1.here hx rfl (D d18_7) ?_
  refine XS.iconst X1.here hx rfl (D d18_8) ?_
  refine st2 _ ?_
  show SA p e below T2 m 12 #[vr r0, vr r1, vr r2] [.null] _
  exact retOut X2 hx hrt rfl (Or.inr (Or.inr (Or.inr (Or.inr ⟨rfl, rfl, rfl⟩)))) (D d18_12) hr
theorem iw7 {a0 Z} (hw : HW a0 Z) : IFW a0 Z "java/util/HashMap" y25 y26 B18 3 (some (.object "java/lang/Object")) := ⟨(w_ hw 116 rfl), (w_ hw 347 rfl), (w_ hw 119 rfl), (w_ hw 120 rfl), (w_ hw 348 rfl), (w_ hw 349 rfl), (w_ hw 11 rfl), (w_ hw 123 rfl)⟩
theorem d31_75 : decode B31 75 = .ok (.pop, 1) := by decide +kernel
theorem d31_76 : decode B31 76 = .ok (.iload_n 3, 1) := by decide +kernel
theorem d31_77 : decode B31 77 = .ok (.aload 5, 2) := by decide +kernel
theorem d31_79 : decode B31 79 = .ok (.invokeinterface 55 1, 5) := by decide +kernel
abbrev B47 := jdk_70_method_3_code
theorem d47_0 : decode B47 0 = .ok (.aload_n 0, 1) := by decide +kernel
theorem d47_1 : decode B47 1 = .ok (.getfield 17, 3) := by decide +kernel
theorem d47_4 : decode B47 4 = .ok (.areturn, 1) := by decide +kernel
abbrev y55 : MethodName := ⟨"java/util/HashMap$Node", "getValue", "()Ljava/lang/Object;"⟩
/-- HashMap$Node.getValue#0 -/
theorem t61 (hw : HW a0 Z) (SB0 : SB Z cv de ca) (r0 r1 : Addr) (O0 : OL Z n0 h0) (q0 : P19 Z h0 r0 (.ref r1))  : CT l Z y55 B47 1 (some (.object "java/lang/Object")) ⟨0, 0, 0, 0⟩ #[(.ref r0)] h0 (QP0 (some (.ref r1)) h0 n0) := by
  refine ct_intro ?_
  intro p e s m below meth c s₁ E0 hx D hml hown hnm hrt X0 e0 hZ hE
  have N0 := Fr.nil n0
  have pre0 := ctp #[vr r0] hE
  obtain ⟨T1, X1, e1, st1⟩ := gF X0 hx hZ hown (w_ hw 185 rfl) Via.refl e0 q0 (g := (mkF m 1 #[vr r0] [(.ref r0)])) rfl rfl (D d47_1)
  refine ⟨(some (.ref r1)), T1, _, _, _, X1, (fun hh => by cases hh), (by rw [e1]; exact ⟨rfl, N0, rfl⟩), (by decide), (by decide), fun fs hr => pre0 _ ?_⟩
  show SA p e below s₁ m 0 #[vr r0] [] _
  refine XS.aloadN X0.here hx rfl (D d47_0) rfl rfl ?_
  refine st1 _ ?_
  show SA p e below T1 m 4 #[vr r0] [(.ref r1)] _
  exact retOut X1 hx hrt rfl (Or.inr (Or.inr (Or.inr (Or.inr ⟨rfl, rfl, rfl⟩)))) (D d47_4) hr
abbrev y56 : MethodName := ⟨"java/util/Map$Entry", "getValue", "()Ljava/lang/Object;"⟩
theorem iw8 {a0 Z} (hw : HW a0 Z) : IFW a0 Z "java/util/LinkedHashMap$Entry" y56 y55 B47 1 (some (.object "java/lang/Object")) := ⟨(w_ hw 368 rfl), (w_ hw 370 rfl), (w_ hw 371 rfl), (w_ hw 372 rfl), (w_ hw 373 rfl), (w_ hw 329 rfl), (w_ hw 178 rfl), (w_ hw 374 rfl)⟩
theorem d31_84 : decode B31 84 = .ok (.checkcast 58, 3) := by decide +kernel
theorem d31_87 : decode B31 87 = .ok (.invokeinterface 60 1, 5) := by decide +kernel
abbrev B48 := jdk_38_method_8_code
theorem d48_0 : decode B48 0 = .ok (.aload_n 0, 1) := by decide +kernel
theorem d48_1 : decode B48 1 = .ok (.getfield 48, 3) := by decide +kernel
theorem d48_4 : decode B48 4 = .ok (.ireturn, 1) := by decide +kernel
abbrev y57 : MethodName := ⟨"java/util/ArrayList", "size", "()I"⟩
/-- ArrayList.size#0 -/
theorem t62 (hw : HW a0 Z) (SB0 : SB Z cv de ca) (r0 : Addr) (i1 : Int32) (O0 : OL Z n0 h0) (q0 : P16 Z h0 r0 (.int i1))  : CT l Z y57 B48 1 (some .int) ⟨0, 0, 0, 0⟩ #[(.ref r0)] h0 (QP0 (some (.int i1)) h0 n0) := by
  refine ct_intro ?_
  intro p e s m below meth c s₁ E0 hx D hml hown hnm hrt X0 e0 hZ hE
  have N0 := Fr.nil n0
  have pre0 := ctp #[vr r0] hE
  obtain ⟨T1, X1, e1, st1⟩ := gF X0 hx hZ hown (w_ hw 92 rfl) Via.refl e0 q0 (g := (mkF m 1 #[vr r0] [(.ref r0)])) rfl rfl (D d48_1)
  refine ⟨(some (.int i1)), T1, _, _, _, X1, (fun hh => by cases hh), (by rw [e1]; exact ⟨rfl, N0, rfl⟩), (by decide), (by decide), fun fs hr => pre0 _ ?_⟩
  show SA p e below s₁ m 0 #[vr r0] [] _
  refine XS.aloadN X0.here hx rfl (D d48_0) rfl rfl ?_
  refine st1 _ ?_
  show SA p e below T1 m 4 #[vr r0] [(.int i1)] _
  exact retOut X1 hx hrt rfl (Or.inl ⟨rfl, Or.inl rfl, _, rfl⟩) (D d48_4) hr
abbrev y58 : MethodName := ⟨"java/util/List", "size", "()I"⟩
theorem iw9 {a0 Z} (hw : HW a0 Z) : IFW a0 Z "java/util/ArrayList" y58 y57 B48 1 (some .int) := ⟨(w_ hw 377 rfl), (w_ hw 379 rfl), (w_ hw 380 rfl), (w_ hw 381 rfl), (w_ hw 382 rfl), (w_ hw 88 rfl), (w_ hw 59 rfl), (w_ hw 383 rfl)⟩
theorem d31_92 : decode B31 92 = .ok (.iadd, 1) := by decide +kernel
theorem d31_93 : decode B31 93 = .ok (.istore_n 3, 1) := by decide +kernel
theorem d31_94 : decode B31 94 = .ok (.goto (-64), 3) := by decide +kernel
theorem d39_11 : decode B39 11 = .ok (.iconst 0, 1) := by decide +kernel
/-- LinkedHashMap$LinkedHashIterator.hasNext#1 -/
theorem t63 (hw : HW a0 Z) (SB0 : SB Z cv de ca) (r0 : Addr) (O0 : OL Z n0 h0) (q0 : P33 Z h0 r0 .null)  : CT l Z y45 B39 1 (some .boolean) ⟨0, 0, 0, 0⟩ #[(.ref r0)] h0 (QP0 (some (.int 0)) h0 n0) := by
  refine ct_intro ?_
  intro p e s m below meth c s₁ E0 hx D hml hown hnm hrt X0 e0 hZ hE
  have N0 := Fr.nil n0
  have pre0 := ctp #[vr r0] hE
  obtain ⟨T1, X1, e1, st1⟩ := gF X0 hx hZ hown (w_ hw 290 rfl) Via.refl e0 q0 (g := (mkF m 1 #[vr r0] [(.ref r0)])) rfl rfl (D d39_1)
  refine ⟨(some (.int 0)), T1, _, _, _, X1, (fun hh => by cases hh), (by rw [e1]; exact ⟨rfl, N0, rfl⟩), (by decide), (by decide), fun fs hr => pre0 _ ?_⟩
  show SA p e below s₁ m 0 #[vr r0] [] _
  refine XS.aloadN X0.here hx rfl (D d39_0) rfl rfl ?_
  refine st1 _ ?_
  refine XS.ifnullYes X1.here hx rfl (pc0 := 4) (pc' := 11) rfl (D d39_4) rfl (by decide) (by decide) ?_
  refine XS.iconst X1.here hx rfl (D d39_11) ?_
  show SA p e below T1 m 12 #[vr r0] [(.int 0)] _
  exact retN X1 hx (t := .boolean) hrt (by simp) (D d39_12) hr
theorem d31_97 : decode B31 97 = .ok (.aload_n 0, 1) := by decide +kernel
theorem d31_98 : decode B31 98 = .ok (.iload_n 3, 1) := by decide +kernel
theorem d31_99 : decode B31 99 = .ok (.newarray .boolean, 2) := by decide +kernel
theorem d31_101 : decode B31 101 = .ok (.putfield 64, 3) := by decide +kernel
abbrev S_30 (Z : State) := Jvm.RoadKit.slotOf Z "com/example/derivant/derivant/model/NextStateRelation" "last" "[Z"
abbrev S_31 (Z : State) := Jvm.RoadKit.slotOf Z "com/example/derivant/derivant/model/NextStateRelation" "firstNumber" "Ljava/util/Map;"
theorem ly30 {a0 Z} (hw : HW a0 Z) : Laid Z a0 "com/example/derivant/derivant/model/NextStateRelation" "com/example/derivant/derivant/model/NextStateRelation" "last" "[Z" := (Or.inr (w_ hw 386 rfl))
theorem ly31 {a0 Z} (hw : HW a0 Z) : Laid Z a0 "com/example/derivant/derivant/model/NextStateRelation" "com/example/derivant/derivant/model/NextStateRelation" "firstNumber" "Ljava/util/Map;" := (Or.inr (w_ hw 226 rfl))
theorem pf12 : parseFieldDescriptor "[Z" = some (.array .boolean) := by decide
theorem pf13 : parseFieldDescriptor "Ljava/util/Map;" = some (.object "java/util/Map") := by decide
theorem sn79 {a0 Z} (hw : HW a0 Z) : S_30 Z ≠ S_31 Z := Jvm.RoadKit.slot_ne (ly30 hw) (ly31 hw) (by decide) pf12 pf13
theorem d31_104 : decode B31 104 = .ok (.aload_n 1, 1) := by decide +kernel
theorem d31_105 : decode B31 105 = .ok (.invokeinterface 16 1, 5) := by decide +kernel
theorem d33_26 : decode B33 26 = .ok (.aload_n 1, 1) := by decide +kernel
theorem d33_27 : decode B33 27 = .ok (.checkcast 126, 3) := by decide +kernel
theorem d33_30 : decode B33 30 = .ok (.areturn, 1) := by decide +kernel
/-- LinkedHashMap.sequencedEntrySet#1 -/
theorem t64 (hw : HW a0 Z) (SB0 : SB Z cv de ca) (r0 r1 : Addr) (O0 : OL Z n0 h0) (q0 : P9 Z h0 r0 (.ref r1)) (q1 : E_9 Z h0 r1)  : CT l Z y38 B33 3 (some (.object "java/util/SequencedSet")) ⟨0, 0, 0, 0⟩ #[(.ref r0)] h0 (QP0 (some (.ref r1)) h0 n0) := by
  refine ct_intro ?_
  intro p e s m below meth c s₁ E0 hx D hml hown hnm hrt X0 e0 hZ hE
  have N0 := Fr.nil n0
  have pre0 := ctp #[vr r0, un, un] hE
  obtain ⟨T1, X1, e1, st1⟩ := gF X0 hx hZ hown (w_ hw 240 rfl) (Via.of (w_ hw 241 rfl)) e0 q0 (g := (mkF m 1 #[vr r0, un, un] [(.ref r0)])) rfl rfl (D d33_1)
  obtain ⟨T2, X2, e2, st2⟩ := castY X1 hx hZ hown (w_ hw 387 rfl) e1 (Ins.of_exa q1 (w_ hw 388 rfl)) (g := (mkF m 27 #[vr r0, vr r1, un] [(.ref r1)])) rfl rfl (D d33_27)
  refine ⟨(some (.ref r1)), T2, _, _, _, X2, (fun hh => by cases hh), (by rw [e2]; exact ⟨rfl, N0, rfl⟩), (by decide), (by decide), fun fs hr => pre0 _ ?_⟩
  show SA p e below s₁ m 0 #[vr r0, un, un] [] _
  refine XS.aloadN X0.here hx rfl (D d33_0) rfl rfl ?_
  refine st1 _ ?_
  refine XS.astoreN X1.here hx rfl (D d33_4) rfl rfl (l' := #[vr r0, vr r1, un]) rfl ?_
  refine XS.aloadN X1.here hx rfl (D d33_5) rfl rfl ?_
  refine XS.ifnonnullYes X1.here hx rfl (pc0 := 6) (pc' := 26) rfl (D d33_6) rfl (by decide) (by decide) ?_
  refine XS.aloadN X1.here hx rfl (D d33_26) rfl rfl ?_
  refine st2 _ ?_
  show SA p e below T2 m 30 #[vr r0, vr r1, un] [(.ref r1)] _
  exact retOut X2 hx hrt rfl (Or.inr (Or.inr (Or.inr (Or.inr ⟨rfl, rfl, rfl⟩)))) (D d33_30) hr
/-- LinkedHashMap.entrySet#1 -/
theorem t65 (hw : HW a0 Z) (SB0 : SB Z cv de ca) (r0 r1 : Addr) (O0 : OL Z n0 h0) (q0 : E_0 Z h0 r0) (q1 : P9 Z h0 r0 (.ref r1)) (q2 : E_9 Z h0 r1)  : CT l Z y39 B32 1 (some (.object "java/util/Set")) ⟨1, 0, 0, 14⟩ #[(.ref r0)] h0 (QP0 (some (.ref r1)) h0 n0) := by
  refine ct_intro ?_
  intro p e s m below meth c s₁ E0 hx D hml hown hnm hrt X0 e0 hZ hE
  have Z0 := O0.le
  have K0 := Keep.refl h0 []
  have hws : ∀ w ∈ ([] : List Addr), n0 ≤ w := all0
  have N0 := Fr.nil n0
  have pre0 := ctp #[vr r0] hE
  obtain ⟨v1, T1, L1, X1, Q1, st1⟩ := kV (y := y38) (z := y38) X0 hx hZ hown (t64 hw SB0 r0 r1 (O0.keep K0 hws) q1 q2) q0 (nf_of (x := y30) (y' := y31) (args := #[]) (mvT hZ (w_ hw 164 rfl)) rfl) (w_ hw 235 rfl) (w_ hw 236 rfl) (w_ hw 238 rfl) (w_ hw 237 rfl) (w_ hw 3 rfl) (w_ hw 239 rfl) e0 (g := (mkF m 1 #[vr r0] [(.ref r0)])) rfl hml rfl (argsL := []) (rest := []) (lenOf pd24 rfl) rfl rfl (W := 0) rfl (D d32_1)
  obtain ⟨rfl, M1, e1⟩ := Q1
  have N1 := N0.app M1
  refine ⟨(some (.ref r1)), T1, _, _, _, X1, (fun hh => by cases hh), (by rw [e1]; exact ⟨rfl, N1, rfl⟩), (by decide), (by decide), fun fs hr => pre0 _ ?_⟩
  show SA p e below s₁ m 0 #[vr r0] [] _
  refine XS.aloadN X0.here hx rfl (D d32_0) rfl rfl ?_
  refine st1 _ ?_
  show SA p e below T1 m 4 #[vr r0] [(.ref r1)] _
  exact retOut X1 hx hrt rfl (Or.inr (Or.inr (Or.inr (Or.inr ⟨rfl, rfl, rfl⟩)))) (D d32_4) hr
theorem d31_110 : decode B31 110 = .ok (.invokeinterface 22 1, 5) := by decide +kernel
theorem d31_115 : decode B31 115 = .ok (.astore 4, 2) := by decide +kernel
theorem d31_117 : decode B31 117 = .ok (.aload 4, 2) := by decide +kernel
theorem d31_119 : decode B31 119 = .ok (.invokeinterface 28 1, 5) := by decide +kernel
theorem d31_124 : decode B31 124 = .ok (.ifCond .eq 64, 3) := by decide +kernel
theorem d31_127 : decode B31 127 = .ok (.aload 4, 2) := by decide +kernel
theorem d31_129 : decode B31 129 = .ok (.invokeinterface 34 1, 5) := by decide +kernel
theorem d31_134 : decode B31 134 = .ok (.checkcast 38, 3) := by decide +kernel
theorem d31_137 : decode B31 137 = .ok (.astore 5, 2) := by decide +kernel
theorem d31_139 : decode B31 139 = .ok (.aload_n 0, 1) := by decide +kernel
theorem d31_140 : decode B31 140 = .ok (.getfield 64, 3) := by decide +kernel
theorem d31_143 : decode B31 143 = .ok (.aload_n 0, 1) := by decide +kernel
theorem d31_144 : decode B31 144 = .ok (.getfield 10, 3) := by decide +kernel
theorem d31_147 : decode B31 147 = .ok (.aload 5, 2) := by decide +kernel
theorem d31_149 : decode B31 149 = .ok (.invokeinterface 40 1, 5) := by decide +kernel
theorem d31_154 : decode B31 154 = .ok (.invokeinterface 68 2, 5) := by decide +kernel
abbrev B49 := jdk_69_method_12_code
theorem d49_0 : decode B49 0 = .ok (.aload_n 0, 1) := by decide +kernel
theorem d49_1 : decode B49 1 = .ok (.aload_n 1, 1) := by decide +kernel
theorem d49_2 : decode B49 2 = .ok (.invokevirtual 158, 3) := by decide +kernel
abbrev B50 := jdk_69_method_13_code
theorem d50_0 : decode B50 0 = .ok (.aload_n 0, 1) := by decide +kernel
theorem d50_1 : decode B50 1 = .ok (.getfield 105, 3) := by decide +kernel
theorem d50_4 : decode B50 4 = .ok (.dup, 1) := by decide +kernel
theorem d50_5 : decode B50 5 = .ok (.astore_n 2, 1) := by decide +kernel
theorem d50_6 : decode B50 6 = .ok (.ifnull 142, 3) := by decide +kernel
theorem d50_9 : decode B50 9 = .ok (.aload_n 2, 1) := by decide +kernel
theorem d50_10 : decode B50 10 = .ok (.arraylength, 1) := by decide +kernel
theorem d50_11 : decode B50 11 = .ok (.dup, 1) := by decide +kernel
theorem d50_12 : decode B50 12 = .ok (.istore 5, 2) := by decide +kernel
theorem d50_14 : decode B50 14 = .ok (.ifCond .le 134, 3) := by decide +kernel
theorem d50_17 : decode B50 17 = .ok (.aload_n 2, 1) := by decide +kernel
theorem d50_18 : decode B50 18 = .ok (.iload 5, 2) := by decide +kernel
theorem d50_20 : decode B50 20 = .ok (.iconst 1, 1) := by decide +kernel
theorem d50_21 : decode B50 21 = .ok (.isub, 1) := by decide +kernel
theorem d50_22 : decode B50 22 = .ok (.aload_n 1, 1) := by decide +kernel
theorem d50_23 : decode B50 23 = .ok (.invokestatic 149, 3) := by decide +kernel
theorem d50_26 : decode B50 26 = .ok (.dup, 1) := by decide +kernel
theorem d50_27 : decode B50 27 = .ok (.istore 6, 2) := by decide +kernel
theorem d50_29 : decode B50 29 = .ok (.iand, 1) := by decide +kernel
theorem d50_30 : decode B50 30 = .ok (.aaload, 1) := by decide +kernel
theorem d50_31 : decode B50 31 = .ok (.dup, 1) := by decide +kernel
theorem d50_32 : decode B50 32 = .ok (.astore_n 3, 1) := by decide +kernel
theorem d50_33 : decode B50 33 = .ok (.ifnull 115, 3) := by decide +kernel
theorem d50_36 : decode B50 36 = .ok (.aload_n 3, 1) := by decide +kernel
theorem d50_37 : decode B50 37 = .ok (.getfield 168, 3) := by decide +kernel
theorem d50_40 : decode B50 40 = .ok (.iload 6, 2) := by decide +kernel
theorem d50_42 : decode B50 42 = .ok (.if_icmp .ne 29, 3) := by decide +kernel
theorem d50_45 : decode B50 45 = .ok (.aload_n 3, 1) := by decide +kernel
theorem d50_46 : decode B50 46 = .ok (.getfield 170, 3) := by decide +kernel
theorem d50_49 : decode B50 49 = .ok (.dup, 1) := by decide +kernel
theorem d50_50 : decode B50 50 = .ok (.astore 7, 2) := by decide +kernel
theorem d50_52 : decode B50 52 = .ok (.aload_n 1, 1) := by decide +kernel
theorem d50_53 : decode B50 53 = .ok (.if_acmp .eq 16, 3) := by decide +kernel
theorem d50_69 : decode B50 69 = .ok (.aload_n 3, 1) := by decide +kernel
theorem d50_70 : decode B50 70 = .ok (.areturn, 1) := by decide +kernel
abbrev y59 : MethodName := ⟨"java/util/HashMap", "getNode", "(Ljava/lang/Object;)Ljava/util/HashMap$Node;"⟩
/-- HashMap.getNode#0 -/
theorem t66 (hw : HW a0 Z) (SB0 : SB Z cv de ca) (r0 r1 r2 r3 : Addr) (k4 : ClassId) (O0 : OL Z n0 h0) (q0 : P3 Z h0 r0 (.ref r2)) (q1 : Arv Z h0 r2 k4 (.object "java/util/HashMap$Node") (16 : Int32) [.null, (.ref r3), .null, .null, .null, .null, .null, .null, .null, .null, .null, .null, .null, .null, .null, .null] .null) (q2 : E_2 Z h0 r1) (q3 : P12 Z h0 r1 (.int 97)) (q4 : P17 Z h0 r3 (.int 97)) (q5 : P18 Z h0 r3 (.ref r1))  : CT l Z y59 B50 8 (some (.object "java/util/HashMap$Node")) ⟨2, 0, 0, 28⟩ #[(.ref r0), (.ref r1)] h0 (QP0 (some (.ref r3)) h0 n0) := by
  refine ct_intro ?_
  intro p e s m below meth c s₁ E0 hx D hml hown hnm hrt X0 e0 hZ hE
  have Z0 := O0.le
  have K0 := Keep.refl h0 []
  have hws : ∀ w ∈ ([] : List Addr), n0 ≤ w := all0
  have N0 := Fr.nil n0
  have pre0 := ctp #[vr r0, vr r1, un, un, un, un, un, un] hE
  obtain ⟨T1, X1, e1, st1⟩ := gF X0 hx hZ hown (w_ hw 150 rfl) Via.refl e0 q0 (g := (mkF m 1 #[vr r0, vr r1, un, un, un, un, un, un] [(.ref r0)])) rfl rfl (D d50_1)
  obtain ⟨_, Ar2, -, S2, M2, -, -⟩ := id q1
  obtain ⟨v3, T3, L3, X3, Q3, st3⟩ := kS X1 hx hZ hown (t54 hw SB0 r1 (O0.keep K0 hws) q2 q3) (w_ hw 124 rfl) (w_ hw 125 rfl) (w_ hw 11 rfl) (w_ hw 126 rfl) e1 (g := (mkF m 23 #[vr r0, vr r1, vr r2, un, un, vi 16, un, un] [(.ref r1), (.int 15), (.ref r2)])) rfl hml rfl (argsL := [(.ref r1)]) (rest := [(.int 15), (.ref r2)]) (lenOf pd14 rfl) rfl rfl (W := 2) rfl (D d50_23)
  obtain ⟨rfl, M3, e3⟩ := Q3
  have N3 := N0.app M3
  obtain ⟨_, Ar4, -, S4, M4, H4, -⟩ := id q1
  obtain ⟨T5, X5, e5, st5⟩ := gF X3 hx hZ hown (w_ hw 402 rfl) Via.refl e3 q4 (g := (mkF m 37 #[vr r0, vr r1, vr r2, vr r3, un, vi 16, vi 97, un] [(.ref r3)])) rfl rfl (D d50_37)
  obtain ⟨T6, X6, e6, st6⟩ := gF X5 hx hZ hown (w_ hw 403 rfl) Via.refl e5 q5 (g := (mkF m 46 #[vr r0, vr r1, vr r2, vr r3, un, vi 16, vi 97, un] [(.ref r3)])) rfl rfl (D d50_46)
  refine ⟨(some (.ref r3)), T6, _, _, _, X6, (fun hh => by cases hh), (by rw [e6]; exact ⟨rfl, N3, rfl⟩), (by decide), (by decide), fun fs hr => pre0 _ ?_⟩
  show SA p e below s₁ m 0 #[vr r0, vr r1, un, un, un, un, un, un] [] _
  refine XS.aloadN X0.here hx rfl (D d50_0) rfl rfl ?_
  refine st1 _ ?_
  refine XS.dup X1.here hx rfl (D d50_4) rfl rfl ?_
  refine XS.astoreN X1.here hx rfl (D d50_5) rfl rfl (l' := #[vr r0, vr r1, vr r2, un, un, un, un, un]) rfl ?_
  refine XS.ifnullNo X1.here hx rfl (D d50_6) rfl ?_
  refine XS.aloadN X1.here hx rfl (D d50_9) rfl rfl ?_
  refine X1.arraylength hx (by rw [e1]; exact Ar2.1) (State.isArrayOf_alike hZ.alike Ar2.2.1) (g := (mkF m 10 #[vr r0, vr r1, vr r2, un, un, un, un, un] [(.ref r2)])) rfl rfl (D d50_10) _ ?_
  rw [len_of S2 M2]
  show SA p e below T1 m 11 #[vr r0, vr r1, vr r2, un, un, un, un, un] [(.int 16)] _
  refine XS.dup X1.here hx rfl (D d50_11) rfl rfl ?_
  refine XS.istore X1.here hx rfl (D d50_12) rfl (l' := #[vr r0, vr r1, vr r2, un, un, vi 16, un, un]) rfl ?_
  refine XS.ifNo X1.here hx rfl (D d50_14) rfl ((if0 _ _).trans (tlt (by decide : ((0 : Int32) < (16 : Int32)))).2.2.2) ?_
  refine XS.aloadN X1.here hx rfl (D d50_17) rfl rfl ?_
  refine XS.iload X1.here hx rfl (D d50_18) rfl ?_
  refine XS.iconst X1.here hx rfl (D d50_20) ?_
  refine XS.isub X1.here hx rfl (D d50_21) rfl ?_
  refine XS.aloadN X1.here hx rfl (D d50_22) rfl rfl ?_
  refine st3 _ ?_
  refine XS.dup X3.here hx rfl (D d50_26) rfl rfl ?_
  refine XS.istore X3.here hx rfl (D d50_27) rfl (l' := #[vr r0, vr r1, vr r2, un, un, vi 16, vi 97, un]) rfl ?_
  refine XS.iand X3.here hx rfl (D d50_29) rfl ?_
  refine X3.aaload hx (j := (1 : Int32)) (v := (.ref r3)) (by rw [e3]; exact Ar4.1) (State.isArrayOf_alike hZ.alike Ar4.2.1) rfl Ar4.2.2 (inb_of S4 ⟨by decide, by decide⟩) (Has.at H4 (inb_of S4 ⟨by decide, by decide⟩) rfl) (g := (mkF m 30 #[vr r0, vr r1, vr r2, un, un, vi 16, vi 97, un] [(.int 1), (.ref r2)])) rfl rfl (D d50_30) _ ?_
  show SA p e below T3 m 31 #[vr r0, vr r1, vr r2, un, un, vi 16, vi 97, un] [(.ref r3)] _
  refine XS.dup X3.here hx rfl (D d50_31) rfl rfl ?_
  refine XS.astoreN X3.here hx rfl (D d50_32) rfl rfl (l' := #[vr r0, vr r1, vr r2, vr r3, un, vi 16, vi 97, un]) rfl ?_
  refine XS.ifnullNo X3.here hx rfl (D d50_33) rfl ?_
  refine XS.aloadN X3.here hx rfl (D d50_36) rfl rfl ?_
  refine st5 _ ?_
  refine XS.iload X5.here hx rfl (D d50_40) rfl ?_
  refine XS.icmpNo X5.here hx rfl (D d50_42) rfl (teq (by decide : ((97 : Int32) = (97 : Int32)))).2 ?_
  refine XS.aloadN X5.here hx rfl (D d50_45) rfl rfl ?_
  refine st6 _ ?_
  refine XS.dup X6.here hx rfl (D d50_49) rfl rfl ?_
  refine XS.astore X6.here hx rfl (D d50_50) rfl rfl (l' := #[vr r0, vr r1, vr r2, vr r3, un, vi 16, vi 97, vr r1]) rfl ?_
  refine XS.aloadN X6.here hx rfl (D d50_52) rfl rfl ?_
  refine Jvm.RoadKit.acmp (g := (mkF m 53 #[vr r0, vr r1, vr r2, vr r3, un, vi 16, vi 97, vr r1] [(.ref r1), (.ref r1)])) X6 hx rfl rfl rfl (pc0 := 53) (pc' := 69) (same := true) rfl (D d50_53) rfl (decide_eq_true rfl) (by decide) (by decide) ?_
  show SA p e below T6 m 69 #[vr r0, vr r1, vr r2, vr r3, un, vi 16, vi 97, vr r1] [] _
  refine XS.aloadN X6.here hx rfl (D d50_69) rfl rfl ?_
  show SA p e below T6 m 70 #[vr r0, vr r1, vr r2, vr r3, un, vi 16, vi 97, vr r1] [(.ref r3)] _
  exact retOut X6 hx hrt rfl (Or.inr (Or.inr (Or.inr (Or.inr ⟨rfl, rfl, rfl⟩)))) (D d50_70) hr
theorem pd31 : parseMethodDescriptor "(Ljava/lang/Object;)Ljava/util/HashMap$Node;" = some ⟨[(.object "java/lang/Object")], some (.object "java/util/HashMap$Node")⟩ := by decide +kernel
theorem d49_5 : decode B49 5 = .ok (.dup, 1) := by decide +kernel
theorem d49_6 : decode B49 6 = .ok (.astore_n 2, 1) := by decide +kernel
theorem d49_7 : decode B49 7 = .ok (.ifnonnull 7, 3) := by decide +kernel
theorem d49_14 : decode B49 14 = .ok (.aload_n 2, 1) := by decide +kernel
theorem d49_15 : decode B49 15 = .ok (.getfield 162, 3) := by decide +kernel
theorem d49_18 : decode B49 18 = .ok (.areturn, 1) := by decide +kernel
abbrev y60 : MethodName := ⟨"java/util/HashMap", "get", "(Ljava/lang/Object;)Ljava/lang/Object;"⟩
/-- HashMap.get#0 -/
theorem t67 (hw : HW a0 Z) (SB0 : SB Z cv de ca) (r0 r1 r2 r3 : Addr) (k4 : ClassId) (r5 : Addr) (O0 : OL Z n0 h0) (q0 : E_7 Z h0 r0) (q1 : P3 Z h0 r0 (.ref r2)) (q2 : Arv Z h0 r2 k4 (.object "java/util/HashMap$Node") (16 : Int32) [.null, (.ref r3), .null, .null, .null, .null, .null, .null, .null, .null, .null, .null, .null, .null, .null, .null] .null) (q3 : E_2 Z h0 r1) (q4 : P12 Z h0 r1 (.int 97)) (q5 : P17 Z h0 r3 (.int 97)) (q6 : P18 Z h0 r3 (.ref r1)) (q7 : P19 Z h0 r3 (.ref r5))  : CT l Z y60 B49 3 (some (.object "java/lang/Object")) ⟨3, 0, 0, 47⟩ #[(.ref r0), (.ref r1)] h0 (QP0 (some (.ref r5)) h0 n0) := by
  refine ct_intro ?_
  intro p e s m below meth c s₁ E0 hx D hml hown hnm hrt X0 e0 hZ hE
  have Z0 := O0.le
  have K0 := Keep.refl h0 []
  have hws : ∀ w ∈ ([] : List Addr), n0 ≤ w := all0
  have N0 := Fr.nil n0
  have pre0 := ctp #[vr r0, vr r1, un] hE
  obtain ⟨v1, T1, L1, X1, Q1, st1⟩ := kV (y := y59) (z := y59) X0 hx hZ hown (t66 hw SB0 r0 r1 r2 r3 k4 (O0.keep K0 hws) q1 q2 q3 q4 q5 q6) q0 (nf_of (x := y25) (y' := y26) (args := #[]) (mvT hZ (w_ hw 118 rfl)) rfl) (w_ hw 397 rfl) (w_ hw 398 rfl) (w_ hw 400 rfl) (w_ hw 399 rfl) (w_ hw 11 rfl) (w_ hw 401 rfl) e0 (g := (mkF m 2 #[vr r0, vr r1, un] [(.ref r1), (.ref r0)])) rfl hml rfl (argsL := [(.ref r1)]) (rest := []) (lenOf pd31 rfl) rfl rfl (W := 0) rfl (D d49_2)
  obtain ⟨rfl, M1, e1⟩ := Q1
  have N1 := N0.app M1
  obtain ⟨T2, X2, e2, st2⟩ := gF X1 hx hZ hown (w_ hw 404 rfl) Via.refl e1 q7 (g := (mkF m 15 #[vr r0, vr r1, vr r3] [(.ref r3)])) rfl rfl (D d49_15)
  refine ⟨(some (.ref r5)), T2, _, _, _, X2, (fun hh => by cases hh), (by rw [e2]; exact ⟨rfl, N1, rfl⟩), (by decide), (by decide), fun fs hr => pre0 _ ?_⟩
  show SA p e below s₁ m 0 #[vr r0, vr r1, un] [] _
  refine XS.aloadN X0.here hx rfl (D d49_0) rfl rfl ?_
  refine XS.aloadN X0.here hx rfl (D d49_1) rfl rfl ?_
  refine st1 _ ?_
  refine XS.dup X1.here hx rfl (D d49_5) rfl rfl ?_
  refine XS.astoreN X1.here hx rfl (D d49_6) rfl rfl (l' := #[vr r0, vr r1, vr r3]) rfl ?_
  refine XS.ifnonnullYes X1.here hx rfl (pc0 := 7) (pc' := 14) rfl (D d49_7) rfl (by decide) (by decide) ?_
  refine XS.aloadN X1.here hx rfl (D d49_14) rfl rfl ?_
  refine st2 _ ?_
  show SA p e below T2 m 18 #[vr r0, vr r1, vr r3] [(.ref r5)] _
  exact retOut X2 hx hrt rfl (Or.inr (Or.inr (Or.inr (Or.inr ⟨rfl, rfl, rfl⟩)))) (D d49_18) hr
theorem pd32 : parseMethodDescriptor "(Ljava/lang/Object;)Ljava/lang/Object;" = some ⟨[(.object "java/lang/Object")], some (.object "java/lang/Object")⟩ := by decide +kernel
abbrev y61 : MethodName := ⟨"java/util/Map", "get", "(Ljava/lang/Object;)Ljava/lang/Object;"⟩
theorem iw10 {a0 Z} (hw : HW a0 Z) : IFW a0 Z "java/util/HashMap" y61 y60 B49 3 (some (.object "java/lang/Object")) := ⟨(w_ hw 390 rfl), (w_ hw 392 rfl), (w_ hw 393 rfl), (w_ hw 394 rfl), (w_ hw 395 rfl), (w_ hw 349 rfl), (w_ hw 11 rfl), (w_ hw 396 rfl)⟩
theorem d31_159 : decode B31 159 = .ok (.checkcast 46, 3) := by decide +kernel
theorem d31_162 : decode B31 162 = .ok (.invokevirtual 72, 3) := by decide +kernel
abbrev B51 := jdk_33_method_27_code
theorem d51_0 : decode B51 0 = .ok (.aload_n 0, 1) := by decide +kernel
theorem d51_1 : decode B51 1 = .ok (.getfield 205, 3) := by decide +kernel
theorem d51_4 : decode B51 4 = .ok (.ireturn, 1) := by decide +kernel
abbrev y62 : MethodName := ⟨"java/lang/Integer", "intValue", "()I"⟩
/-- Integer.intValue#0 -/
theorem t68 (hw : HW a0 Z) (SB0 : SB Z cv de ca) (r0 : Addr) (O0 : OL Z n0 h0) (q0 : P36 Z h0 r0 (.int 0))  : CT l Z y62 B51 1 (some .int) ⟨0, 0, 0, 0⟩ #[(.ref r0)] h0 (QP0 (some (.int 0)) h0 n0) := by
  refine ct_intro ?_
  intro p e s m below meth c s₁ E0 hx D hml hown hnm hrt X0 e0 hZ hE
  have N0 := Fr.nil n0
  have pre0 := ctp #[vr r0] hE
  obtain ⟨T1, X1, e1, st1⟩ := gF X0 hx hZ hown (w_ hw 412 rfl) Via.refl e0 q0 (g := (mkF m 1 #[vr r0] [(.ref r0)])) rfl rfl (D d51_1)
  refine ⟨(some (.int 0)), T1, _, _, _, X1, (fun hh => by cases hh), (by rw [e1]; exact ⟨rfl, N0, rfl⟩), (by decide), (by decide), fun fs hr => pre0 _ ?_⟩
  show SA p e below s₁ m 0 #[vr r0] [] _
  refine XS.aloadN X0.here hx rfl (D d51_0) rfl rfl ?_
  refine st1 _ ?_
  show SA p e below T1 m 4 #[vr r0] [(.int 0)] _
  exact retOut X1 hx hrt rfl (Or.inl ⟨rfl, Or.inl rfl, _, rfl⟩) (D d51_4) hr
theorem d31_165 : decode B31 165 = .ok (.aload 5, 2) := by decide +kernel
theorem d31_167 : decode B31 167 = .ok (.invokeinterface 55 1, 5) := by decide +kernel
theorem d31_172 : decode B31 172 = .ok (.checkcast 58, 3) := by decide +kernel
theorem d31_175 : decode B31 175 = .ok (.invokeinterface 60 1, 5) := by decide +kernel
theorem d31_180 : decode B31 180 = .ok (.iadd, 1) := by decide +kernel
theorem d31_181 : decode B31 181 = .ok (.iconst 1, 1) := by decide +kernel
theorem d31_182 : decode B31 182 = .ok (.isub, 1) := by decide +kernel
theorem d31_183 : decode B31 183 = .ok (.iconst 1, 1) := by decide +kernel
theorem d31_184 : decode B31 184 = .ok (.bastore, 1) := by decide +kernel
theorem d31_185 : decode B31 185 = .ok (.goto (-68), 3) := by decide +kernel
theorem d31_188 : decode B31 188 = .ok (.aload_n 2, 1) := by decide +kernel
theorem d31_189 : decode B31 189 = .ok (.invokeinterface 60 1, 5) := by decide +kernel
theorem d31_194 : decode B31 194 = .ok (.newarray .int, 2) := by decide +kernel
theorem d31_196 : decode B31 196 = .ok (.astore 4, 2) := by decide +kernel
theorem d31_198 : decode B31 198 = .ok (.aload_n 2, 1) := by decide +kernel
theorem d31_199 : decode B31 199 = .ok (.invokeinterface 60 1, 5) := by decide +kernel
theorem d31_204 : decode B31 204 = .ok (.newarray .int, 2) := by decide +kernel
theorem d31_206 : decode B31 206 = .ok (.astore 5, 2) := by decide +kernel
theorem d31_208 : decode B31 208 = .ok (.iconst 0, 1) := by decide +kernel
theorem d31_209 : decode B31 209 = .ok (.istore 6, 2) := by decide +kernel
theorem d31_211 : decode B31 211 = .ok (.iload 6, 2) := by decide +kernel
theorem d31_213 : decode B31 213 = .ok (.aload_n 2, 1) := by decide +kernel
theorem d31_214 : decode B31 214 = .ok (.invokeinterface 60 1, 5) := by decide +kernel
theorem d31_219 : decode B31 219 = .ok (.if_icmp .ge 55, 3) := by decide +kernel
theorem d31_274 : decode B31 274 = .ok (.aload_n 0, 1) := by decide +kernel
theorem d31_275 : decode B31 275 = .ok (.iload_n 3, 1) := by decide +kernel
theorem d31_276 : decode B31 276 = .ok (.iconst 1, 1) := by decide +kernel
theorem d31_277 : decode B31 277 = .ok (.iadd, 1) := by decide +kernel
theorem d31_278 : decode B31 278 = .ok (.newarray .int, 2) := by decide +kernel
theorem d31_280 : decode B31 280 = .ok (.putfield 91, 3) := by decide +kernel
abbrev S_32 (Z : State) := Jvm.RoadKit.slotOf Z "com/example/derivant/derivant/model/NextStateRelation" "targetStarts" "[I"
theorem ly32 {a0 Z} (hw : HW a0 Z) : Laid Z a0 "com/example/derivant/derivant/model/NextStateRelation" "com/example/derivant/derivant/model/NextStateRelation" "targetStarts" "[I" := (Or.inr (w_ hw 416 rfl))
theorem pf14 : parseFieldDescriptor "[I" = some (.array .int) := by decide
theorem sn80 {a0 Z} (hw : HW a0 Z) : S_32 Z ≠ S_31 Z := Jvm.RoadKit.slot_ne (ly32 hw) (ly31 hw) (by decide) pf14 pf13
theorem sn81 {a0 Z} (hw : HW a0 Z) : S_32 Z ≠ S_30 Z := Jvm.RoadKit.slot_ne (ly32 hw) (ly30 hw) (by decide) pf14 pf12
theorem d31_283 : decode B31 283 = .ok (.aload_n 0, 1) := by decide +kernel
theorem d31_284 : decode B31 284 = .ok (.aload 5, 2) := by decide +kernel
theorem d31_286 : decode B31 286 = .ok (.aload 4, 2) := by decide +kernel
theorem d31_288 : decode B31 288 = .ok (.aload_n 0, 1) := by decide +kernel
theorem d31_289 : decode B31 289 = .ok (.getfield 91, 3) := by decide +kernel
theorem d31_292 : decode B31 292 = .ok (.invokestatic 95, 3) := by decide +kernel
abbrev B52 := prog_25_method_11_code
theorem d52_0 : decode B52 0 = .ok (.aload_n 1, 1) := by decide +kernel
theorem d52_1 : decode B52 1 = .ok (.astore_n 3, 1) := by decide +kernel
theorem d52_2 : decode B52 2 = .ok (.aload_n 3, 1) := by decide +kernel
theorem d52_3 : decode B52 3 = .ok (.arraylength, 1) := by decide +kernel
theorem d52_4 : decode B52 4 = .ok (.istore 4, 2) := by decide +kernel
theorem d52_6 : decode B52 6 = .ok (.iconst 0, 1) := by decide +kernel
theorem d52_7 : decode B52 7 = .ok (.istore 5, 2) := by decide +kernel
theorem d52_9 : decode B52 9 = .ok (.iload 5, 2) := by decide +kernel
theorem d52_11 : decode B52 11 = .ok (.iload 4, 2) := by decide +kernel
theorem d52_13 : decode B52 13 = .ok (.if_icmp .ge 25, 3) := by decide +kernel
theorem d52_38 : decode B52 38 = .ok (.iconst 0, 1) := by decide +kernel
theorem d52_39 : decode B52 39 = .ok (.istore_n 3, 1) := by decide +kernel
abbrev E_13 (Z : State) (h : Heap) (a : Addr) : Prop := Exa Z h a "[I"
theorem d52_40 : decode B52 40 = .ok (.iload_n 3, 1) := by decide +kernel
theorem d52_41 : decode B52 41 = .ok (.iconst 1, 1) := by decide +kernel
theorem d52_42 : decode B52 42 = .ok (.iadd, 1) := by decide +kernel
theorem d52_43 : decode B52 43 = .ok (.aload_n 2, 1) := by decide +kernel
theorem d52_44 : decode B52 44 = .ok (.arraylength, 1) := by decide +kernel
theorem d52_45 : decode B52 45 = .ok (.if_icmp .ge 20, 3) := by decide +kernel
theorem d52_48 : decode B52 48 = .ok (.aload_n 2, 1) := by decide +kernel
theorem d52_49 : decode B52 49 = .ok (.iload_n 3, 1) := by decide +kernel
theorem d52_50 : decode B52 50 = .ok (.iconst 1, 1) := by decide +kernel
theorem d52_51 : decode B52 51 = .ok (.iadd, 1) := by decide +kernel
theorem d52_52 : decode B52 52 = .ok (.dup2, 1) := by decide +kernel
theorem d52_53 : decode B52 53 = .ok (.iaload, 1) := by decide +kernel
theorem d52_54 : decode B52 54 = .ok (.aload_n 2, 1) := by decide +kernel
theorem d52_55 : decode B52 55 = .ok (.iload_n 3, 1) := by decide +kernel
theorem d52_56 : decode B52 56 = .ok (.iaload, 1) := by decide +kernel
theorem d52_57 : decode B52 57 = .ok (.iadd, 1) := by decide +kernel
theorem d52_58 : decode B52 58 = .ok (.iastore, 1) := by decide +kernel
theorem d52_59 : decode B52 59 = .ok (.iinc 3 1, 3) := by decide +kernel
theorem d52_62 : decode B52 62 = .ok (.goto (-22), 3) := by decide +kernel
theorem d52_65 : decode B52 65 = .ok (.aload_n 0, 1) := by decide +kernel
theorem d52_66 : decode B52 66 = .ok (.arraylength, 1) := by decide +kernel
theorem d52_67 : decode B52 67 = .ok (.newarray .int, 2) := by decide +kernel
theorem d52_69 : decode B52 69 = .ok (.astore_n 3, 1) := by decide +kernel
theorem d52_70 : decode B52 70 = .ok (.aload_n 2, 1) := by decide +kernel
theorem d52_71 : decode B52 71 = .ok (.invokevirtual 153, 3) := by decide +kernel
theorem d52_74 : decode B52 74 = .ok (.checkcast 154, 3) := by decide +kernel
theorem d52_77 : decode B52 77 = .ok (.astore 4, 2) := by decide +kernel
theorem d52_79 : decode B52 79 = .ok (.iconst 0, 1) := by decide +kernel
theorem d52_80 : decode B52 80 = .ok (.istore 5, 2) := by decide +kernel
theorem d52_82 : decode B52 82 = .ok (.iload 5, 2) := by decide +kernel
theorem d52_84 : decode B52 84 = .ok (.aload_n 0, 1) := by decide +kernel
theorem d52_85 : decode B52 85 = .ok (.arraylength, 1) := by decide +kernel
theorem d52_86 : decode B52 86 = .ok (.if_icmp .ge 33, 3) := by decide +kernel
theorem d52_119 : decode B52 119 = .ok (.aload_n 3, 1) := by decide +kernel
theorem d52_120 : decode B52 120 = .ok (.areturn, 1) := by decide +kernel
abbrev y63 : MethodName := ⟨"com/example/derivant/derivant/model/NextStateRelation", "group", "([I[I[I)[I"⟩
def Q69 (Z : State) (cv : Int32) (de ca : Addr) (r0 r1 r2 : Addr) (k3 k4 : ClassId) (i5 : Int32) (k6 : ClassId) (h0 : Heap) (n0 : Nat) (v : Option Value) (h : Heap) (L : List Loc) : Prop := ∃ (b13 : Addr) (c13 : ClassId), v = (some (.ref b13)) ∧ Fr n0 L ∧ Keep h0 h [r2] ∧ h0.size ≤ b13 ∧ Arv Z h r2 k4 .int i5 [] (.int 0) ∧ E_13 Z h b13 ∧ Arv Z h b13 c13 .int (0 : Int32) [] (.int 0)
/-- NextStateRelation.group#0 -/
theorem t69 (hw : HW a0 Z) (SB0 : SB Z cv de ca) (r0 r1 r2 : Addr) (k3 k4 : ClassId) (i5 : Int32) (k6 : ClassId) (O0 : OL Z n0 h0) (q0 : Arv Z h0 r1 k3 .int (0 : Int32) [] (.int 0)) (q1 : E_13 Z h0 r2) (q2 : Arv Z h0 r2 k4 .int i5 [] (.int 0)) (q3 : BD1 i5) (q4 : Arv Z h0 r0 k6 .int (0 : Int32) [] (.int 0)) (q5 : E_13 Z h0 r0) (q6 : r0 ≠ r2) (ge0 : n0 ≤ r2) : CT l Z y63 B52 7 (some (.array .int)) ⟨1, 2, 13, 14⟩ #[(.ref r0), (.ref r1), (.ref r2)] h0 (Q69 Z cv de ca r0 r1 r2 k3 k4 i5 k6 h0 n0) := by
  refine ct_intro ?_
  intro p e s m below meth c s₁ E0 hx D hml hown hnm hrt X0 e0 hZ hE
  have Z0 := O0.le
  have K0 := Keep.refl h0 [r2]
  have hws : ∀ w ∈ ([r2] : List Addr), n0 ≤ w := (allS ge0 all0)
  have N0 := Fr.nil n0
  have pre0 := ctp #[vr r0, vr r1, vr r2, un, un, un, un] hE
  have nin_r0 : r0 ∉ ([r2] : List Addr) := (ninS q6 nin0)
  obtain ⟨_, Ar1, -, S1, M1, -, -⟩ := id q0
  have pre2 : ∀ t, SA p e below s₁ m 40 #[vr r0, vr r1, vr r2, vi 0, vi 0, vi 0, un] [] t → Steps p.tables e below E0 t := fun tt kk => pre0 tt (by
    show SA p e below s₁ m 0 #[vr r0, vr r1, vr r2, un, un, un, un] [] _
    refine XS.aloadN X0.here hx rfl (D d52_0) rfl rfl ?_
    refine XS.astoreN X0.here hx rfl (D d52_1) rfl rfl (l' := #[vr r0, vr r1, vr r2, vr r1, un, un, un]) rfl ?_
    refine XS.aloadN X0.here hx rfl (D d52_2) rfl rfl ?_
    refine X0.arraylength hx (by rw [e0]; exact Ar1.1) (State.isArrayOf_alike hZ.alike Ar1.2.1) (g := (mkF m 3 #[vr r0, vr r1, vr r2, vr r1, un, un, un] [(.ref r1)])) rfl rfl (D d52_3) _ ?_
    rw [len_of S1 M1]
    show SA p e below s₁ m 4 #[vr r0, vr r1, vr r2, vr r1, un, un, un] [(.int 0)] _
    refine XS.istore X0.here hx rfl (D d52_4) rfl (l' := #[vr r0, vr r1, vr r2, vr r1, vi 0, un, un]) rfl ?_
    refine XS.iconst X0.here hx rfl (D d52_6) ?_
    refine XS.istore X0.here hx rfl (D d52_7) rfl (l' := #[vr r0, vr r1, vr r2, vr r1, vi 0, vi 0, un]) rfl ?_
    refine XS.iload X0.here hx rfl (D d52_9) rfl ?_
    refine XS.iload X0.here hx rfl (D d52_11) rfl ?_
    refine XS.icmpYes X0.here hx rfl (pc0 := 13) (pc' := 38) rfl (D d52_13) rfl (flt (by decide : ¬ ((0 : Int32) < (0 : Int32)))).2.1 (by decide) (by decide) ?_
    refine XS.iconst X0.here hx rfl (D d52_38) ?_
    refine XS.istoreN X0.here hx rfl (D d52_39) rfl (l' := #[vr r0, vr r1, vr r2, vi 0, vi 0, vi 0, un]) rfl ?_
    exact kk)
  obtain ⟨kk, hkk, hnn⟩ := id q3
  obtain ⟨-, -, -, -, -, gcap, gnn⟩ := gl0 kk hkk 0 (Nat.zero_le _)
  rw [← hnn] at gcap gnn
  have loop : ∀ (d j : Nat), j + d = kk → ∀ (T : State) (h : Heap) (LL : List Loc), Stand p l e (⟨1, 2, 13, 14⟩ : Room) s m #[(.ref r0), (.ref r1), (.ref r2)] below meth c T LL 0 0 → T.heap = h → Keep h0 h [r2] → Fr n0 LL → Arv Z h r2 k4 .int i5 [] (.int 0) → (∀ t, SA p e below T m 40 #[vr r0, vr r1, vr r2, vi j.toInt32, vi 0, vi 0, un] [] t → Steps p.tables e below E0 t) → ∃ (T' : State) (h' : Heap) (LL' : List Loc), Stand p l e (⟨1, 2, 13, 14⟩ : Room) s m #[(.ref r0), (.ref r1), (.ref r2)] below meth c T' LL' 0 0 ∧ T'.heap = h' ∧ Keep h0 h' [r2] ∧ Fr n0 LL' ∧ Arv Z h' r2 k4 .int i5 [] (.int 0) ∧ ∀ t, SA p e below T' m 65 #[vr r0, vr r1, vr r2, vi kk.toInt32, vi 0, vi 0, un] [] t → Steps p.tables e below E0 t := by
    intro d
    induction d with
    | zero =>
      intro j hj T h LL X eT K N A pre
      obtain ⟨b1, b2, b3, b4, b5, -, -⟩ := gl0 kk hkk j (by omega)
      rw [← hnn] at b3 b4
      have b6 : ¬ ((j.toInt32 + (1 : Int32)) < i5) := fun q => absurd (b4.mp q) (by omega)
      obtain ⟨_, Ar3, -, S3, M3, -, -⟩ := id A
      obtain rfl : j = kk := by omega
      exact ⟨T, h, LL, X, eT, K, N, A, fun tt kq => pre tt (by
        show SA p e below T m 40 #[vr r0, vr r1, vr r2, vi j.toInt32, vi 0, vi 0, un] [] _
        refine XS.iloadN X.here hx rfl (D d52_40) rfl ?_
        refine XS.iconst X.here hx rfl (D d52_41) ?_
        refine XS.iadd X.here hx rfl (D d52_42) rfl ?_
        refine XS.aloadN X.here hx rfl (D d52_43) rfl rfl ?_
        refine X.arraylength hx (by rw [eT]; exact Ar3.1) (State.isArrayOf_alike hZ.alike Ar3.2.1) (g := (mkF m 44 #[vr r0, vr r1, vr r2, vi j.toInt32, vi 0, vi 0, un] [(.ref r2), (.int (j.toInt32 + (1 : Int32)))])) rfl rfl (D d52_44) _ ?_
        rw [len_of S3 M3]
        show SA p e below T m 45 #[vr r0, vr r1, vr r2, vi j.toInt32, vi 0, vi 0, un] [(.int i5), (.int (j.toInt32 + (1 : Int32)))] _
        refine XS.icmpYes X.here hx rfl (pc0 := 45) (pc' := 65) rfl (D d52_45) rfl (flt b6).2.1 (by decide) (by decide) ?_
        exact kq)⟩
    | succ d ih =>
      intro j hj T h LL X eT K N A pre
      obtain ⟨b1, b2, b3, b4, b5, -, -⟩ := gl0 kk hkk j (by omega)
      rw [← hnn] at b3 b4
      have b6 : (j.toInt32 + (1 : Int32)) < i5 := b4.mpr (by omega)
      obtain ⟨_, Ar4, -, S4, M4, -, -⟩ := id A
      obtain ⟨_, Ar5, -, S5, M5, H5, -⟩ := id A
      obtain ⟨_, Ar6, -, S6, M6, H6, -⟩ := id A
      obtain ⟨_, Ar7, C7, S7, M7, H7, G7⟩ := id A
      obtain ⟨T8, h8, X8, e8, W8, st8⟩ := stI X hx hZ eT Ar7 (j := (j.toInt32 + (1 : Int32))) (inb_of S7 ⟨b2, b6⟩) (g := (mkF m 58 #[vr r0, vr r1, vr r2, vi j.toInt32, vi 0, vi 0, un] [(.int 0), (.int (j.toInt32 + (1 : Int32))), (.ref r2)])) rfl rfl (D d52_58)
      have N8 := Fr.snoc X8 N ge0
      have k8 := K.wr W8 (Or.inl (List.mem_of_getElem? (i := 0) rfl))
      have v8 := Arv.zset A W8
      have pre9 : ∀ t, SA p e below T8 m 40 #[vr r0, vr r1, vr r2, vi (j.toInt32 + (1 : Int32)), vi 0, vi 0, un] [] t → Steps p.tables e below E0 t := fun tt kk => pre tt (by
        show SA p e below T m 40 #[vr r0, vr r1, vr r2, vi j.toInt32, vi 0, vi 0, un] [] _
        refine XS.iloadN X.here hx rfl (D d52_40) rfl ?_
        refine XS.iconst X.here hx rfl (D d52_41) ?_
        refine XS.iadd X.here hx rfl (D d52_42) rfl ?_
        refine XS.aloadN X.here hx rfl (D d52_43) rfl rfl ?_
        refine X.arraylength hx (by rw [eT]; exact Ar4.1) (State.isArrayOf_alike hZ.alike Ar4.2.1) (g := (mkF m 44 #[vr r0, vr r1, vr r2, vi j.toInt32, vi 0, vi 0, un] [(.ref r2), (.int (j.toInt32 + (1 : Int32)))])) rfl rfl (D d52_44) _ ?_
        rw [len_of S4 M4]
        show SA p e below T m 45 #[vr r0, vr r1, vr r2, vi j.toInt32, vi 0, vi 0, un] [(.int i5), (.int (j.toInt32 + (1 : Int32)))] _
        refine XS.icmpNo X.here hx rfl (D d52_45) rfl (tlt b6).2.1 ?_
        refine XS.aloadN X.here hx rfl (D d52_48) rfl rfl ?_
        refine XS.iloadN X.here hx rfl (D d52_49) rfl ?_
        refine XS.iconst X.here hx rfl (D d52_50) ?_
        refine XS.iadd X.here hx rfl (D d52_51) rfl ?_
        refine Jvm.Free.XT.dup2 X.here hx rfl (D d52_52) rfl rfl rfl ?_
        refine X.iaload hx (j := (j.toInt32 + (1 : Int32))) (v := .int 0) (by rw [eT]; exact Ar5.1) (State.isArrayOf_alike hZ.alike Ar5.2.1) Ar5.2.2 (inb_of S5 ⟨b2, b6⟩) (Has.at H5 (inb_of S5 ⟨b2, b6⟩) rfl) (g := (mkF m 53 #[vr r0, vr r1, vr r2, vi j.toInt32, vi 0, vi 0, un] [(.int (j.toInt32 + (1 : Int32))), (.ref r2), (.int (j.toInt32 + (1 : Int32))), (.ref r2)])) rfl rfl (D d52_53) _ ?_
        show SA p e below T m 54 #[vr r0, vr r1, vr r2, vi j.toInt32, vi 0, vi 0, un] [(.int 0), (.int (j.toInt32 + (1 : Int32))), (.ref r2)] _
        refine XS.aloadN X.here hx rfl (D d52_54) rfl rfl ?_
        refine XS.iloadN X.here hx rfl (D d52_55) rfl ?_
        refine X.iaload hx (j := j.toInt32) (v := .int 0) (by rw [eT]; exact Ar6.1) (State.isArrayOf_alike hZ.alike Ar6.2.1) Ar6.2.2 (inb_of S6 ⟨b1, b3⟩) (Has.at H6 (inb_of S6 ⟨b1, b3⟩) rfl) (g := (mkF m 56 #[vr r0, vr r1, vr r2, vi j.toInt32, vi 0, vi 0, un] [(.int j.toInt32), (.ref r2), (.int 0), (.int (j.toInt32 + (1 : Int32))), (.ref r2)])) rfl rfl (D d52_56) _ ?_
        show SA p e below T m 57 #[vr r0, vr r1, vr r2, vi j.toInt32, vi 0, vi 0, un] [(.int 0), (.int 0), (.int (j.toInt32 + (1 : Int32))), (.ref r2)] _
        refine XS.iadd X.here hx rfl (D d52_57) rfl ?_
        refine st8 _ ?_
        refine XS.iinc X8.here hx rfl (D d52_59) rfl (l' := #[vr r0, vr r1, vr r2, vi (j.toInt32 + (1 : Int32)), vi 0, vi 0, un]) rfl ?_
        refine XS.goto X8.here hx rfl (pc0 := 62) (pc' := 40) rfl (D d52_62) (by decide) (by decide) ?_
        exact kk)
      rw [b5] at pre9
      exact ih (j + 1) (by omega) T8 h8 _ X8 e8 k8 N8 v8 pre9
  obtain ⟨T10, h10, LL10, X10, e10, k10, N10, v10, pre10⟩ := loop kk 0 (Nat.zero_add _) s₁ h0 _ X0 e0 K0 N0 q2 pre2
  have K10 := k10
  have f11 := q4.keep k10 nin_r0
  obtain ⟨_, Ar12, -, S12, M12, -, -⟩ := id f11
  obtain ⟨T13, h13, c13, X13, e13, E13, A13, B13, st13⟩ := newPE X10 hx hZ (w_ hw 414 rfl) e10 (g := (mkF m 67 #[vr r0, vr r1, vr r2, vi kk.toInt32, vi 0, vi 0, un] [(.int 0)])) rfl (D d52_67) rfl (by decide) (cap := 0) (by decide) (by decide) (by decide) (by decide) (ad := "[I") (by decide)
  obtain ⟨b13, g13⟩ : ∃ z, z = h10.size := ⟨_, rfl⟩
  rw [← g13] at A13 B13 st13
  have z13 : h0.size ≤ b13 := Nat.le_trans k10.1 (Nat.le_of_eq g13.symm)
  have k13 := k10.ext E13
  have v13 : Arv Z h13 b13 c13 .int (0 : Int32) [] (.int 0) := (Arv.new A13 (by decide)).pad (pad_rep [] (.int 0) 0)
  have f14 := (v10.ext E13)
  have f15 := ((q1.keep K10).ext E13)
  obtain ⟨T16, h16, X16, e16, E16, A16, B16, st16⟩ := cloneH X13 hx hZ hown (w_ hw 420 rfl) (w_ hw 421 rfl) (w_ hw 425 rfl) (w_ hw 423 rfl) (w_ hw 424 rfl) (w_ hw 426 rfl) e13 (Arv.arh f14) f15 (g := (mkF m 71 #[vr r0, vr r1, vr r2, vr b13, vi 0, vi 0, un] [(.ref r2)])) rfl (by rw [hml]; rfl) rfl (D d52_71) (by decide) (W := 0) (by show 2 * 0 + _ ≤ _; exact Nat.le_of_eq rfl) (by decide) (cap := 13) gcap (by decide) (by decide)
  obtain ⟨b16, g16⟩ : ∃ z, z = h13.size := ⟨_, rfl⟩
  rw [← g16] at A16 B16 st16
  have z16 : h0.size ≤ b16 := Nat.le_trans k13.1 (Nat.le_of_eq g16.symm)
  have k16 := k13.ext E16
  obtain ⟨T17, X17, e17, st17⟩ := castY X16 hx hZ hown (w_ hw 427 rfl) e16 (Ins.self B16) (g := (mkF m 74 #[vr r0, vr r1, vr r2, vr b13, vi 0, vi 0, un] [(.ref b16)])) rfl rfl (D d52_74)
  have f18 := q4.keep k16 nin_r0
  obtain ⟨_, Ar19, -, S19, M19, -, -⟩ := id f18
  have f20 := (f14.ext E16)
  have f21 := (B13.ext E16)
  have f22 := (v13.ext E16)
  refine ⟨(some (.ref b13)), T17, _, _, _, X17, (fun hh => by cases hh), (by rw [e17]; exact ⟨b13, c13, rfl, N10, k16, z13, f20, f21, f22⟩), (by decide), (by decide), fun fs hr => pre10 _ ?_⟩
  show SA p e below T10 m 65 #[vr r0, vr r1, vr r2, vi kk.toInt32, vi 0, vi 0, un] [] _
  refine XS.aloadN X10.here hx rfl (D d52_65) rfl rfl ?_
  refine X10.arraylength hx (by rw [e10]; exact Ar12.1) (State.isArrayOf_alike hZ.alike Ar12.2.1) (g := (mkF m 66 #[vr r0, vr r1, vr r2, vi kk.toInt32, vi 0, vi 0, un] [(.ref r0)])) rfl rfl (D d52_66) _ ?_
  rw [len_of S12 M12]
  show SA p e below T10 m 67 #[vr r0, vr r1, vr r2, vi kk.toInt32, vi 0, vi 0, un] [(.int 0)] _
  refine st13 _ ?_
  refine XS.astoreN X13.here hx rfl (D d52_69) rfl rfl (l' := #[vr r0, vr r1, vr r2, vr b13, vi 0, vi 0, un]) rfl ?_
  refine XS.aloadN X13.here hx rfl (D d52_70) rfl rfl ?_
  refine st16 _ ?_
  refine st17 _ ?_
  refine XS.astore X17.here hx rfl (D d52_77) rfl rfl (l' := #[vr r0, vr r1, vr r2, vr b13, vr b16, vi 0, un]) rfl ?_
  refine XS.iconst X17.here hx rfl (D d52_79) ?_
  refine XS.istore X17.here hx rfl (D d52_80) rfl (l' := #[vr r0, vr r1, vr r2, vr b13, vr b16, vi 0, un]) rfl ?_
  refine XS.iload X17.here hx rfl (D d52_82) rfl ?_
  refine XS.aloadN X17.here hx rfl (D d52_84) rfl rfl ?_
  refine X17.arraylength hx (by rw [e17]; exact Ar19.1) (State.isArrayOf_alike hZ.alike Ar19.2.1) (g := (mkF m 85 #[vr r0, vr r1, vr r2, vr b13, vr b16, vi 0, un] [(.ref r0), (.int 0)])) rfl rfl (D d52_85) _ ?_
  rw [len_of S19 M19]
  show SA p e below T17 m 86 #[vr r0, vr r1, vr r2, vr b13, vr b16, vi 0, un] [(.int 0), (.int 0)] _
  refine XS.icmpYes X17.here hx rfl (pc0 := 86) (pc' := 119) rfl (D d52_86) rfl (flt (by decide : ¬ ((0 : Int32) < (0 : Int32)))).2.1 (by decide) (by decide) ?_
  refine XS.aloadN X17.here hx rfl (D d52_119) rfl rfl ?_
  show SA p e below T17 m 120 #[vr r0, vr r1, vr r2, vr b13, vr b16, vi 0, un] [(.ref b13)] _
  exact retOut X17 hx hrt rfl (Or.inr (Or.inr (Or.inr (Or.inr ⟨rfl, rfl, rfl⟩)))) (D d52_120) hr
theorem pd33 : parseMethodDescriptor "([I[I[I)[I" = some ⟨[(.array .int), (.array .int), (.array .int)], some (.array .int)⟩ := by decide +kernel
theorem d31_295 : decode B31 295 = .ok (.putfield 99, 3) := by decide +kernel
abbrev S_33 (Z : State) := Jvm.RoadKit.slotOf Z "com/example/derivant/derivant/model/NextStateRelation" "messageTargets" "[I"
theorem ly33 {a0 Z} (hw : HW a0 Z) : Laid Z a0 "com/example/derivant/derivant/model/NextStateRelation" "com/example/derivant/derivant/model/NextStateRelation" "messageTargets" "[I" := (Or.inr (w_ hw 430 rfl))
theorem sn82 {a0 Z} (hw : HW a0 Z) : S_33 Z ≠ S_31 Z := Jvm.RoadKit.slot_ne (ly33 hw) (ly31 hw) (by decide) pf14 pf13
theorem sn83 {a0 Z} (hw : HW a0 Z) : S_33 Z ≠ S_30 Z := Jvm.RoadKit.slot_ne (ly33 hw) (ly30 hw) (by decide) pf14 pf12
theorem sn84 {a0 Z} (hw : HW a0 Z) : S_33 Z ≠ S_32 Z := Jvm.RoadKit.slot_ne (ly33 hw) (ly32 hw) (by decide) pf14 pf14
theorem d31_298 : decode B31 298 = .ok (.aload_n 0, 1) := by decide +kernel
theorem d31_299 : decode B31 299 = .ok (.iload_n 3, 1) := by decide +kernel
theorem d31_300 : decode B31 300 = .ok (.iconst 1, 1) := by decide +kernel
theorem d31_301 : decode B31 301 = .ok (.iadd, 1) := by decide +kernel
theorem d31_302 : decode B31 302 = .ok (.newarray .int, 2) := by decide +kernel
theorem d31_304 : decode B31 304 = .ok (.putfield 102, 3) := by decide +kernel
abbrev S_34 (Z : State) := Jvm.RoadKit.slotOf Z "com/example/derivant/derivant/model/NextStateRelation" "sourceStarts" "[I"
theorem ly34 {a0 Z} (hw : HW a0 Z) : Laid Z a0 "com/example/derivant/derivant/model/NextStateRelation" "com/example/derivant/derivant/model/NextStateRelation" "sourceStarts" "[I" := (Or.inr (w_ hw 432 rfl))
theorem sn85 {a0 Z} (hw : HW a0 Z) : S_34 Z ≠ S_31 Z := Jvm.RoadKit.slot_ne (ly34 hw) (ly31 hw) (by decide) pf14 pf13
theorem sn86 {a0 Z} (hw : HW a0 Z) : S_34 Z ≠ S_30 Z := Jvm.RoadKit.slot_ne (ly34 hw) (ly30 hw) (by decide) pf14 pf12
theorem sn87 {a0 Z} (hw : HW a0 Z) : S_34 Z ≠ S_32 Z := Jvm.RoadKit.slot_ne (ly34 hw) (ly32 hw) (by decide) pf14 pf14
theorem sn88 {a0 Z} (hw : HW a0 Z) : S_34 Z ≠ S_33 Z := Jvm.RoadKit.slot_ne (ly34 hw) (ly33 hw) (by decide) pf14 pf14
theorem d31_307 : decode B31 307 = .ok (.aload_n 0, 1) := by decide +kernel
theorem d31_308 : decode B31 308 = .ok (.aload 4, 2) := by decide +kernel
theorem d31_310 : decode B31 310 = .ok (.aload 5, 2) := by decide +kernel
theorem d31_312 : decode B31 312 = .ok (.aload_n 0, 1) := by decide +kernel
theorem d31_313 : decode B31 313 = .ok (.getfield 102, 3) := by decide +kernel
theorem d31_316 : decode B31 316 = .ok (.invokestatic 95, 3) := by decide +kernel
theorem d31_319 : decode B31 319 = .ok (.putfield 105, 3) := by decide +kernel
abbrev S_35 (Z : State) := Jvm.RoadKit.slotOf Z "com/example/derivant/derivant/model/NextStateRelation" "messageSources" "[I"
theorem ly35 {a0 Z} (hw : HW a0 Z) : Laid Z a0 "com/example/derivant/derivant/model/NextStateRelation" "com/example/derivant/derivant/model/NextStateRelation" "messageSources" "[I" := (Or.inr (w_ hw 434 rfl))
theorem sn89 {a0 Z} (hw : HW a0 Z) : S_35 Z ≠ S_31 Z := Jvm.RoadKit.slot_ne (ly35 hw) (ly31 hw) (by decide) pf14 pf13
theorem sn90 {a0 Z} (hw : HW a0 Z) : S_35 Z ≠ S_30 Z := Jvm.RoadKit.slot_ne (ly35 hw) (ly30 hw) (by decide) pf14 pf12
theorem sn91 {a0 Z} (hw : HW a0 Z) : S_35 Z ≠ S_32 Z := Jvm.RoadKit.slot_ne (ly35 hw) (ly32 hw) (by decide) pf14 pf14
theorem sn92 {a0 Z} (hw : HW a0 Z) : S_35 Z ≠ S_33 Z := Jvm.RoadKit.slot_ne (ly35 hw) (ly33 hw) (by decide) pf14 pf14
theorem sn93 {a0 Z} (hw : HW a0 Z) : S_35 Z ≠ S_34 Z := Jvm.RoadKit.slot_ne (ly35 hw) (ly34 hw) (by decide) pf14 pf14
theorem d31_322 : decode B31 322 = .ok (.return_, 1) := by decide +kernel
abbrev E_14 (Z : State) (h : Heap) (a : Addr) : Prop := Exa Z h a "[Z"
abbrev y64 : MethodName := ⟨"com/example/derivant/derivant/model/NextStateRelation", "<init>", "(Ljava/util/Map;Ljava/util/List;)V"⟩
def Q70 (Z : State) (cv : Int32) (de ca : Addr) (r0 r1 r2 r3 r4 r5 : Addr) (i6 : Int32) (h0 : Heap) (n0 : Nat) (v : Option Value) (h : Heap) (L : List Loc) : Prop := ∃ (b57 : Addr), v = none ∧ Fr n0 L ∧ Keep h0 h [r0, r1] ∧ h0.size ≤ b57 ∧ P24 Z h r0 (.ref b57) ∧ E_14 Z h b57 ∧ AB Z h b57 ((0 : Int32) + i6) (up (fun _ => 0) (((0 : Int32) + i6) - (1 : Int32)) (1 : Int32))
/-- NextStateRelation.init#0 -/
theorem t70 (hw : HW a0 Z) (SB0 : SB Z cv de ca) (r0 r1 r2 r3 r4 r5 : Addr) (i6 : Int32) (O0 : OL Z n0 h0) (q0 : E_8 Z h0 r0) (q1 : P23 Z h0 r0 .null) (q2 : P24 Z h0 r0 .null) (q3 : P25 Z h0 r0 .null) (q4 : P26 Z h0 r0 .null) (q5 : P27 Z h0 r0 .null) (q6 : P28 Z h0 r0 .null) (q7 : E_0 Z h0 r1) (q8 : P9 Z h0 r1 .null) (q9 : P6 Z h0 r1 (.ref r3)) (q10 : P7 Z h0 r1 (.int 1)) (q11 : P21 Z h0 r3 .null) (q12 : E_6 Z h0 r3) (q13 : P18 Z h0 r3 (.ref r4)) (q14 : E_2 Z h0 r4) (q15 : P12 Z h0 r4 (.int 97)) (q16 : P19 Z h0 r3 (.ref r5)) (q17 : E_3 Z h0 r5) (q18 : P16 Z h0 r5 (.int i6)) (q19 : R4 i6) (q20 : E_3 Z h0 r2) (q21 : P16 Z h0 r2 (.int 0)) (ge0 : n0 ≤ r0) (ge1 : n0 ≤ r1) : CT l Z y64 B31 7 none ⟨6, 15, 104, 85⟩ #[(.ref r0), (.ref r1), (.ref r2)] h0 (Q70 Z cv de ca r0 r1 r2 r3 r4 r5 i6 h0 n0) := by
  refine ct_intro ?_
  intro p e s m below meth c s₁ E0 hx D hml hown hnm hrt X0 e0 hZ hE
  have Z0 := O0.le
  have K0 := Keep.refl h0 [r0, r1]
  have hws : ∀ w ∈ ([r0, r1] : List Addr), n0 ≤ w := (allS ge0 (allS ge1 all0))
  have N0 := Fr.nil n0
  have pre0 := ctp #[vr r0, vr r1, vr r2, un, un, un, un] hE
  have nin_r3 : r3 ∉ ([r0, r1] : List Addr) := (ninS (Exa.ne q12 q0 (by decide)) (ninS (Exa.ne q12 q7 (by decide)) nin0))
  have nin_r4 : r4 ∉ ([r0, r1] : List Addr) := (ninS (Exa.ne q14 q0 (by decide)) (ninS (Exa.ne q14 q7 (by decide)) nin0))
  have nin_r5 : r5 ∉ ([r0, r1] : List Addr) := (ninS (Exa.ne q17 q0 (by decide)) (ninS (Exa.ne q17 q7 (by decide)) nin0))
  have nin_r2 : r2 ∉ ([r0, r1] : List Addr) := (ninS (Exa.ne q20 q0 (by decide)) (ninS (Exa.ne q20 q7 (by decide)) nin0))
  obtain ⟨T1, X1, e1, st1⟩ := initO X0 hx hZ hown (w_ hw 219 rfl) (w_ hw 20 rfl) (w_ hw 21 rfl) e0 (g := (mkF m 1 #[vr r0, vr r1, vr r2, un, un, un, un] [(.ref r0)])) rfl (by rw [hml]; rfl) rfl (D d31_1) (by decide) (W := 0) (by show 2 * 0 + _ ≤ _; exact Nat.le_of_eq rfl) (by decide)
  obtain ⟨T2, h2, X2, e2, E2, A2, D2, -, st2⟩ := newO X1 hx hZ hown (w_ hw 220 rfl) (w_ hw 221 rfl) (w_ hw 11 rfl) e1 (g := (mkF m 5 #[vr r0, vr r1, vr r2, un, un, un, un] [(.ref r0)])) rfl (D d31_5) (by decide) (by decide)
  obtain ⟨b2, g2⟩ : ∃ z, z = h0.size := ⟨_, rfl⟩
  rw [← g2] at A2 D2 st2
  have z2 : h0.size ≤ b2 := Nat.le_trans K0.1 (Nat.le_of_eq g2.symm)
  have k2 := K0.ext E2
  have F2_224 : P0 Z h2 b2 (.float (0 : UInt32)) := D2 (Or.inr (w_ hw 224 rfl)) (ty := .float) (by decide)
  have F2_351 : P3 Z h2 b2 .null := D2 (Or.inl (w_ hw 351 rfl)) (ty := (.array (.object "java/util/HashMap$Node"))) (by decide)
  have F2_353 : P4 Z h2 b2 (.int 0) := D2 (Or.inl (w_ hw 353 rfl)) (ty := .int) (by decide)
  have F2_363 : P7 Z h2 b2 (.int 0) := D2 (Or.inl (w_ hw 363 rfl)) (ty := .int) (by decide)
  have F2_364 : P8 Z h2 b2 (.int 0) := D2 (Or.inl (w_ hw 364 rfl)) (ty := .int) (by decide)
  obtain ⟨v3, T3, L3, X3, Q3, st3⟩ := kI X2 hx hZ hown (t39 hw SB0 b2 (O0.keep k2 hws) A2 F2_224 F2_351 F2_353 F2_363 F2_364 (Nat.le_trans Z0 z2)) rfl (w_ hw 222 rfl) (w_ hw 8 rfl) (w_ hw 11 rfl) (w_ hw 12 rfl) e2 (g := (mkF m 9 #[vr r0, vr r1, vr r2, un, un, un, un] [(.ref b2), (.ref b2), (.ref r0)])) rfl hml rfl (argsL := []) (rest := [(.ref b2), (.ref r0)]) (lenOf pd0 rfl) rfl rfl (W := 2) rfl (D d31_9)
  obtain ⟨h3, e3⟩ : ∃ z, T3.heap = z := ⟨_, rfl⟩
  rw [e3] at Q3
  obtain ⟨rfl, M3, K3, F3_0, F3_1, F3_2, F3_3⟩ := Q3
  have N3 := N0.app M3
  have k3 := k2.trans K3 (allS (Or.inr z2) all0)
  have f5 := ((q0.ext E2).keep K3)
  have f6 := (A2.keep K3)
  have ne4 : r0 ≠ b2 := Exa.ne f5 f6 (by decide)
  have f7 := ((q1.ext E2).keep K3 (ninS ne4 nin0))
  obtain ⟨T8, h8, X8, e8, W8, st8⟩ := putF X3 hx hZ hown (host := "") (Or.inl (w_ hw 225 rfl)) Via.refl e3 f7 f5 (Or.inr ⟨(w_ hw 226 rfl), rfl, hnm⟩) (w_ hw 214 rfl) (ty := (.object "java/util/Map")) (by decide) rfl rfl (g := (mkF m 12 #[vr r0, vr r1, vr r2, un, un, un, un] [(.ref b2), (.ref r0)])) rfl rfl (D d31_12)
  have N8 := Fr.snoc X8 N3 ge0
  have k8 := k3.wr W8 (Or.inl (List.mem_of_getElem? (i := 0) rfl))
  have v8 := f7.same W8
  have f9 := (((q7.ext E2).keep K3).wr W8)
  have f11 := (f6.wr W8)
  have ne10 : r1 ≠ b2 := Exa.ne f9 f11 (by decide)
  have f13 := (f5.wr W8)
  have ne12 : r1 ≠ r0 := Exa.ne f9 f13 (by decide)
  have f14 := (((q8.ext E2).keep K3 (ninS ne10 nin0)).other W8 (Or.inl ne12))
  have f15 := (((q9.ext E2).keep K3 (ninS ne10 nin0)).other W8 (Or.inl ne12))
  have f16 := (((q10.ext E2).keep K3 (ninS ne10 nin0)).other W8 (Or.inl ne12))
  obtain ⟨v17, T17, L17, X17, Q17, st17⟩ := kG X8 hx hZ hown (t43 hw SB0 r1 r3 (1 : Int32) (O0.keep k8 hws) f9 f14 f15 f16 ge1) f9 (w_ hw 227 rfl) (mvT hZ (w_ hw 229 rfl)) (iw2 hw) e8 (g := (mkF m 18 #[vr r0, vr r1, vr r2, vi 0, un, un, un] [(.ref r1)])) rfl hml rfl (argsL := []) (rest := []) (lenOf pd25 rfl) rfl rfl (W := 0) rfl (D d31_18)
  obtain ⟨h17, e17⟩ : ∃ z, T17.heap = z := ⟨_, rfl⟩
  rw [e17] at Q17
  obtain ⟨b17_0, rfl, M17, K17, y17_0, F17_0, F17_1, F17_2, F17_3, F17_4, F17_5⟩ := Q17
  have N17 := N8.app M17
  have z17_b17_0 := Nat.le_trans k8.1 y17_0
  have k17 := k8.trans K17 (allS (Or.inl (List.mem_of_getElem? (i := 1) rfl)) all0)
  have f18 := (f9.keep K17)
  obtain ⟨v19, T19, L19, X19, Q19, st19⟩ := kG X17 hx hZ hown (t46 hw SB0 b17_0 r1 r3 (1 : Int32) (O0.keep k17 hws) F17_4 F17_5 F17_1 F17_2 f18) F17_3 (w_ hw 262 rfl) (mvT hZ (w_ hw 264 rfl)) (iw3 hw) e17 (g := (mkF m 23 #[vr r0, vr r1, vr r2, vi 0, un, un, un] [(.ref b17_0)])) rfl hml rfl (argsL := []) (rest := []) (lenOf pd26 rfl) rfl rfl (W := 0) rfl (D d31_23)
  obtain ⟨h19, e19⟩ : ∃ z, T19.heap = z := ⟨_, rfl⟩
  rw [e19] at Q19
  obtain ⟨b19_0, rfl, M19, K19, y19_0, F19_0, F19_1, F19_2, F19_3, F19_4, F19_5⟩ := Q19
  have N19 := N17.app M19
  have z19_b19_0 := Nat.le_trans k17.1 y19_0
  have k19 := k17.trans K19 all0
  obtain ⟨v20, T20, L20, X20, Q20, st20⟩ := kG X19 hx hZ hown (t47 hw SB0 b19_0 r3 (O0.keep k19 hws) F19_3) F19_0 (w_ hw 298 rfl) (mvT hZ (w_ hw 300 rfl)) (iw4 hw) e19 (g := (mkF m 32 #[vr r0, vr r1, vr r2, vi 0, vr b19_0, un, un] [(.ref b19_0)])) rfl hml rfl (argsL := []) (rest := []) (lenOf pd11 rfl) rfl rfl (W := 0) rfl (D d31_32)
  obtain ⟨rfl, M20, e20⟩ := Q20
  have N20 := N19.app M20
  have f21 := (F17_2.keep K19 nin0)
  have f22 := q11.keep k19 nin_r3
  have f23 := q12.keep k19
  obtain ⟨v24, T24, L24, X24, Q24, st24⟩ := kG X20 hx hZ hown (t50 hw SB0 b19_0 r3 r1 (1 : Int32) (O0.keep k19 hws) F19_0 F19_3 F19_1 f21 F19_4 F19_2 F19_5 f22 f23 (Nat.le_trans Z0 z19_b19_0)) F19_0 (w_ hw 307 rfl) (mvT hZ (w_ hw 309 rfl)) (iw5 hw) e20 (g := (mkF m 42 #[vr r0, vr r1, vr r2, vi 0, vr b19_0, un, un] [(.ref b19_0)])) rfl hml rfl (argsL := []) (rest := []) (lenOf pd29 rfl) rfl rfl (W := 0) rfl (D d31_42)
  obtain ⟨h24, e24⟩ : ∃ z, T24.heap = z := ⟨_, rfl⟩
  rw [e24] at Q24
  obtain ⟨rfl, M24, K24, F24_0, F24_1, F24_2, F24_3, F24_4⟩ := Q24
  have N24 := N20.app M24
  have k24 := k19.trans K24 (allS (Or.inr z19_b19_0) all0)
  have f25 := q12.keep k24
  obtain ⟨T26, X26, e26, st26⟩ := castY X24 hx hZ hown (w_ hw 328 rfl) e24 (Ins.of_exa f25 (w_ hw 329 rfl)) (g := (mkF m 47 #[vr r0, vr r1, vr r2, vi 0, vr b19_0, un, un] [(.ref r3)])) rfl rfl (D d31_47)
  have f28 := (((f13.keep K17).keep K19).keep K24)
  have f29 := (F19_0.keep K24)
  have ne27 : r0 ≠ b19_0 := Exa.ne f28 f29 (by decide)
  have f30 := (((v8.keep K17 (ninS (Ne.symm ne12) nin0)).keep K19 nin0).keep K24 (ninS ne27 nin0))
  obtain ⟨T31, X31, e31, st31⟩ := gF X26 hx hZ hown (w_ hw 225 rfl) Via.refl e26 f30 (g := (mkF m 53 #[vr r0, vr r1, vr r2, vi 0, vr b19_0, vr r3, un] [(.ref r0)])) rfl rfl (D d31_53)
  have f32 := q13.keep k24 nin_r3
  obtain ⟨v33, T33, L33, X33, Q33, st33⟩ := kG X31 hx hZ hown (t51 hw SB0 r3 r4 (O0.keep k24 hws) f32) f25 (w_ hw 330 rfl) (mvT hZ (w_ hw 332 rfl)) (iw6 hw) e31 (g := (mkF m 58 #[vr r0, vr r1, vr r2, vi 0, vr b19_0, vr r3, un] [(.ref r3), (.ref b2)])) rfl hml rfl (argsL := []) (rest := [(.ref b2)]) (lenOf pd29 rfl) rfl rfl (W := 1) rfl (D d31_58)
  obtain ⟨rfl, M33, e33⟩ := Q33
  have N33 := N24.app M33
  have f34 := q14.keep k24
  obtain ⟨T35, X35, e35, st35⟩ := castY X33 hx hZ hown (w_ hw 338 rfl) e33 (Ins.self f34) (g := (mkF m 63 #[vr r0, vr r1, vr r2, vi 0, vr b19_0, vr r3, un] [(.ref r4), (.ref b2)])) rfl rfl (D d31_63)
  obtain ⟨v36, T36, L36, X36, Q36, st36⟩ := kS X35 hx hZ hown (t52 hw SB0 (0 : Int32) (O0.keep k24 hws) bd0) (w_ hw 339 rfl) (w_ hw 340 rfl) (w_ hw 341 rfl) (w_ hw 342 rfl) e35 (g := (mkF m 67 #[vr r0, vr r1, vr r2, vi 0, vr b19_0, vr r3, un] [(.int 0), (.ref r4), (.ref b2)])) rfl hml rfl (argsL := [(.int 0)]) (rest := [(.ref r4), (.ref b2)]) (lenOf pd30 rfl) rfl rfl (W := 2) rfl (D d31_67)
  obtain ⟨h36, e36⟩ : ∃ z, T36.heap = z := ⟨_, rfl⟩
  rw [e36] at Q36
  obtain ⟨b36_0, rfl, M36, K36, F36_0, F36_1⟩ := Q36
  have N36 := N33.app M36
  have k36 := k24.trans K36 all0
  have f37 := q14.keep k36
  have f38 := q15.keep k36 nin_r4
  have f39 := ((((f11.keep K17).keep K19).keep K24).keep K36)
  have f41 := (f29.keep K36)
  have ne40 : b2 ≠ b19_0 := Exa.ne f39 f41 (by decide)
  have f42 := (((((F3_0.other W8 (Or.inl (Ne.symm ne4))).keep K17 (ninS (Ne.symm ne10) nin0)).keep K19 nin0).keep K24 (ninS ne40 nin0)).keep K36 nin0)
  have f43 := (((((F3_1.other W8 (Or.inl (Ne.symm ne4))).keep K17 (ninS (Ne.symm ne10) nin0)).keep K19 nin0).keep K24 (ninS ne40 nin0)).keep K36 nin0)
  have f44 := (((((F3_2.other W8 (Or.inl (Ne.symm ne4))).keep K17 (ninS (Ne.symm ne10) nin0)).keep K19 nin0).keep K24 (ninS ne40 nin0)).keep K36 nin0)
  have f45 := (((((F3_3.other W8 (Or.inl (Ne.symm ne4))).keep K17 (ninS (Ne.symm ne10) nin0)).keep K19 nin0).keep K24 (ninS ne40 nin0)).keep K36 nin0)
  obtain ⟨v46, T46, L46, X46, Q46, st46⟩ := kG X36 hx hZ hown (t60 hw SB0 b2 r4 b36_0 (O0.keep k36 hws) f37 f38 f39 f42 f43 f44 f45 (Nat.le_trans Z0 z2)) f39 (w_ hw 346 rfl) (mvT hZ (w_ hw 117 rfl)) (iw7 hw) e36 (g := (mkF m 70 #[vr r0, vr r1, vr r2, vi 0, vr b19_0, vr r3, un] [(.ref b36_0), (.ref r4), (.ref b2)])) rfl hml rfl (argsL := [(.ref r4), (.ref b36_0)]) (rest := []) (lenOf pd22 rfl) rfl rfl (W := 0) rfl (D d31_70)
  obtain ⟨h46, e46⟩ : ∃ z, T46.heap = z := ⟨_, rfl⟩
  rw [e46] at Q46
  obtain ⟨b46_0, b46_1, c46_2, rfl, M46, K46, y46_0, y46_1, F46_0, F46_1, F46_2, F46_3, F46_4, F46_5, F46_6, F46_7, F46_8, F46_9, F46_10⟩ := Q46
  have N46 := N36.app M46
  have z46_b46_0 := Nat.le_trans k36.1 y46_0
  have z46_b46_1 := Nat.le_trans k36.1 y46_1
  have k46 := k36.trans K46 (allS (Or.inr z2) all0)
  have f47 := q16.keep k46 nin_r3
  have f48 := q12.keep k46
  obtain ⟨v49, T49, L49, X49, Q49, st49⟩ := kG X46 hx hZ hown (t61 hw SB0 r3 r5 (O0.keep k46 hws) f47) f48 (w_ hw 367 rfl) (mvT hZ (w_ hw 369 rfl)) (iw8 hw) e46 (g := (mkF m 79 #[vr r0, vr r1, vr r2, vi 0, vr b19_0, vr r3, un] [(.ref r3), (.int 0)])) rfl hml rfl (argsL := []) (rest := [(.int 0)]) (lenOf pd29 rfl) rfl rfl (W := 1) rfl (D d31_79)
  obtain ⟨rfl, M49, e49⟩ := Q49
  have N49 := N46.app M49
  have f50 := q17.keep k46
  obtain ⟨T51, X51, e51, st51⟩ := castY X49 hx hZ hown (w_ hw 375 rfl) e49 (Ins.of_exa f50 (w_ hw 88 rfl)) (g := (mkF m 84 #[vr r0, vr r1, vr r2, vi 0, vr b19_0, vr r3, un] [(.ref r5), (.int 0)])) rfl rfl (D d31_84)
  have f52 := q18.keep k46 nin_r5
  obtain ⟨v53, T53, L53, X53, Q53, st53⟩ := kG X51 hx hZ hown (t62 hw SB0 r5 i6 (O0.keep k46 hws) f52) f50 (w_ hw 376 rfl) (mvT hZ (w_ hw 378 rfl)) (iw9 hw) e51 (g := (mkF m 87 #[vr r0, vr r1, vr r2, vi 0, vr b19_0, vr r3, un] [(.ref r5), (.int 0)])) rfl hml rfl (argsL := []) (rest := [(.int 0)]) (lenOf pd13 rfl) rfl rfl (W := 1) rfl (D d31_87)
  obtain ⟨rfl, M53, e53⟩ := Q53
  have N53 := N49.app M53
  have f54 := ((F24_0.keep K36 nin0).keep K46 (ninS (Ne.symm ne40) nin0))
  have f55 := (f41.keep K46)
  obtain ⟨v56, T56, L56, X56, Q56, st56⟩ := kG X53 hx hZ hown (t63 hw SB0 b19_0 (O0.keep k46 hws) f54) f55 (w_ hw 298 rfl) (mvT hZ (w_ hw 300 rfl)) (iw4 hw) e53 (g := (mkF m 32 #[vr r0, vr r1, vr r2, vi ((0 : Int32) + i6), vr b19_0, vr r3, un] [(.ref b19_0)])) rfl hml rfl (argsL := []) (rest := []) (lenOf pd11 rfl) rfl rfl (W := 0) rfl (D d31_32)
  obtain ⟨rfl, M56, e56⟩ := Q56
  have N56 := N53.app M56
  obtain ⟨T57, h57, c57, X57, e57, E57, A57, B57, st57⟩ := newPE X56 hx hZ (w_ hw 384 rfl) e56 (g := (mkF m 99 #[vr r0, vr r1, vr r2, vi ((0 : Int32) + i6), vr b19_0, vr r3, un] [(.int ((0 : Int32) + i6)), (.ref r0)])) rfl (D d31_99) rfl (bd_nn (bd1 q19)) (cap := 12) (bd_cap (bd1 q19)) (by decide) (by decide) (by decide) (ad := "[Z") (by decide)
  obtain ⟨b57, g57⟩ : ∃ z, z = h46.size := ⟨_, rfl⟩
  rw [← g57] at A57 B57 st57
  have z57 : h0.size ≤ b57 := Nat.le_trans k46.1 (Nat.le_of_eq g57.symm)
  have k57 := k46.ext E57
  have v57 : AB Z h57 b57 ((0 : Int32) + i6) (fun _ => 0) := AB.new A57 (bd_nn (bd1 q19))
  have f58 := (((((((((q2.ext E2).keep K3 (ninS ne4 nin0)).other W8 (Or.inr (sn79 hw))).keep K17 (ninS (Ne.symm ne12) nin0)).keep K19 nin0).keep K24 (ninS ne27 nin0)).keep K36 nin0).keep K46 (ninS ne4 nin0)).ext E57)
  have f59 := (((f28.keep K36).keep K46).ext E57)
  obtain ⟨T60, h60, X60, e60, W60, st60⟩ := putF X57 hx hZ hown (host := "") (Or.inl (w_ hw 385 rfl)) Via.refl e57 f58 f59 (Or.inr ⟨(w_ hw 386 rfl), rfl, hnm⟩) (w_ hw 214 rfl) (ty := (.array .boolean)) (by decide) rfl rfl (g := (mkF m 101 #[vr r0, vr r1, vr r2, vi ((0 : Int32) + i6), vr b19_0, vr r3, un] [(.ref b57), (.ref r0)])) rfl rfl (D d31_101)
  have N60 := Fr.snoc X60 N56 ge0
  have k60 := k57.wr W60 (Or.inl (List.mem_of_getElem? (i := 0) rfl))
  have v60 := f58.same W60
  have f61 := ((((((f18.keep K19).keep K24).keep K36).keep K46).ext E57).wr W60)
  have f63 := ((f55.ext E57).wr W60)
  have ne62 : r1 ≠ b19_0 := Exa.ne f61 f63 (by decide)
  have f64 := ((((((F17_0.keep K19 nin0).keep K24 (ninS ne62 nin0)).keep K36 nin0).keep K46 (ninS ne10 nin0)).ext E57).other W60 (Or.inl ne12))
  have f65 := ((((((F17_3.keep K19).keep K24).keep K36).keep K46).ext E57).wr W60)
  obtain ⟨v66, T66, L66, X66, Q66, st66⟩ := kG X60 hx hZ hown (t65 hw SB0 r1 b17_0 (O0.keep k60 hws) f61 f64 f65) f61 (w_ hw 227 rfl) (mvT hZ (w_ hw 229 rfl)) (iw2 hw) e60 (g := (mkF m 105 #[vr r0, vr r1, vr r2, vi ((0 : Int32) + i6), vr b19_0, vr r3, un] [(.ref r1)])) rfl hml rfl (argsL := []) (rest := []) (lenOf pd25 rfl) rfl rfl (W := 0) rfl (D d31_105)
  obtain ⟨rfl, M66, e66⟩ := Q66
  have N66 := N60.app M66
  have ne67 : b17_0 ≠ b19_0 := Exa.ne f65 f63 (by decide)
  have f69 := (((f39.keep K46).ext E57).wr W60)
  have ne68 : b17_0 ≠ b2 := Exa.ne f65 f69 (by decide)
  have f71 := (f59.wr W60)
  have ne70 : b17_0 ≠ r0 := Exa.ne f65 f71 (by decide)
  have f72 := ((((((F17_4.keep K19 nin0).keep K24 (ninS ne67 nin0)).keep K36 nin0).keep K46 (ninS ne68 nin0)).ext E57).other W60 (Or.inl ne70))
  have f73 := ((((((F17_5.keep K19 nin0).keep K24 (ninS ne67 nin0)).keep K36 nin0).keep K46 (ninS ne68 nin0)).ext E57).other W60 (Or.inl ne70))
  have f74 := ((((((F17_1.keep K19 nin0).keep K24 (ninS ne62 nin0)).keep K36 nin0).keep K46 (ninS ne10 nin0)).ext E57).other W60 (Or.inl ne12))
  have f75 := (((((f21.keep K24 (ninS ne62 nin0)).keep K36 nin0).keep K46 (ninS ne10 nin0)).ext E57).other W60 (Or.inl ne12))
  obtain ⟨v76, T76, L76, X76, Q76, st76⟩ := kG X66 hx hZ hown (t46 hw SB0 b17_0 r1 r3 (1 : Int32) (O0.keep k60 hws) f72 f73 f74 f75 f61) f65 (w_ hw 262 rfl) (mvT hZ (w_ hw 264 rfl)) (iw3 hw) e66 (g := (mkF m 110 #[vr r0, vr r1, vr r2, vi ((0 : Int32) + i6), vr b19_0, vr r3, un] [(.ref b17_0)])) rfl hml rfl (argsL := []) (rest := []) (lenOf pd26 rfl) rfl rfl (W := 0) rfl (D d31_110)
  obtain ⟨h76, e76⟩ : ∃ z, T76.heap = z := ⟨_, rfl⟩
  rw [e76] at Q76
  obtain ⟨b76_0, rfl, M76, K76, y76_0, F76_0, F76_1, F76_2, F76_3, F76_4, F76_5⟩ := Q76
  have N76 := N66.app M76
  have z76_b76_0 := Nat.le_trans k60.1 y76_0
  have k76 := k60.trans K76 all0
  obtain ⟨v77, T77, L77, X77, Q77, st77⟩ := kG X76 hx hZ hown (t47 hw SB0 b76_0 r3 (O0.keep k76 hws) F76_3) F76_0 (w_ hw 298 rfl) (mvT hZ (w_ hw 300 rfl)) (iw4 hw) e76 (g := (mkF m 119 #[vr r0, vr r1, vr r2, vi ((0 : Int32) + i6), vr b76_0, vr r3, un] [(.ref b76_0)])) rfl hml rfl (argsL := []) (rest := []) (lenOf pd11 rfl) rfl rfl (W := 0) rfl (D d31_119)
  obtain ⟨rfl, M77, e77⟩ := Q77
  have N77 := N76.app M77
  have f78 := (f75.keep K76 nin0)
  have f79 := q11.keep k76 nin_r3
  have f80 := q12.keep k76
  obtain ⟨v81, T81, L81, X81, Q81, st81⟩ := kG X77 hx hZ hown (t50 hw SB0 b76_0 r3 r1 (1 : Int32) (O0.keep k76 hws) F76_0 F76_3 F76_1 f78 F76_4 F76_2 F76_5 f79 f80 (Nat.le_trans Z0 z76_b76_0)) F76_0 (w_ hw 307 rfl) (mvT hZ (w_ hw 309 rfl)) (iw5 hw) e77 (g := (mkF m 129 #[vr r0, vr r1, vr r2, vi ((0 : Int32) + i6), vr b76_0, vr r3, un] [(.ref b76_0)])) rfl hml rfl (argsL := []) (rest := []) (lenOf pd29 rfl) rfl rfl (W := 0) rfl (D d31_129)
  obtain ⟨h81, e81⟩ : ∃ z, T81.heap = z := ⟨_, rfl⟩
  rw [e81] at Q81
  obtain ⟨rfl, M81, K81, F81_0, F81_1, F81_2, F81_3, F81_4⟩ := Q81
  have N81 := N77.app M81
  have k81 := k76.trans K81 (allS (Or.inr z76_b76_0) all0)
  have f82 := q12.keep k81
  obtain ⟨T83, X83, e83, st83⟩ := castY X81 hx hZ hown (w_ hw 328 rfl) e81 (Ins.of_exa f82 (w_ hw 329 rfl)) (g := (mkF m 134 #[vr r0, vr r1, vr r2, vi ((0 : Int32) + i6), vr b76_0, vr r3, un] [(.ref r3)])) rfl rfl (D d31_134)
  have f85 := ((f71.keep K76).keep K81)
  have f86 := (F76_0.keep K81)
  have ne84 : r0 ≠ b76_0 := Exa.ne f85 f86 (by decide)
  have f87 := ((v60.keep K76 nin0).keep K81 (ninS ne84 nin0))
  obtain ⟨T88, X88, e88, st88⟩ := gF X83 hx hZ hown (w_ hw 385 rfl) Via.refl e83 f87 (g := (mkF m 140 #[vr r0, vr r1, vr r2, vi ((0 : Int32) + i6), vr b76_0, vr r3, un] [(.ref r0)])) rfl rfl (D d31_140)
  have f89 := ((((((f30.keep K36 nin0).keep K46 (ninS ne4 nin0)).ext E57).other W60 (Or.inr (Ne.symm (sn79 hw)))).keep K76 nin0).keep K81 (ninS ne84 nin0))
  obtain ⟨T90, X90, e90, st90⟩ := gF X88 hx hZ hown (w_ hw 225 rfl) Via.refl e88 f89 (g := (mkF m 144 #[vr r0, vr r1, vr r2, vi ((0 : Int32) + i6), vr b76_0, vr r3, un] [(.ref r0), (.ref b57)])) rfl rfl (D d31_144)
  have f91 := q13.keep k81 nin_r3
  obtain ⟨v92, T92, L92, X92, Q92, st92⟩ := kG X90 hx hZ hown (t51 hw SB0 r3 r4 (O0.keep k81 hws) f91) f82 (w_ hw 330 rfl) (mvT hZ (w_ hw 332 rfl)) (iw6 hw) e90 (g := (mkF m 149 #[vr r0, vr r1, vr r2, vi ((0 : Int32) + i6), vr b76_0, vr r3, un] [(.ref r3), (.ref b2), (.ref b57)])) rfl hml rfl (argsL := []) (rest := [(.ref b2), (.ref b57)]) (lenOf pd29 rfl) rfl rfl (W := 2) rfl (D d31_149)
  obtain ⟨rfl, M92, e92⟩ := Q92
  have N92 := N81.app M92
  have f93 := ((f69.keep K76).keep K81)
  have ne94 : b2 ≠ b76_0 := Exa.ne f93 f86 (by decide)
  have f95 := ((((F46_0.ext E57).other W60 (Or.inl (Ne.symm ne4))).keep K76 nin0).keep K81 (ninS ne94 nin0))
  have f97 := ((((F46_4.ext E57).wr W60).keep K76).keep K81)
  have ne96 : b46_0 ≠ r0 := Exa.ne f97 f85 (by decide)
  have ne98 : b46_0 ≠ b76_0 := Exa.ne f97 f86 (by decide)
  have f99 := ((((F46_5.ext E57).other W60 ne96).keep K76 nin0).keep K81 (ninS ne98 nin0))
  have f100 := q14.keep k81
  have f101 := q15.keep k81 nin_r4
  have f103 := ((((F46_7.ext E57).wr W60).keep K76).keep K81)
  have ne102 : b46_1 ≠ r0 := Exa.ne f103 f85 (by decide)
  have ne104 : b46_1 ≠ b76_0 := Exa.ne f103 f86 (by decide)
  have f105 := ((((F46_8.ext E57).other W60 (Or.inl ne102)).keep K76 nin0).keep K81 (ninS ne104 nin0))
  have f106 := ((((F46_9.ext E57).other W60 (Or.inl ne102)).keep K76 nin0).keep K81 (ninS ne104 nin0))
  have f107 := ((((F46_10.ext E57).other W60 (Or.inl ne102)).keep K76 nin0).keep K81 (ninS ne104 nin0))
  obtain ⟨v108, T108, L108, X108, Q108, st108⟩ := kG X92 hx hZ hown (t67 hw SB0 b2 r4 b46_0 b46_1 c46_2 b36_0 (O0.keep k81 hws) f93 f95 f99 f100 f101 f105 f106 f107) f93 (w_ hw 389 rfl) (mvT hZ (w_ hw 391 rfl)) (iw10 hw) e92 (g := (mkF m 154 #[vr r0, vr r1, vr r2, vi ((0 : Int32) + i6), vr b76_0, vr r3, un] [(.ref r4), (.ref b2), (.ref b57)])) rfl hml rfl (argsL := [(.ref r4)]) (rest := [(.ref b57)]) (lenOf pd32 rfl) rfl rfl (W := 1) rfl (D d31_154)
  obtain ⟨rfl, M108, e108⟩ := Q108
  have N108 := N92.app M108
  have f109 := (((((F36_0.keep K46).ext E57).wr W60).keep K76).keep K81)
  obtain ⟨T110, X110, e110, st110⟩ := castY X108 hx hZ hown (w_ hw 405 rfl) e108 (Ins.self f109) (g := (mkF m 159 #[vr r0, vr r1, vr r2, vi ((0 : Int32) + i6), vr b76_0, vr r3, un] [(.ref b36_0), (.ref b57)])) rfl rfl (D d31_159)
  have ne111 : b36_0 ≠ b2 := Exa.ne f109 f93 (by decide)
  have ne112 : b36_0 ≠ r0 := Exa.ne f109 f85 (by decide)
  have ne113 : b36_0 ≠ b76_0 := Exa.ne f109 f86 (by decide)
  have f114 := (((((F36_1.keep K46 (ninS ne111 nin0)).ext E57).other W60 (Or.inl ne112)).keep K76 nin0).keep K81 (ninS ne113 nin0))
  obtain ⟨v115, T115, L115, X115, Q115, st115⟩ := kV (y := y62) (z := y62) X110 hx hZ hown (t68 hw SB0 b36_0 (O0.keep k81 hws) f114) f109 (nf_of (x := y62) (y' := y62) (args := #[]) (mvT hZ (w_ hw 410 rfl)) rfl) (w_ hw 407 rfl) (w_ hw 408 rfl) (w_ hw 410 rfl) (w_ hw 409 rfl) (w_ hw 341 rfl) (w_ hw 411 rfl) e110 (g := (mkF m 162 #[vr r0, vr r1, vr r2, vi ((0 : Int32) + i6), vr b76_0, vr r3, un] [(.ref b36_0), (.ref b57)])) rfl hml rfl (argsL := []) (rest := [(.ref b57)]) (lenOf pd13 rfl) rfl rfl (W := 1) rfl (D d31_162)
  obtain ⟨rfl, M115, e115⟩ := Q115
  have N115 := N108.app M115
  have f116 := q16.keep k81 nin_r3
  obtain ⟨v117, T117, L117, X117, Q117, st117⟩ := kG X115 hx hZ hown (t61 hw SB0 r3 r5 (O0.keep k81 hws) f116) f82 (w_ hw 367 rfl) (mvT hZ (w_ hw 369 rfl)) (iw8 hw) e115 (g := (mkF m 167 #[vr r0, vr r1, vr r2, vi ((0 : Int32) + i6), vr b76_0, vr r3, un] [(.ref r3), (.int 0), (.ref b57)])) rfl hml rfl (argsL := []) (rest := [(.int 0), (.ref b57)]) (lenOf pd29 rfl) rfl rfl (W := 2) rfl (D d31_167)
  obtain ⟨rfl, M117, e117⟩ := Q117
  have N117 := N115.app M117
  have f118 := q17.keep k81
  obtain ⟨T119, X119, e119, st119⟩ := castY X117 hx hZ hown (w_ hw 375 rfl) e117 (Ins.of_exa f118 (w_ hw 88 rfl)) (g := (mkF m 172 #[vr r0, vr r1, vr r2, vi ((0 : Int32) + i6), vr b76_0, vr r3, un] [(.ref r5), (.int 0), (.ref b57)])) rfl rfl (D d31_172)
  have f120 := q18.keep k81 nin_r5
  obtain ⟨v121, T121, L121, X121, Q121, st121⟩ := kG X119 hx hZ hown (t62 hw SB0 r5 i6 (O0.keep k81 hws) f120) f118 (w_ hw 376 rfl) (mvT hZ (w_ hw 378 rfl)) (iw9 hw) e119 (g := (mkF m 175 #[vr r0, vr r1, vr r2, vi ((0 : Int32) + i6), vr b76_0, vr r3, un] [(.ref r5), (.int 0), (.ref b57)])) rfl hml rfl (argsL := []) (rest := [(.int 0), (.ref b57)]) (lenOf pd13 rfl) rfl rfl (W := 2) rfl (D d31_175)
  obtain ⟨rfl, M121, e121⟩ := Q121
  have N121 := N117.app M121
  have f123 := (((B57.wr W60).keep K76).keep K81)
  have ne122 : b57 ≠ r0 := Exa.ne f123 f85 (by decide)
  have ne124 : b57 ≠ b76_0 := Exa.ne f123 f86 (by decide)
  have f125 := (((v57.other W60 ne122).keep K76 nin0).keep K81 (ninS ne124 nin0))
  obtain ⟨jl126, jh126⟩ := ix1_1 q19
  obtain ⟨_, Ar126, S126, M126, -⟩ := id f125
  obtain ⟨T127, h127, X127, e127, W127, st127⟩ := stZ X121 hx hZ e121 Ar126 (j := (((0 : Int32) + i6) - (1 : Int32))) (AB.inb S126 jl126 jh126) (g := (mkF m 184 #[vr r0, vr r1, vr r2, vi ((0 : Int32) + i6), vr b76_0, vr r3, un] [(.int 1), (.int (((0 : Int32) + i6) - (1 : Int32))), (.ref b57)])) rfl rfl (D d31_184)
  have N127 := Fr.snoc X127 N121 (Nat.le_trans Z0 z57)
  have k127 := k81.wr W127 (Or.inr z57)
  have v127 : AB Z h127 b57 ((0 : Int32) + i6) (up (fun _ => 0) (((0 : Int32) + i6) - (1 : Int32)) (1 : Int32)) := AB.set f125 W127 jl126 jh126
  have f128 := (F81_0.other W127 (Or.inl (Ne.symm ne124)))
  have f129 := (f86.wr W127)
  obtain ⟨v130, T130, L130, X130, Q130, st130⟩ := kG X127 hx hZ hown (t63 hw SB0 b76_0 (O0.keep k127 hws) f128) f129 (w_ hw 298 rfl) (mvT hZ (w_ hw 300 rfl)) (iw4 hw) e127 (g := (mkF m 119 #[vr r0, vr r1, vr r2, vi ((0 : Int32) + i6), vr b76_0, vr r3, un] [(.ref b76_0)])) rfl hml rfl (argsL := []) (rest := []) (lenOf pd11 rfl) rfl rfl (W := 0) rfl (D d31_119)
  obtain ⟨rfl, M130, e130⟩ := Q130
  have N130 := N127.app M130
  have f131 := q21.keep k127 nin_r2
  have f132 := q20.keep k127
  obtain ⟨v133, T133, L133, X133, Q133, st133⟩ := kG X130 hx hZ hown (t62 hw SB0 r2 (0 : Int32) (O0.keep k127 hws) f131) f132 (w_ hw 376 rfl) (mvT hZ (w_ hw 378 rfl)) (iw9 hw) e130 (g := (mkF m 189 #[vr r0, vr r1, vr r2, vi ((0 : Int32) + i6), vr b76_0, vr r3, un] [(.ref r2)])) rfl hml rfl (argsL := []) (rest := []) (lenOf pd13 rfl) rfl rfl (W := 0) rfl (D d31_189)
  obtain ⟨rfl, M133, e133⟩ := Q133
  have N133 := N130.app M133
  obtain ⟨T134, h134, c134, X134, e134, E134, A134, B134, st134⟩ := newPE X133 hx hZ (w_ hw 414 rfl) e133 (g := (mkF m 194 #[vr r0, vr r1, vr r2, vi ((0 : Int32) + i6), vr b76_0, vr r3, un] [(.int 0)])) rfl (D d31_194) rfl (by decide) (cap := 0) (by decide) (by decide) (by decide) (by decide) (ad := "[I") (by decide)
  obtain ⟨b134, g134⟩ : ∃ z, z = h127.size := ⟨_, rfl⟩
  rw [← g134] at A134 B134 st134
  have z134 : h0.size ≤ b134 := Nat.le_trans k127.1 (Nat.le_of_eq g134.symm)
  have k134 := k127.ext E134
  have v134 : Arv Z h134 b134 c134 .int (0 : Int32) [] (.int 0) := (Arv.new A134 (by decide)).pad (pad_rep [] (.int 0) 0)
  have f135 := q21.keep k134 nin_r2
  have f136 := q20.keep k134
  obtain ⟨v137, T137, L137, X137, Q137, st137⟩ := kG X134 hx hZ hown (t62 hw SB0 r2 (0 : Int32) (O0.keep k134 hws) f135) f136 (w_ hw 376 rfl) (mvT hZ (w_ hw 378 rfl)) (iw9 hw) e134 (g := (mkF m 199 #[vr r0, vr r1, vr r2, vi ((0 : Int32) + i6), vr b134, vr r3, un] [(.ref r2)])) rfl hml rfl (argsL := []) (rest := []) (lenOf pd13 rfl) rfl rfl (W := 0) rfl (D d31_199)
  obtain ⟨rfl, M137, e137⟩ := Q137
  have N137 := N133.app M137
  obtain ⟨T138, h138, c138, X138, e138, E138, A138, B138, st138⟩ := newPE X137 hx hZ (w_ hw 414 rfl) e137 (g := (mkF m 204 #[vr r0, vr r1, vr r2, vi ((0 : Int32) + i6), vr b134, vr r3, un] [(.int 0)])) rfl (D d31_204) rfl (by decide) (cap := 0) (by decide) (by decide) (by decide) (by decide) (ad := "[I") (by decide)
  obtain ⟨b138, g138⟩ : ∃ z, z = h134.size := ⟨_, rfl⟩
  rw [← g138] at A138 B138 st138
  have z138 : h0.size ≤ b138 := Nat.le_trans k134.1 (Nat.le_of_eq g138.symm)
  have k138 := k134.ext E138
  have v138 : Arv Z h138 b138 c138 .int (0 : Int32) [] (.int 0) := (Arv.new A138 (by decide)).pad (pad_rep [] (.int 0) 0)
  have f139 := q21.keep k138 nin_r2
  have f140 := q20.keep k138
  obtain ⟨v141, T141, L141, X141, Q141, st141⟩ := kG X138 hx hZ hown (t62 hw SB0 r2 (0 : Int32) (O0.keep k138 hws) f139) f140 (w_ hw 376 rfl) (mvT hZ (w_ hw 378 rfl)) (iw9 hw) e138 (g := (mkF m 214 #[vr r0, vr r1, vr r2, vi ((0 : Int32) + i6), vr b134, vr b138, vi 0] [(.ref r2), (.int 0)])) rfl hml rfl (argsL := []) (rest := [(.int 0)]) (lenOf pd13 rfl) rfl rfl (W := 1) rfl (D d31_214)
  obtain ⟨rfl, M141, e141⟩ := Q141
  have N141 := N137.app M141
  obtain ⟨T142, h142, c142, X142, e142, E142, A142, B142, st142⟩ := newPE X141 hx hZ (w_ hw 414 rfl) e141 (g := (mkF m 278 #[vr r0, vr r1, vr r2, vi ((0 : Int32) + i6), vr b134, vr b138, vi 0] [(.int (((0 : Int32) + i6) + (1 : Int32))), (.ref r0)])) rfl (D d31_278) rfl (bd_nn1 (bd1 q19)) (cap := 13) (bd_cap1 (bd1 q19)) (by decide) (by decide) (by decide) (ad := "[I") (by decide)
  obtain ⟨b142, g142⟩ : ∃ z, z = h138.size := ⟨_, rfl⟩
  rw [← g142] at A142 B142 st142
  have z142 : h0.size ≤ b142 := Nat.le_trans k138.1 (Nat.le_of_eq g142.symm)
  have k142 := k138.ext E142
  have v142 : Arv Z h142 b142 c142 .int (((0 : Int32) + i6) + (1 : Int32)) [] (.int 0) := Arv.new A142 (bd_nn1 (bd1 q19))
  have f143 := ((((((((((((((((q3.ext E2).keep K3 (ninS ne4 nin0)).other W8 (Or.inr (sn80 hw))).keep K17 (ninS (Ne.symm ne12) nin0)).keep K19 nin0).keep K24 (ninS ne27 nin0)).keep K36 nin0).keep K46 (ninS ne4 nin0)).ext E57).other W60 (Or.inr (sn81 hw))).keep K76 nin0).keep K81 (ninS ne84 nin0)).other W127 (Or.inl (Ne.symm ne122))).ext E134).ext E138).ext E142)
  have f144 := ((((f85.wr W127).ext E134).ext E138).ext E142)
  obtain ⟨T145, h145, X145, e145, W145, st145⟩ := putF X142 hx hZ hown (host := "") (Or.inl (w_ hw 415 rfl)) Via.refl e142 f143 f144 (Or.inr ⟨(w_ hw 416 rfl), rfl, hnm⟩) (w_ hw 214 rfl) (ty := (.array .int)) (by decide) rfl rfl (g := (mkF m 280 #[vr r0, vr r1, vr r2, vi ((0 : Int32) + i6), vr b134, vr b138, vi 0] [(.ref b142), (.ref r0)])) rfl rfl (D d31_280)
  have N145 := Fr.snoc X145 N141 ge0
  have k145 := k142.wr W145 (Or.inl (List.mem_of_getElem? (i := 0) rfl))
  have v145 := f143.same W145
  obtain ⟨T146, X146, e146, st146⟩ := gF X145 hx hZ hown (w_ hw 415 rfl) Via.refl e145 v145 (g := (mkF m 289 #[vr r0, vr r1, vr r2, vi ((0 : Int32) + i6), vr b134, vr b138, vi 0] [(.ref r0), (.ref b134), (.ref b138), (.ref r0)])) rfl rfl (D d31_289)
  have f148 := (((B134.ext E138).ext E142).wr W145)
  have f149 := (f144.wr W145)
  have ne147 : b134 ≠ r0 := Exa.ne f148 f149 (by decide)
  have f150 := (((v134.ext E138).ext E142).other W145 ne147)
  have f151 := (B142.wr W145)
  have ne152 : b142 ≠ r0 := Exa.ne f151 f149 (by decide)
  have f153 := (v142.other W145 ne152)
  have f155 := ((B138.ext E142).wr W145)
  have ne154 : b138 ≠ r0 := Exa.ne f155 f149 (by decide)
  have f156 := ((v138.ext E142).other W145 ne154)
  have ne157 : b138 ≠ b142 := Nat.ne_of_lt (Nat.lt_of_lt_of_le B138.lt (Nat.le_of_eq g142.symm))
  obtain ⟨v158, T158, L158, X158, Q158, st158⟩ := kS X146 hx hZ hown (t69 hw SB0 b138 b134 b142 c134 c142 (((0 : Int32) + i6) + (1 : Int32)) c138 (O0.keep k145 hws) f150 f151 f153 (bd_suc (bd1 q19)) f156 f155 ne157 (Nat.le_trans Z0 z142)) (w_ hw 417 rfl) (w_ hw 418 rfl) (w_ hw 215 rfl) (w_ hw 419 rfl) e146 (g := (mkF m 292 #[vr r0, vr r1, vr r2, vi ((0 : Int32) + i6), vr b134, vr b138, vi 0] [(.ref b142), (.ref b134), (.ref b138), (.ref r0)])) rfl hml rfl (argsL := [(.ref b138), (.ref b134), (.ref b142)]) (rest := [(.ref r0)]) (lenOf pd33 rfl) rfl rfl (W := 1) rfl (D d31_292)
  obtain ⟨h158, e158⟩ : ∃ z, T158.heap = z := ⟨_, rfl⟩
  rw [e158] at Q158
  obtain ⟨b158_0, c158_1, rfl, M158, K158, y158_0, F158_0, F158_1, F158_2⟩ := Q158
  have N158 := N145.app M158
  have z158_b158_0 := Nat.le_trans k145.1 y158_0
  have k158 := k145.trans K158 (allS (Or.inr z142) all0)
  have f159 := ((((((((((((((((((q4.ext E2).keep K3 (ninS ne4 nin0)).other W8 (Or.inr (sn82 hw))).keep K17 (ninS (Ne.symm ne12) nin0)).keep K19 nin0).keep K24 (ninS ne27 nin0)).keep K36 nin0).keep K46 (ninS ne4 nin0)).ext E57).other W60 (Or.inr (sn83 hw))).keep K76 nin0).keep K81 (ninS ne84 nin0)).other W127 (Or.inl (Ne.symm ne122))).ext E134).ext E138).ext E142).other W145 (Or.inr (sn84 hw))).keep K158 (ninS (Ne.symm ne152) nin0))
  have f160 := (f149.keep K158)
  obtain ⟨T161, h161, X161, e161, W161, st161⟩ := putF X158 hx hZ hown (host := "") (Or.inl (w_ hw 429 rfl)) Via.refl e158 f159 f160 (Or.inr ⟨(w_ hw 430 rfl), rfl, hnm⟩) (w_ hw 214 rfl) (ty := (.array .int)) (by decide) rfl rfl (g := (mkF m 295 #[vr r0, vr r1, vr r2, vi ((0 : Int32) + i6), vr b134, vr b138, vi 0] [(.ref b158_0), (.ref r0)])) rfl rfl (D d31_295)
  have N161 := Fr.snoc X161 N158 ge0
  have k161 := k158.wr W161 (Or.inl (List.mem_of_getElem? (i := 0) rfl))
  have v161 := f159.same W161
  obtain ⟨T162, h162, c162, X162, e162, E162, A162, B162, st162⟩ := newPE X161 hx hZ (w_ hw 414 rfl) e161 (g := (mkF m 302 #[vr r0, vr r1, vr r2, vi ((0 : Int32) + i6), vr b134, vr b138, vi 0] [(.int (((0 : Int32) + i6) + (1 : Int32))), (.ref r0)])) rfl (D d31_302) rfl (bd_nn1 (bd1 q19)) (cap := 13) (bd_cap1 (bd1 q19)) (by decide) (by decide) (by decide) (ad := "[I") (by decide)
  obtain ⟨b162, g162⟩ : ∃ z, z = h161.size := ⟨_, rfl⟩
  rw [← g162] at A162 B162 st162
  have z162 : h0.size ≤ b162 := Nat.le_trans k161.1 (Nat.le_of_eq g162.symm)
  have k162 := k161.ext E162
  have v162 : Arv Z h162 b162 c162 .int (((0 : Int32) + i6) + (1 : Int32)) [] (.int 0) := Arv.new A162 (bd_nn1 (bd1 q19))
  have f163 := ((((((((((((((((((((q5.ext E2).keep K3 (ninS ne4 nin0)).other W8 (Or.inr (sn85 hw))).keep K17 (ninS (Ne.symm ne12) nin0)).keep K19 nin0).keep K24 (ninS ne27 nin0)).keep K36 nin0).keep K46 (ninS ne4 nin0)).ext E57).other W60 (Or.inr (sn86 hw))).keep K76 nin0).keep K81 (ninS ne84 nin0)).other W127 (Or.inl (Ne.symm ne122))).ext E134).ext E138).ext E142).other W145 (Or.inr (sn87 hw))).keep K158 (ninS (Ne.symm ne152) nin0)).other W161 (Or.inr (sn88 hw))).ext E162)
  have f164 := ((f160.wr W161).ext E162)
  obtain ⟨T165, h165, X165, e165, W165, st165⟩ := putF X162 hx hZ hown (host := "") (Or.inl (w_ hw 431 rfl)) Via.refl e162 f163 f164 (Or.inr ⟨(w_ hw 432 rfl), rfl, hnm⟩) (w_ hw 214 rfl) (ty := (.array .int)) (by decide) rfl rfl (g := (mkF m 304 #[vr r0, vr r1, vr r2, vi ((0 : Int32) + i6), vr b134, vr b138, vi 0] [(.ref b162), (.ref r0)])) rfl rfl (D d31_304)
  have N165 := Fr.snoc X165 N161 ge0
  have k165 := k162.wr W165 (Or.inl (List.mem_of_getElem? (i := 0) rfl))
  have v165 := f163.same W165
  obtain ⟨T166, X166, e166, st166⟩ := gF X165 hx hZ hown (w_ hw 431 rfl) Via.refl e165 v165 (g := (mkF m 313 #[vr r0, vr r1, vr r2, vi ((0 : Int32) + i6), vr b134, vr b138, vi 0] [(.ref r0), (.ref b138), (.ref b134), (.ref r0)])) rfl rfl (D d31_313)
  have f167 := ((((f156.keep K158 (ninS ne157 nin0)).other W161 ne154).ext E162).other W165 ne154)
  have f168 := (B162.wr W165)
  have f170 := (f164.wr W165)
  have ne169 : b162 ≠ r0 := Exa.ne f168 f170 (by decide)
  have f171 := (v162.other W165 ne169)
  have ne172 : b134 ≠ b142 := Nat.ne_of_lt (Nat.lt_of_lt_of_le (B134.ext E138).lt (Nat.le_of_eq g142.symm))
  have f173 := ((((f150.keep K158 (ninS ne172 nin0)).other W161 ne147).ext E162).other W165 ne147)
  have f174 := ((((f148.keep K158).wr W161).ext E162).wr W165)
  have ne175 : b134 ≠ b162 := Nat.ne_of_lt (Nat.lt_of_lt_of_le ((f148.keep K158).wr W161).lt (Nat.le_of_eq g162.symm))
  obtain ⟨v176, T176, L176, X176, Q176, st176⟩ := kS X166 hx hZ hown (t69 hw SB0 b134 b138 b162 c138 c162 (((0 : Int32) + i6) + (1 : Int32)) c134 (O0.keep k165 hws) f167 f168 f171 (bd_suc (bd1 q19)) f173 f174 ne175 (Nat.le_trans Z0 z162)) (w_ hw 417 rfl) (w_ hw 418 rfl) (w_ hw 215 rfl) (w_ hw 419 rfl) e166 (g := (mkF m 316 #[vr r0, vr r1, vr r2, vi ((0 : Int32) + i6), vr b134, vr b138, vi 0] [(.ref b162), (.ref b138), (.ref b134), (.ref r0)])) rfl hml rfl (argsL := [(.ref b134), (.ref b138), (.ref b162)]) (rest := [(.ref r0)]) (lenOf pd33 rfl) rfl rfl (W := 1) rfl (D d31_316)
  obtain ⟨h176, e176⟩ : ∃ z, T176.heap = z := ⟨_, rfl⟩
  rw [e176] at Q176
  obtain ⟨b176_0, c176_1, rfl, M176, K176, y176_0, F176_0, F176_1, F176_2⟩ := Q176
  have N176 := N165.app M176
  have z176_b176_0 := Nat.le_trans k165.1 y176_0
  have k176 := k165.trans K176 (allS (Or.inr z162) all0)
  have f177 := ((((((((((((((((((((((q6.ext E2).keep K3 (ninS ne4 nin0)).other W8 (Or.inr (sn89 hw))).keep K17 (ninS (Ne.symm ne12) nin0)).keep K19 nin0).keep K24 (ninS ne27 nin0)).keep K36 nin0).keep K46 (ninS ne4 nin0)).ext E57).other W60 (Or.inr (sn90 hw))).keep K76 nin0).keep K81 (ninS ne84 nin0)).other W127 (Or.inl (Ne.symm ne122))).ext E134).ext E138).ext E142).other W145 (Or.inr (sn91 hw))).keep K158 (ninS (Ne.symm ne152) nin0)).other W161 (Or.inr (sn92 hw))).ext E162).other W165 (Or.inr (sn93 hw))).keep K176 (ninS (Ne.symm ne169) nin0))
  have f178 := (f170.keep K176)
  obtain ⟨T179, h179, X179, e179, W179, st179⟩ := putF X176 hx hZ hown (host := "") (Or.inl (w_ hw 433 rfl)) Via.refl e176 f177 f178 (Or.inr ⟨(w_ hw 434 rfl), rfl, hnm⟩) (w_ hw 214 rfl) (ty := (.array .int)) (by decide) rfl rfl (g := (mkF m 319 #[vr r0, vr r1, vr r2, vi ((0 : Int32) + i6), vr b134, vr b138, vi 0] [(.ref b176_0), (.ref r0)])) rfl rfl (D d31_319)
  have N179 := Fr.snoc X179 N176 ge0
  have k179 := k176.wr W179 (Or.inl (List.mem_of_getElem? (i := 0) rfl))
  have v179 := f177.same W179
  have f180 := (((((((((((f87.other W127 (Or.inl (Ne.symm ne122))).ext E134).ext E138).ext E142).other W145 (Or.inr (Ne.symm (sn81 hw)))).keep K158 (ninS (Ne.symm ne152) nin0)).other W161 (Or.inr (Ne.symm (sn83 hw)))).ext E162).other W165 (Or.inr (Ne.symm (sn86 hw)))).keep K176 (ninS (Ne.symm ne169) nin0)).other W179 (Or.inr (Ne.symm (sn90 hw))))
  have f181 := (((((((((((f123.wr W127).ext E134).ext E138).ext E142).wr W145).keep K158).wr W161).ext E162).wr W165).keep K176).wr W179)
  have f183 := ((((((f151.keep K158).wr W161).ext E162).wr W165).keep K176).wr W179)
  have ne182 : b57 ≠ b142 := Exa.ne f181 f183 (by decide)
  have f185 := ((f168.keep K176).wr W179)
  have ne184 : b57 ≠ b162 := Exa.ne f181 f185 (by decide)
  have f186 := ((((((((((v127.ext E134).ext E138).ext E142).other W145 ne122).keep K158 (ninS ne182 nin0)).other W161 ne122).ext E162).other W165 ne122).keep K176 (ninS ne184 nin0)).other W179 ne122)
  refine ⟨none, T179, _, _, _, X179, fun _ => rfl, (by rw [e179]; exact ⟨b57, rfl, N179, k179, z57, f180, f181, f186⟩), (by decide), (by decide), fun fs hr => pre0 _ ?_⟩
  show SA p e below s₁ m 0 #[vr r0, vr r1, vr r2, un, un, un, un] [] _
  refine XS.aloadN X0.here hx rfl (D d31_0) rfl rfl ?_
  refine st1 _ ?_
  refine XS.aloadN X1.here hx rfl (D d31_4) rfl rfl ?_
  refine st2 _ ?_
  refine XS.dup X2.here hx rfl (D d31_8) rfl rfl ?_
  refine st3 _ ?_
  refine st8 _ ?_
  refine XS.iconst X8.here hx rfl (D d31_15) ?_
  refine XS.istoreN X8.here hx rfl (D d31_16) rfl (l' := #[vr r0, vr r1, vr r2, vi 0, un, un, un]) rfl ?_
  refine XS.aloadN X8.here hx rfl (D d31_17) rfl rfl ?_
  refine st17 _ ?_
  refine st19 _ ?_
  refine XS.astore X19.here hx rfl (D d31_28) rfl rfl (l' := #[vr r0, vr r1, vr r2, vi 0, vr b19_0, un, un]) rfl ?_
  refine XS.aload X19.here hx rfl (D d31_30) rfl rfl ?_
  refine st20 _ ?_
  refine XS.ifNo X20.here hx rfl (D d31_37) rfl ((if0 _ _).trans (feq (by decide : ¬ ((1 : Int32) = (0 : Int32)))).1) ?_
  refine XS.aload X20.here hx rfl (D d31_40) rfl rfl ?_
  refine st24 _ ?_
  refine st26 _ ?_
  refine XS.astore X26.here hx rfl (D d31_50) rfl rfl (l' := #[vr r0, vr r1, vr r2, vi 0, vr b19_0, vr r3, un]) rfl ?_
  refine XS.aloadN X26.here hx rfl (D d31_52) rfl rfl ?_
  refine st31 _ ?_
  refine XS.aload X31.here hx rfl (D d31_56) rfl rfl ?_
  refine st33 _ ?_
  refine st35 _ ?_
  refine XS.iloadN X35.here hx rfl (D d31_66) rfl ?_
  refine st36 _ ?_
  refine st46 _ ?_
  refine XS.pop X46.here hx rfl (D d31_75) rfl rfl ?_
  refine XS.iloadN X46.here hx rfl (D d31_76) rfl ?_
  refine XS.aload X46.here hx rfl (D d31_77) rfl rfl ?_
  refine st49 _ ?_
  refine st51 _ ?_
  refine st53 _ ?_
  refine XS.iadd X53.here hx rfl (D d31_92) rfl ?_
  refine XS.istoreN X53.here hx rfl (D d31_93) rfl (l' := #[vr r0, vr r1, vr r2, vi ((0 : Int32) + i6), vr b19_0, vr r3, un]) rfl ?_
  refine XS.goto X53.here hx rfl (pc0 := 94) (pc' := 30) rfl (D d31_94) (by decide) (by decide) ?_
  refine XS.aload X53.here hx rfl (D d31_30) rfl rfl ?_
  refine st56 _ ?_
  refine XS.ifYes X56.here hx rfl (pc0 := 37) (pc' := 97) rfl (D d31_37) rfl ((if0 _ _).trans (teq (by decide : ((0 : Int32) = (0 : Int32)))).1) (by decide) (by decide) ?_
  refine XS.aloadN X56.here hx rfl (D d31_97) rfl rfl ?_
  refine XS.iloadN X56.here hx rfl (D d31_98) rfl ?_
  refine st57 _ ?_
  refine st60 _ ?_
  refine XS.aloadN X60.here hx rfl (D d31_104) rfl rfl ?_
  refine st66 _ ?_
  refine st76 _ ?_
  refine XS.astore X76.here hx rfl (D d31_115) rfl rfl (l' := #[vr r0, vr r1, vr r2, vi ((0 : Int32) + i6), vr b76_0, vr r3, un]) rfl ?_
  refine XS.aload X76.here hx rfl (D d31_117) rfl rfl ?_
  refine st77 _ ?_
  refine XS.ifNo X77.here hx rfl (D d31_124) rfl ((if0 _ _).trans (feq (by decide : ¬ ((1 : Int32) = (0 : Int32)))).1) ?_
  refine XS.aload X77.here hx rfl (D d31_127) rfl rfl ?_
  refine st81 _ ?_
  refine st83 _ ?_
  refine XS.astore X83.here hx rfl (D d31_137) rfl rfl (l' := #[vr r0, vr r1, vr r2, vi ((0 : Int32) + i6), vr b76_0, vr r3, un]) rfl ?_
  refine XS.aloadN X83.here hx rfl (D d31_139) rfl rfl ?_
  refine st88 _ ?_
  refine XS.aloadN X88.here hx rfl (D d31_143) rfl rfl ?_
  refine st90 _ ?_
  refine XS.aload X90.here hx rfl (D d31_147) rfl rfl ?_
  refine st92 _ ?_
  refine st108 _ ?_
  refine st110 _ ?_
  refine st115 _ ?_
  refine XS.aload X115.here hx rfl (D d31_165) rfl rfl ?_
  refine st117 _ ?_
  refine st119 _ ?_
  refine st121 _ ?_
  refine XS.iadd X121.here hx rfl (D d31_180) rfl ?_
  refine XS.iconst X121.here hx rfl (D d31_181) ?_
  refine XS.isub X121.here hx rfl (D d31_182) rfl ?_
  refine XS.iconst X121.here hx rfl (D d31_183) ?_
  refine st127 _ ?_
  refine XS.goto X127.here hx rfl (pc0 := 185) (pc' := 117) rfl (D d31_185) (by decide) (by decide) ?_
  refine XS.aload X127.here hx rfl (D d31_117) rfl rfl ?_
  refine st130 _ ?_
  refine XS.ifYes X130.here hx rfl (pc0 := 124) (pc' := 188) rfl (D d31_124) rfl ((if0 _ _).trans (teq (by decide : ((0 : Int32) = (0 : Int32)))).1) (by decide) (by decide) ?_
  refine XS.aloadN X130.here hx rfl (D d31_188) rfl rfl ?_
  refine st133 _ ?_
  refine st134 _ ?_
  refine XS.astore X134.here hx rfl (D d31_196) rfl rfl (l' := #[vr r0, vr r1, vr r2, vi ((0 : Int32) + i6), vr b134, vr r3, un]) rfl ?_
  refine XS.aloadN X134.here hx rfl (D d31_198) rfl rfl ?_
  refine st137 _ ?_
  refine st138 _ ?_
  refine XS.astore X138.here hx rfl (D d31_206) rfl rfl (l' := #[vr r0, vr r1, vr r2, vi ((0 : Int32) + i6), vr b134, vr b138, un]) rfl ?_
  refine XS.iconst X138.here hx rfl (D d31_208) ?_
  refine XS.istore X138.here hx rfl (D d31_209) rfl (l' := #[vr r0, vr r1, vr r2, vi ((0 : Int32) + i6), vr b134, vr b138, vi 0]) rfl ?_
  refine XS.iload X138.here hx rfl (D d31_211) rfl ?_
  refine XS.aloadN X138.here hx rfl (D d31_213) rfl rfl ?_
  refine st141 _ ?_
  refine XS.icmpYes X141.here hx rfl (pc0 := 219) (pc' := 274) rfl (D d31_219) rfl (flt (by decide : ¬ ((0 : Int32) < (0 : Int32)))).2.1 (by decide) (by decide) ?_
  refine XS.aloadN X141.here hx rfl (D d31_274) rfl rfl ?_
  refine XS.iloadN X141.here hx rfl (D d31_275) rfl ?_
  refine XS.iconst X141.here hx rfl (D d31_276) ?_
  refine XS.iadd X141.here hx rfl (D d31_277) rfl ?_
  refine st142 _ ?_
  refine st145 _ ?_
  refine XS.aloadN X145.here hx rfl (D d31_283) rfl rfl ?_
  refine XS.aload X145.here hx rfl (D d31_284) rfl rfl ?_
  refine XS.aload X145.here hx rfl (D d31_286) rfl rfl ?_
  refine XS.aloadN X145.here hx rfl (D d31_288) rfl rfl ?_
  refine st146 _ ?_
  refine st158 _ ?_
  refine st161 _ ?_
  refine XS.aloadN X161.here hx rfl (D d31_298) rfl rfl ?_
  refine XS.iloadN X161.here hx rfl (D d31_299) rfl ?_
  refine XS.iconst X161.here hx rfl (D d31_300) ?_
  refine XS.iadd X161.here hx rfl (D d31_301) rfl ?_
  refine st162 _ ?_
  refine st165 _ ?_
  refine XS.aloadN X165.here hx rfl (D d31_307) rfl rfl ?_
  refine XS.aload X165.here hx rfl (D d31_308) rfl rfl ?_
  refine XS.aload X165.here hx rfl (D d31_310) rfl rfl ?_
  refine XS.aloadN X165.here hx rfl (D d31_312) rfl rfl ?_
  refine st166 _ ?_
  refine st176 _ ?_
  refine st179 _ ?_
  show SA p e below T179 m 322 #[vr r0, vr r1, vr r2, vi ((0 : Int32) + i6), vr b134, vr b138, vi 0] [] _
  exact X179.returnOut hx hrt (D d31_322) hr
theorem pd34 : parseMethodDescriptor "(Ljava/util/Map;Ljava/util/List;)V" = some ⟨[(.object "java/util/Map"), (.object "java/util/List")], none⟩ := by decide +kernel
abbrev B53 := prog_25_method_3_code
theorem d53_0 : decode B53 0 = .ok (.iload_n 1, 1) := by decide +kernel
theorem d53_1 : decode B53 1 = .ok (.ifCond .eq 13, 3) := by decide +kernel
theorem d53_14 : decode B53 14 = .ok (.iconst 1, 1) := by decide +kernel
theorem d53_15 : decode B53 15 = .ok (.goto 4, 3) := by decide +kernel
theorem d53_19 : decode B53 19 = .ok (.ireturn, 1) := by decide +kernel
abbrev y65 : MethodName := ⟨"com/example/derivant/derivant/model/NextStateRelation", "isFirst", "(I)Z"⟩
/-- NextStateRelation.isFirst#0 -/
theorem t71 (hw : HW a0 Z) (SB0 : SB Z cv de ca) (r0 : Addr) (i1 : Int32) (O0 : OL Z n0 h0) (q0 : i1 = (0 : Int32))  : CT l Z y65 B53 2 (some .boolean) ⟨0, 0, 0, 0⟩ #[(.ref r0), (.int i1)] h0 (QP0 (some (.int 1)) h0 n0) := by
  refine ct_intro ?_
  intro p e s m below meth c s₁ E0 hx D hml hown hnm hrt X0 e0 hZ hE
  have N0 := Fr.nil n0
  have pre0 := ctp #[vr r0, vi i1] hE
  refine ⟨(some (.int 1)), s₁, _, _, _, X0, (fun hh => by cases hh), (by rw [e0]; exact ⟨rfl, N0, rfl⟩), (by decide), (by decide), fun fs hr => pre0 _ ?_⟩
  show SA p e below s₁ m 0 #[vr r0, vi i1] [] _
  refine XS.iloadN X0.here hx rfl (D d53_0) rfl ?_
  refine XS.ifYes X0.here hx rfl (pc0 := 1) (pc' := 14) rfl (D d53_1) rfl ((if0 _ _).trans (teq q0).1) (by decide) (by decide) ?_
  refine XS.iconst X0.here hx rfl (D d53_14) ?_
  refine XS.goto X0.here hx rfl (pc0 := 15) (pc' := 19) rfl (D d53_15) (by decide) (by decide) ?_
  show SA p e below s₁ m 19 #[vr r0, vi i1] [(.int 1)] _
  exact retN X0 hx (t := .boolean) hrt (by simp) (D d53_19) hr
theorem pd35 : parseMethodDescriptor "(I)Z" = some ⟨[.int], some .boolean⟩ := by decide +kernel
theorem d53_4 : decode B53 4 = .ok (.aload_n 0, 1) := by decide +kernel
theorem d53_5 : decode B53 5 = .ok (.iload_n 1, 1) := by decide +kernel
theorem d53_6 : decode B53 6 = .ok (.iconst 1, 1) := by decide +kernel
theorem d53_7 : decode B53 7 = .ok (.isub, 1) := by decide +kernel
theorem d53_8 : decode B53 8 = .ok (.invokevirtual 108, 3) := by decide +kernel
abbrev B54 := prog_25_method_4_code
theorem d54_0 : decode B54 0 = .ok (.aload_n 0, 1) := by decide +kernel
theorem d54_1 : decode B54 1 = .ok (.getfield 64, 3) := by decide +kernel
theorem d54_4 : decode B54 4 = .ok (.iload_n 1, 1) := by decide +kernel
theorem d54_5 : decode B54 5 = .ok (.baload, 1) := by decide +kernel
theorem d54_6 : decode B54 6 = .ok (.ireturn, 1) := by decide +kernel
abbrev y66 : MethodName := ⟨"com/example/derivant/derivant/model/NextStateRelation", "isLast", "(I)Z"⟩
/-- NextStateRelation.isLast#0 -/
theorem t72 (hw : HW a0 Z) (SB0 : SB Z cv de ca) (r0 : Addr) (i1 : Int32) (r2 : Addr) (i3 : Int32) (u4 : Int32 → Int32) (O0 : OL Z n0 h0) (q0 : P24 Z h0 r0 (.ref r2)) (q1 : AB Z h0 r2 i3 u4) (q2 : ¬ i1 < 0) (q3 : i1 < i3) (q4 : u4 i1 = (0 : Int32))  : CT l Z y66 B54 2 (some .boolean) ⟨0, 0, 0, 0⟩ #[(.ref r0), (.int i1)] h0 (QP0 (some (.int 0)) h0 n0) := by
  refine ct_intro ?_
  intro p e s m below meth c s₁ E0 hx D hml hown hnm hrt X0 e0 hZ hE
  have N0 := Fr.nil n0
  have pre0 := ctp #[vr r0, vi i1] hE
  obtain ⟨T1, X1, e1, st1⟩ := gF X0 hx hZ hown (w_ hw 385 rfl) Via.refl e0 q0 (g := (mkF m 1 #[vr r0, vi i1] [(.ref r0)])) rfl rfl (D d54_1)
  obtain ⟨_, Ar2, S2, M2, H2⟩ := id q1
  refine ⟨(some (.int 0)), T1, _, _, _, X1, (fun hh => by cases hh), (by rw [e1]; exact ⟨rfl, N0, rfl⟩), (by decide), (by decide), fun fs hr => pre0 _ ?_⟩
  show SA p e below s₁ m 0 #[vr r0, vi i1] [] _
  refine XS.aloadN X0.here hx rfl (D d54_0) rfl rfl ?_
  refine st1 _ ?_
  refine XS.iloadN X1.here hx rfl (D d54_4) rfl ?_
  refine X1.baloadBooleans hx (j := i1) (v := .int (0 : Int32)) (by rw [e1]; exact Ar2.1) (State.isArrayOf_alike hZ.alike Ar2.2.1) Ar2.2.2 (AB.inb S2 q2 q3) (AB.at H2 q2 q3 q4) (g := (mkF m 5 #[vr r0, vi i1] [(.int i1), (.ref r2)])) rfl rfl (D d54_5) _ ?_
  show SA p e below T1 m 6 #[vr r0, vi i1] [(.int 0)] _
  exact retN X1 hx (t := .boolean) hrt (by simp) (D d54_6) hr
theorem d53_11 : decode B53 11 = .ok (.ifCond .eq 7, 3) := by decide +kernel
theorem d53_18 : decode B53 18 = .ok (.iconst 0, 1) := by decide +kernel
/-- NextStateRelation.isFirst#1 -/
theorem t73 (hw : HW a0 Z) (SB0 : SB Z cv de ca) (r0 : Addr) (i1 : Int32) (r2 : Addr) (i3 : Int32) (u4 : Int32 → Int32) (O0 : OL Z n0 h0) (q0 : ¬ (i1 = (0 : Int32))) (q1 : E_8 Z h0 r0) (q2 : P24 Z h0 r0 (.ref r2)) (q3 : AB Z h0 r2 i3 u4) (q4 : ¬ (i1 - (1 : Int32)) < 0) (q5 : (i1 - (1 : Int32)) < i3) (q6 : u4 (i1 - (1 : Int32)) = (0 : Int32))  : CT l Z y65 B53 2 (some .boolean) ⟨1, 0, 0, 13⟩ #[(.ref r0), (.int i1)] h0 (QP0 (some (.int 0)) h0 n0) := by
  refine ct_intro ?_
  intro p e s m below meth c s₁ E0 hx D hml hown hnm hrt X0 e0 hZ hE
  have Z0 := O0.le
  have K0 := Keep.refl h0 []
  have hws : ∀ w ∈ ([] : List Addr), n0 ≤ w := all0
  have N0 := Fr.nil n0
  have pre0 := ctp #[vr r0, vi i1] hE
  obtain ⟨v1, T1, L1, X1, Q1, st1⟩ := kV (y := y66) (z := y66) X0 hx hZ hown (t72 hw SB0 r0 (i1 - (1 : Int32)) r2 i3 u4 (O0.keep K0 hws) q2 q3 q4 q5 q6) q1 (nf_of (x := y65) (y' := y65) (args := #[]) (mvT hZ (w_ hw 438 rfl)) rfl) (w_ hw 443 rfl) (w_ hw 444 rfl) (w_ hw 446 rfl) (w_ hw 445 rfl) (w_ hw 215 rfl) (w_ hw 447 rfl) e0 (g := (mkF m 8 #[vr r0, vi i1] [(.int (i1 - (1 : Int32))), (.ref r0)])) rfl hml rfl (argsL := [(.int (i1 - (1 : Int32)))]) (rest := []) (lenOf pd35 rfl) rfl rfl (W := 0) rfl (D d53_8)
  obtain ⟨rfl, M1, e1⟩ := Q1
  have N1 := N0.app M1
  refine ⟨(some (.int 0)), T1, _, _, _, X1, (fun hh => by cases hh), (by rw [e1]; exact ⟨rfl, N1, rfl⟩), (by decide), (by decide), fun fs hr => pre0 _ ?_⟩
  show SA p e below s₁ m 0 #[vr r0, vi i1] [] _
  refine XS.iloadN X0.here hx rfl (D d53_0) rfl ?_
  refine XS.ifNo X0.here hx rfl (D d53_1) rfl ((if0 _ _).trans (feq q0).1) ?_
  refine XS.aloadN X0.here hx rfl (D d53_4) rfl rfl ?_
  refine XS.iloadN X0.here hx rfl (D d53_5) rfl ?_
  refine XS.iconst X0.here hx rfl (D d53_6) ?_
  refine XS.isub X0.here hx rfl (D d53_7) rfl ?_
  refine st1 _ ?_
  refine XS.ifYes X1.here hx rfl (pc0 := 11) (pc' := 18) rfl (D d53_11) rfl ((if0 _ _).trans (teq (by decide : ((0 : Int32) = (0 : Int32)))).1) (by decide) (by decide) ?_
  refine XS.iconst X1.here hx rfl (D d53_18) ?_
  show SA p e below T1 m 19 #[vr r0, vi i1] [(.int 0)] _
  exact retN X1 hx (t := .boolean) hrt (by simp) (D d53_19) hr
/-- StringLatin1.canEncode#1 -/
theorem t74 (hw : HW a0 Z) (SB0 : SB Z cv de ca)  (O0 : OL Z n0 h0)   : CT l Z y3 B6 1 (some .boolean) ⟨0, 0, 0, 0⟩ #[(.int 98)] h0 (QP0 (some (.int 1)) h0 n0) := by
  refine ct_intro ?_
  intro p e s m below meth c s₁ E0 hx D hml hown hnm hrt X0 e0 hZ hE
  have N0 := Fr.nil n0
  have pre0 := ctp #[vi 98] hE
  refine ⟨(some (.int 1)), s₁, _, _, _, X0, (fun hh => by cases hh), (by rw [e0]; exact ⟨rfl, N0, rfl⟩), (by decide), (by decide), fun fs hr => pre0 _ ?_⟩
  show SA p e below s₁ m 0 #[vi 98] [] _
  refine XS.iloadN X0.here hx rfl (D d6_0) rfl ?_
  refine XS.sipush X0.here hx rfl (D d6_1) ?_
  refine XS.icmpNo X0.here hx rfl (D d6_4) rfl (flt (by decide : ¬ ((255 : Int32) < (98 : Int32)))).2.2.1 ?_
  refine XS.iconst X0.here hx rfl (D d6_7) ?_
  refine XS.goto X0.here hx rfl (pc0 := 8) (pc' := 12) rfl (D d6_8) (by decide) (by decide) ?_
  show SA p e below s₁ m 12 #[vi 98] [(.int 1)] _
  exact retN X0 hx (t := .boolean) hrt (by simp) (D d6_12) hr
def Q75 (Z : State) (cv : Int32) (de ca : Addr)  (h0 : Heap) (n0 : Nat) (v : Option Value) (h : Heap) (L : List Loc) : Prop := ∃ (b1 : Addr) (c1 : ClassId), v = (some (.ref b1)) ∧ Fr n0 L ∧ Keep h0 h [] ∧ h0.size ≤ b1 ∧ E_1 Z h b1 ∧ Arv Z h b1 c1 .byte (1 : Int32) [(.int 98)] (.int 0)
/-- StringLatin1.toBytes#1 -/
theorem t75 (hw : HW a0 Z) (SB0 : SB Z cv de ca)  (O0 : OL Z n0 h0)   : CT l Z y4 B7 1 (some (.array .byte)) ⟨0, 1, 1, 0⟩ #[(.int 98)] h0 (Q75 Z cv de ca  h0 n0) := by
  refine ct_intro ?_
  intro p e s m below meth c s₁ E0 hx D hml hown hnm hrt X0 e0 hZ hE
  have Z0 := O0.le
  have K0 := Keep.refl h0 []
  have hws : ∀ w ∈ ([] : List Addr), n0 ≤ w := all0
  have N0 := Fr.nil n0
  have pre0 := ctp #[vi 98] hE
  obtain ⟨T1, h1, c1, X1, e1, E1, A1, B1, st1⟩ := newPE X0 hx hZ (w_ hw 43 rfl) e0 (g := (mkF m 1 #[vi 98] [(.int 1)])) rfl (D d7_1) rfl (by decide) (cap := 1) (by decide) (by decide) (by decide) (by decide) (ad := "[B") (by decide)
  obtain ⟨b1, g1⟩ : ∃ z, z = h0.size := ⟨_, rfl⟩
  rw [← g1] at A1 B1 st1
  have z1 : h0.size ≤ b1 := Nat.le_trans K0.1 (Nat.le_of_eq g1.symm)
  have k1 := K0.ext E1
  have v1 : Arv Z h1 b1 c1 .byte (1 : Int32) [(.int 0)] (.int 0) := (Arv.new A1 (by decide)).pad (pad_rep [] (.int 0) 1)
  obtain ⟨_, Ar2, C2, S2, M2, H2, G2⟩ := id v1
  obtain ⟨T3, h3, X3, e3, W3, st3⟩ := stB X1 hx hZ e1 Ar2 (j := (0 : Int32)) (inb_of S2 ⟨by decide, by decide⟩) (g := (mkF m 7 #[vi 98] [(.int 98), (.int 0), (.ref b1), (.ref b1)])) rfl rfl (D d7_7)
  have N3 := Fr.snoc X3 N0 (Nat.le_trans Z0 z1)
  have k3 := k1.wr W3 (Or.inr z1)
  have v3 : Arv Z h3 b1 c1 .byte (1 : Int32) [(.int 98)] (.int 0) := Arv.set Ar2 C2 S2 M2 H2 G2 rfl W3 0 rfl (by show 0 < 1; decide)
  have f4 := (B1.wr W3)
  refine ⟨(some (.ref b1)), T3, _, _, _, X3, (fun hh => by cases hh), (by rw [e3]; exact ⟨b1, c1, rfl, N3, k3, z1, f4, v3⟩), (by decide), (by decide), fun fs hr => pre0 _ ?_⟩
  show SA p e below s₁ m 0 #[vi 98] [] _
  refine XS.iconst X0.here hx rfl (D d7_0) ?_
  refine st1 _ ?_
  refine XS.dup X1.here hx rfl (D d7_3) rfl rfl ?_
  refine XS.iconst X1.here hx rfl (D d7_4) ?_
  refine XS.iloadN X1.here hx rfl (D d7_5) rfl ?_
  refine XS.i2b X1.here hx rfl (D d7_6) rfl ?_
  refine st3 _ ?_
  show SA p e below T3 m 8 #[vi 98] [(.ref b1)] _
  exact retOut X3 hx hrt rfl (Or.inr (Or.inr (Or.inr (Or.inr ⟨rfl, rfl, rfl⟩)))) (D d7_8) hr
def Q76 (Z : State) (cv : Int32) (de ca : Addr)  (h0 : Heap) (n0 : Nat) (v : Option Value) (h : Heap) (L : List Loc) : Prop := ∃ (b3 b4_0 : Addr) (c4_1 : ClassId), v = (some (.ref b3)) ∧ Fr n0 L ∧ Keep h0 h [] ∧ h0.size ≤ b3 ∧ h0.size ≤ b4_0 ∧ E_2 Z h b3 ∧ P10 Z h b3 (.ref b4_0) ∧ P11 Z h b3 (.int 0) ∧ P12 Z h b3 (.int 0) ∧ P13 Z h b3 (.int 0) ∧ E_1 Z h b4_0 ∧ Arv Z h b4_0 c4_1 .byte (1 : Int32) [(.int 98)] (.int 0)
/-- String.valueOf#1 -/
theorem t76 (hw : HW a0 Z) (SB0 : SB Z cv de ca)  (O0 : OL Z n0 h0)   : CT l Z y6 B5 1 (some (.object "java/lang/String")) ⟨2, 2, 5, 27⟩ #[(.int 98)] h0 (Q76 Z cv de ca  h0 n0) := by
  refine ct_intro ?_
  intro p e s m below meth c s₁ E0 hx D hml hown hnm hrt X0 e0 hZ hE
  have Z0 := O0.le
  have K0 := Keep.refl h0 []
  have hws : ∀ w ∈ ([] : List Addr), n0 ≤ w := all0
  have N0 := Fr.nil n0
  have pre0 := ctp #[vi 98] hE
  obtain ⟨T1, X1, e1, st1⟩ := getS2 X0 hx hZ hown (host := "") (Or.inl (w_ hw 33 rfl)) Via.refl e0 (SB0.1.ext (O0.keep K0 hws).2) (g := (mkF m 0 #[vi 98] [])) rfl (D d5_0)
  obtain ⟨v2, T2, L2, X2, Q2, st2⟩ := kS X1 hx hZ hown (t74 hw SB0  (O0.keep K0 hws) ) (w_ hw 34 rfl) (w_ hw 35 rfl) (w_ hw 36 rfl) (w_ hw 37 rfl) e1 (g := (mkF m 7 #[vi 98] [(.int 98)])) rfl hml rfl (argsL := [(.int 98)]) (rest := []) (lenOf pd1 rfl) rfl rfl (W := 0) rfl (D d5_7)
  obtain ⟨rfl, M2, e2⟩ := Q2
  have N2 := N0.app M2
  obtain ⟨T3, h3, X3, e3, E3, A3, D3, -, st3⟩ := newO X2 hx hZ hown (w_ hw 38 rfl) (w_ hw 39 rfl) (w_ hw 31 rfl) e2 (g := (mkF m 13 #[vi 98] [])) rfl (D d5_13) (by decide) (by decide)
  obtain ⟨b3, g3⟩ : ∃ z, z = h0.size := ⟨_, rfl⟩
  rw [← g3] at A3 D3 st3
  have z3 : h0.size ≤ b3 := Nat.le_trans K0.1 (Nat.le_of_eq g3.symm)
  have k3 := K0.ext E3
  have F3_50 : P10 Z h3 b3 .null := D3 (Or.inr (w_ hw 50 rfl)) (ty := (.array .byte)) (by decide)
  have F3_52 : P11 Z h3 b3 (.int 0) := D3 (Or.inr (w_ hw 52 rfl)) (ty := .byte) (by decide)
  have F3_134 : P12 Z h3 b3 (.int 0) := D3 (Or.inl (w_ hw 134 rfl)) (ty := .int) (by decide)
  have F3_136 : P13 Z h3 b3 (.int 0) := D3 (Or.inl (w_ hw 136 rfl)) (ty := .boolean) (by decide)
  obtain ⟨v4, T4, L4, X4, Q4, st4⟩ := kS X3 hx hZ hown (t75 hw SB0  (O0.keep k3 hws) ) (w_ hw 40 rfl) (w_ hw 41 rfl) (w_ hw 36 rfl) (w_ hw 42 rfl) e3 (g := (mkF m 18 #[vi 98] [(.int 98), (.ref b3), (.ref b3)])) rfl hml rfl (argsL := [(.int 98)]) (rest := [(.ref b3), (.ref b3)]) (lenOf pd2 rfl) rfl rfl (W := 2) rfl (D d5_18)
  obtain ⟨h4, e4⟩ : ∃ z, T4.heap = z := ⟨_, rfl⟩
  rw [e4] at Q4
  obtain ⟨b4_0, c4_1, rfl, M4, K4, y4_0, F4_0, F4_1⟩ := Q4
  have N4 := N2.app M4
  have z4_b4_0 := Nat.le_trans k3.1 y4_0
  have k4 := k3.trans K4 all0
  have f5 := (A3.keep K4)
  have f6 := (F3_50.keep K4 nin0)
  have f7 := (F3_52.keep K4 nin0)
  have f8 := (F3_134.keep K4 nin0)
  have f9 := (F3_136.keep K4 nin0)
  obtain ⟨v10, T10, L10, X10, Q10, st10⟩ := kI X4 hx hZ hown (t6 hw SB0 b3 b4_0 (O0.keep k4 hws) f5 f6 f7 f8 f9 (Nat.le_trans Z0 z3)) rfl (w_ hw 44 rfl) (w_ hw 45 rfl) (w_ hw 31 rfl) (w_ hw 47 rfl) e4 (g := (mkF m 22 #[vi 98] [(.int 0), (.ref b4_0), (.ref b3), (.ref b3)])) rfl hml rfl (argsL := [(.ref b4_0), (.int 0)]) (rest := [(.ref b3)]) (lenOf pd3 rfl) rfl rfl (W := 1) rfl (D d5_22)
  obtain ⟨h10, e10⟩ : ∃ z, T10.heap = z := ⟨_, rfl⟩
  rw [e10] at Q10
  obtain ⟨rfl, M10, K10, F10_0, F10_1, F10_2, F10_3⟩ := Q10
  have N10 := N4.app M10
  have k10 := k4.trans K10 (allS (Or.inr z3) all0)
  have f11 := (f5.keep K10)
  have f12 := (F4_0.keep K10)
  have ne13 : b4_0 ≠ b3 := Exa.ne f12 f11 (by decide)
  have f14 := (F4_1.keep K10 (ninS ne13 nin0))
  refine ⟨(some (.ref b3)), T10, _, _, _, X10, (fun hh => by cases hh), (by rw [e10]; exact ⟨b3, b4_0, c4_1, rfl, N10, k10, z3, z4_b4_0, f11, F10_0, F10_1, F10_2, F10_3, f12, f14⟩), (by decide), (by decide), fun fs hr => pre0 _ ?_⟩
  show SA p e below s₁ m 0 #[vi 98] [] _
  refine st1 _ ?_
  refine XS.ifNo X1.here hx rfl (D d5_3) rfl ((if0 _ _).trans (feq SB0.2.1).1) ?_
  refine XS.iloadN X1.here hx rfl (D d5_6) rfl ?_
  refine st2 _ ?_
  refine XS.ifNo X2.here hx rfl (D d5_10) rfl ((if0 _ _).trans (feq (by decide : ¬ ((1 : Int32) = (0 : Int32)))).1) ?_
  refine st3 _ ?_
  refine XS.dup X3.here hx rfl (D d5_16) rfl rfl ?_
  refine XS.iloadN X3.here hx rfl (D d5_17) rfl ?_
  refine st4 _ ?_
  refine XS.iconst X4.here hx rfl (D d5_21) ?_
  refine st10 _ ?_
  show SA p e below T10 m 25 #[vi 98] [(.ref b3)] _
  exact retOut X10 hx hrt rfl (Or.inr (Or.inr (Or.inr (Or.inr ⟨rfl, rfl, rfl⟩)))) (D d5_25) hr
/-- StringLatin1.hashCode#1 -/
theorem t77 (hw : HW a0 Z) (SB0 : SB Z cv de ca) (r0 : Addr) (k1 : ClassId) (O0 : OL Z n0 h0) (q0 : Arv Z h0 r0 k1 .byte (1 : Int32) [(.int 98)] (.int 0))  : CT l Z y20 B22 1 (some .int) ⟨0, 0, 0, 0⟩ #[(.ref r0)] h0 (QP0 (some (.int 98)) h0 n0) := by
  refine ct_intro ?_
  intro p e s m below meth c s₁ E0 hx D hml hown hnm hrt X0 e0 hZ hE
  have N0 := Fr.nil n0
  have pre0 := ctp #[vr r0] hE
  obtain ⟨_, Ar1, -, S1, M1, -, -⟩ := id q0
  obtain ⟨_, Ar2, -, S2, M2, H2, -⟩ := id q0
  refine ⟨(some (.int 98)), s₁, _, _, _, X0, (fun hh => by cases hh), (by rw [e0]; exact ⟨rfl, N0, rfl⟩), (by decide), (by decide), fun fs hr => pre0 _ ?_⟩
  show SA p e below s₁ m 0 #[vr r0] [] _
  refine XS.aloadN X0.here hx rfl (D d22_0) rfl rfl ?_
  refine X0.arraylength hx (by rw [e0]; exact Ar1.1) (State.isArrayOf_alike hZ.alike Ar1.2.1) (g := (mkF m 1 #[vr r0] [(.ref r0)])) rfl rfl (D d22_1) _ ?_
  rw [len_of S1 M1]
  show SA p e below s₁ m 2 #[vr r0] [(.int 1)] _
  refine X0.lookupswitchHit hx (g := (mkF m 2 #[vr r0] [(.int 1)])) rfl rfl (D d22_2) (by decide) (a := 1) (off := 30) (by decide) (by show (0 : Int) ≤ ((2 : Nat) : Int) + 30; decide) _ ?_
  show SA p e below s₁ m 32 #[vr r0] [] _
  refine XS.aloadN X0.here hx rfl (D d22_32) rfl rfl ?_
  refine XS.iconst X0.here hx rfl (D d22_33) ?_
  refine X0.baloadBytes hx (j := (0 : Int32)) (v := (.int 98)) (by rw [e0]; exact Ar2.1) (State.isArrayOf_alike hZ.alike Ar2.2.1) Ar2.2.2 (inb_of S2 ⟨by decide, by decide⟩) (Has.at H2 (inb_of S2 ⟨by decide, by decide⟩) rfl) (g := (mkF m 34 #[vr r0] [(.int 0), (.ref r0)])) rfl rfl (D d22_34) _ ?_
  show SA p e below s₁ m 35 #[vr r0] [(.int 98)] _
  refine XS.sipush X0.here hx rfl (D d22_35) ?_
  refine XS.iand X0.here hx rfl (D d22_38) rfl ?_
  refine XS.goto X0.here hx rfl (pc0 := 39) (pc' := 51) rfl (D d22_39) (by decide) (by decide) ?_
  show SA p e below s₁ m 51 #[vr r0] [(.int 98)] _
  exact retOut X0 hx hrt rfl (Or.inl ⟨rfl, Or.inl rfl, _, rfl⟩) (D d22_51) hr
def Q78 (Z : State) (cv : Int32) (de ca : Addr) (r0 r1 : Addr) (k2 : ClassId) (h0 : Heap) (n0 : Nat) (v : Option Value) (h : Heap) (L : List Loc) : Prop := v = (some (.int 98)) ∧ Fr n0 L ∧ Keep h0 h [r0] ∧ P12 Z h r0 (.int 98) ∧ P13 Z h r0 (.int 0) ∧ P11 Z h r0 (.int 0) ∧ P10 Z h r0 (.ref r1)
/-- String.hashCode#2 -/
theorem t78 (hw : HW a0 Z) (SB0 : SB Z cv de ca) (r0 r1 : Addr) (k2 : ClassId) (O0 : OL Z n0 h0) (q0 : P12 Z h0 r0 (.int 0)) (q1 : P13 Z h0 r0 (.int 0)) (q2 : E_2 Z h0 r0) (q3 : P11 Z h0 r0 (.int 0)) (q4 : P10 Z h0 r0 (.ref r1)) (q5 : Arv Z h0 r1 k2 .byte (1 : Int32) [(.int 98)] (.int 0)) (ge0 : n0 ≤ r0) : CT l Z y19 B20 2 (some .int) ⟨1, 0, 0, 12⟩ #[(.ref r0)] h0 (Q78 Z cv de ca r0 r1 k2 h0 n0) := by
  refine ct_intro ?_
  intro p e s m below meth c s₁ E0 hx D hml hown hnm hrt X0 e0 hZ hE
  have Z0 := O0.le
  have K0 := Keep.refl h0 [r0]
  have hws : ∀ w ∈ ([r0] : List Addr), n0 ≤ w := (allS ge0 all0)
  have N0 := Fr.nil n0
  have pre0 := ctp #[vr r0, un] hE
  obtain ⟨T1, X1, e1, st1⟩ := gF X0 hx hZ hown (w_ hw 133 rfl) Via.refl e0 q0 (g := (mkF m 1 #[vr r0, un] [(.ref r0)])) rfl rfl (D d20_1)
  obtain ⟨T2, X2, e2, st2⟩ := gF X1 hx hZ hown (w_ hw 135 rfl) Via.refl e1 q1 (g := (mkF m 10 #[vr r0, vi 0] [(.ref r0)])) rfl rfl (D d20_10)
  obtain ⟨v3, T3, L3, X3, Q3, st3⟩ := kV (y := y17) (z := y17) X2 hx hZ hown (t26 hw SB0 r0 (O0.keep K0 hws) q3) q2 (nf_of (x := y18) (y' := y19) (args := #[]) (mvT hZ (w_ hw 130 rfl)) rfl) (w_ hw 137 rfl) (w_ hw 138 rfl) (w_ hw 140 rfl) (w_ hw 139 rfl) (w_ hw 31 rfl) (w_ hw 141 rfl) e2 (g := (mkF m 17 #[vr r0, vi 0] [(.ref r0)])) rfl hml rfl (argsL := []) (rest := []) (lenOf pd11 rfl) rfl rfl (W := 0) rfl (D d20_17)
  obtain ⟨rfl, M3, e3⟩ := Q3
  have N3 := N0.app M3
  obtain ⟨T4, X4, e4, st4⟩ := gF X3 hx hZ hown (w_ hw 49 rfl) Via.refl e3 q4 (g := (mkF m 24 #[vr r0, vi 0] [(.ref r0)])) rfl rfl (D d20_24)
  obtain ⟨v5, T5, L5, X5, Q5, st5⟩ := kS X4 hx hZ hown (t77 hw SB0 r1 k2 (O0.keep K0 hws) q5) (w_ hw 142 rfl) (w_ hw 143 rfl) (w_ hw 36 rfl) (w_ hw 144 rfl) e4 (g := (mkF m 27 #[vr r0, vi 0] [(.ref r1)])) rfl hml rfl (argsL := [(.ref r1)]) (rest := []) (lenOf pd12 rfl) rfl rfl (W := 0) rfl (D d20_27)
  obtain ⟨rfl, M5, e5⟩ := Q5
  have N5 := N3.app M5
  obtain ⟨T6, h6, X6, e6, W6, st6⟩ := putF X5 hx hZ hown (host := "") (Or.inl (w_ hw 133 rfl)) Via.refl e5 q0 q2 (Or.inl (w_ hw 134 rfl)) (w_ hw 39 rfl) (ty := .int) (by decide) rfl rfl (g := (mkF m 55 #[vr r0, vi 98] [(.int 98), (.ref r0)])) rfl rfl (D d20_55)
  have N6 := Fr.snoc X6 N5 ge0
  have k6 := K0.wr W6 (Or.inl (List.mem_of_getElem? (i := 0) rfl))
  have v6 := q0.same W6
  have f7 := (q1.other W6 (Or.inr (sn32 hw)))
  have f8 := (q3.other W6 (Or.inr (Ne.symm (sn26 hw))))
  have f9 := (q4.other W6 (Or.inr (Ne.symm (sn25 hw))))
  refine ⟨(some (.int 98)), T6, _, _, _, X6, (fun hh => by cases hh), (by rw [e6]; exact ⟨rfl, N6, k6, v6, f7, f8, f9⟩), (by decide), (by decide), fun fs hr => pre0 _ ?_⟩
  show SA p e below s₁ m 0 #[vr r0, un] [] _
  refine XS.aloadN X0.here hx rfl (D d20_0) rfl rfl ?_
  refine st1 _ ?_
  refine XS.istoreN X1.here hx rfl (D d20_4) rfl (l' := #[vr r0, vi 0]) rfl ?_
  refine XS.iloadN X1.here hx rfl (D d20_5) rfl ?_
  refine XS.ifNo X1.here hx rfl (D d20_6) rfl ((if0 _ _).trans (teq (by decide : ((0 : Int32) = (0 : Int32)))).2) ?_
  refine XS.aloadN X1.here hx rfl (D d20_9) rfl rfl ?_
  refine st2 _ ?_
  refine XS.ifNo X2.here hx rfl (D d20_13) rfl ((if0 _ _).trans (teq (by decide : ((0 : Int32) = (0 : Int32)))).2) ?_
  refine XS.aloadN X2.here hx rfl (D d20_16) rfl rfl ?_
  refine st3 _ ?_
  refine XS.ifNo X3.here hx rfl (D d20_20) rfl ((if0 _ _).trans (feq (by decide : ¬ ((1 : Int32) = (0 : Int32)))).1) ?_
  refine XS.aloadN X3.here hx rfl (D d20_23) rfl rfl ?_
  refine st4 _ ?_
  refine st5 _ ?_
  refine XS.goto X5.here hx rfl (pc0 := 30) (pc' := 40) rfl (D d20_30) (by decide) (by decide) ?_
  refine XS.istoreN X5.here hx rfl (D d20_40) rfl (l' := #[vr r0, vi 98]) rfl ?_
  refine XS.iloadN X5.here hx rfl (D d20_41) rfl ?_
  refine XS.ifYes X5.here hx rfl (pc0 := 42) (pc' := 53) rfl (D d20_42) rfl ((if0 _ _).trans (feq (by decide : ¬ ((98 : Int32) = (0 : Int32)))).2) (by decide) (by decide) ?_
  refine XS.aloadN X5.here hx rfl (D d20_53) rfl rfl ?_
  refine XS.iloadN X5.here hx rfl (D d20_54) rfl ?_
  refine st6 _ ?_
  refine XS.iloadN X6.here hx rfl (D d20_58) rfl ?_
  show SA p e below T6 m 59 #[vr r0, vi 98] [(.int 98)] _
  exact retOut X6 hx hrt rfl (Or.inl ⟨rfl, Or.inl rfl, _, rfl⟩) (D d20_59) hr
def Q79 (Z : State) (cv : Int32) (de ca : Addr) (r0 r1 : Addr) (k2 : ClassId) (h0 : Heap) (n0 : Nat) (v : Option Value) (h : Heap) (L : List Loc) : Prop := v = (some (.int 98)) ∧ Fr n0 L ∧ Keep h0 h [r0] ∧ P12 Z h r0 (.int 98) ∧ P13 Z h r0 (.int 0) ∧ P11 Z h r0 (.int 0) ∧ P10 Z h r0 (.ref r1)
/-- HashMap.hash#2 -/
theorem t79 (hw : HW a0 Z) (SB0 : SB Z cv de ca) (r0 r1 : Addr) (k2 : ClassId) (O0 : OL Z n0 h0) (q0 : E_2 Z h0 r0) (q1 : P12 Z h0 r0 (.int 0)) (q2 : P13 Z h0 r0 (.int 0)) (q3 : P11 Z h0 r0 (.int 0)) (q4 : P10 Z h0 r0 (.ref r1)) (q5 : Arv Z h0 r1 k2 .byte (1 : Int32) [(.int 98)] (.int 0)) (ge0 : n0 ≤ r0) : CT l Z y23 B19 2 (some .int) ⟨2, 0, 0, 25⟩ #[(.ref r0)] h0 (Q79 Z cv de ca r0 r1 k2 h0 n0) := by
  refine ct_intro ?_
  intro p e s m below meth c s₁ E0 hx D hml hown hnm hrt X0 e0 hZ hE
  have Z0 := O0.le
  have K0 := Keep.refl h0 [r0]
  have hws : ∀ w ∈ ([r0] : List Addr), n0 ≤ w := (allS ge0 all0)
  have N0 := Fr.nil n0
  have pre0 := ctp #[vr r0, un] hE
  obtain ⟨v1, T1, L1, X1, Q1, st1⟩ := kV (y := y18) (z := y19) X0 hx hZ hown (t78 hw SB0 r0 r1 k2 (O0.keep K0 hws) q1 q2 q0 q3 q4 q5 ge0) q0 (nf_of (x := y21) (y' := y22) (args := #[]) (mvT hZ (w_ hw 424 rfl)) rfl) (w_ hw 127 rfl) (w_ hw 128 rfl) (w_ hw 130 rfl) (w_ hw 131 rfl) (w_ hw 31 rfl) (w_ hw 132 rfl) e0 (g := (mkF m 9 #[vr r0, un] [(.ref r0)])) rfl hml rfl (argsL := []) (rest := []) (lenOf pd13 rfl) rfl rfl (W := 0) rfl (D d19_9)
  obtain ⟨h1, e1⟩ : ∃ z, T1.heap = z := ⟨_, rfl⟩
  rw [e1] at Q1
  obtain ⟨rfl, M1, K1, F1_0, F1_1, F1_2, F1_3⟩ := Q1
  have N1 := N0.app M1
  have k1 := K0.trans K1 (allS (Or.inl (List.mem_of_getElem? (i := 0) rfl)) all0)
  refine ⟨(some (.int 98)), T1, _, _, _, X1, (fun hh => by cases hh), (by rw [e1]; exact ⟨rfl, N1, k1, F1_0, F1_1, F1_2, F1_3⟩), (by decide), (by decide), fun fs hr => pre0 _ ?_⟩
  show SA p e below s₁ m 0 #[vr r0, un] [] _
  refine XS.aloadN X0.here hx rfl (D d19_0) rfl rfl ?_
  refine XS.ifnonnullYes X0.here hx rfl (pc0 := 1) (pc' := 8) rfl (D d19_1) rfl (by decide) (by decide) ?_
  refine XS.aloadN X0.here hx rfl (D d19_8) rfl rfl ?_
  refine st1 _ ?_
  refine XS.dup X1.here hx rfl (D d19_12) rfl rfl ?_
  refine XS.istoreN X1.here hx rfl (D d19_13) rfl (l' := #[vr r0, vi 98]) rfl ?_
  refine XS.iloadN X1.here hx rfl (D d19_14) rfl ?_
  refine XS.bipush X1.here hx rfl (D d19_15) ?_
  refine XS.iushr X1.here hx rfl (D d19_17) rfl ?_
  refine XS.ixor X1.here hx rfl (D d19_18) rfl ?_
  show SA p e below T1 m 19 #[vr r0, vi 98] [(.int 98)] _
  exact retOut X1 hx hrt rfl (Or.inl ⟨rfl, Or.inl rfl, _, rfl⟩) (D d19_19) hr
theorem d23_10 : decode B23 10 = .ok (.aload 6, 2) := by decide +kernel
theorem d23_12 : decode B23 12 = .ok (.arraylength, 1) := by decide +kernel
theorem d23_13 : decode B23 13 = .ok (.dup, 1) := by decide +kernel
theorem d23_14 : decode B23 14 = .ok (.istore 8, 2) := by decide +kernel
theorem d23_16 : decode B23 16 = .ok (.ifCond .ne 13, 3) := by decide +kernel
theorem d28_65 : decode B28 65 = .ok (.aload_n 1, 1) := by decide +kernel
theorem d28_66 : decode B28 66 = .ok (.aload_n 2, 1) := by decide +kernel
theorem d28_67 : decode B28 67 = .ok (.putfield 19, 3) := by decide +kernel
theorem d28_70 : decode B28 70 = .ok (.aload_n 2, 1) := by decide +kernel
theorem d28_71 : decode B28 71 = .ok (.aload_n 1, 1) := by decide +kernel
theorem d28_72 : decode B28 72 = .ok (.putfield 14, 3) := by decide +kernel
theorem sn94 {a0 Z} (hw : HW a0 Z) : S_21 Z ≠ S_22 Z := Jvm.RoadKit.slot_ne (ly21 hw) (ly22 hw) (by decide) pf4 pf4
def Q80 (Z : State) (cv : Int32) (de ca : Addr) (r0 r1 r2 r3 : Addr) (i4 : Int32) (r5 r6 r7 r8 : Addr) (h0 : Heap) (n0 : Nat) (v : Option Value) (h : Heap) (L : List Loc) : Prop := v = none ∧ Fr n0 L ∧ Keep h0 h [r0, r1, r2] ∧ P1 Z h r0 (.int 0) ∧ P5 Z h r0 (.ref r1) ∧ P3 Z h r0 (.ref r3) ∧ P4 Z h r0 (.int 12) ∧ P2 Z h r0 (.int 0) ∧ P6 Z h r0 (.ref r2) ∧ P7 Z h r0 (.int 1) ∧ P8 Z h r0 (.int 1) ∧ P9 Z h r0 .null ∧ P17 Z h r1 (.int i4) ∧ P18 Z h r1 (.ref r5) ∧ P19 Z h r1 (.ref r6) ∧ P21 Z h r1 .null ∧ P17 Z h r2 (.int 97) ∧ P18 Z h r2 (.ref r7) ∧ P19 Z h r2 (.ref r8) ∧ P21 Z h r2 (.ref r1) ∧ P22 Z h r2 .null
/-- LinkedHashMap.linkNodeAtEnd#1 -/
theorem t80 (hw : HW a0 Z) (SB0 : SB Z cv de ca) (r0 r1 r2 r3 : Addr) (i4 : Int32) (r5 r6 r7 r8 : Addr) (O0 : OL Z n0 h0) (q0 : P1 Z h0 r0 (.int 0)) (q1 : P5 Z h0 r0 (.ref r2)) (q2 : E_0 Z h0 r0) (q3 : P3 Z h0 r0 (.ref r3)) (q4 : P4 Z h0 r0 (.int 12)) (q5 : P2 Z h0 r0 (.int 0)) (q6 : P6 Z h0 r0 (.ref r2)) (q7 : P7 Z h0 r0 (.int 1)) (q8 : P8 Z h0 r0 (.int 1)) (q9 : P9 Z h0 r0 .null) (q10 : E_6 Z h0 r1) (q11 : P17 Z h0 r1 (.int i4)) (q12 : P18 Z h0 r1 (.ref r5)) (q13 : P19 Z h0 r1 (.ref r6)) (q14 : P21 Z h0 r1 .null) (q15 : P22 Z h0 r1 .null) (q16 : E_6 Z h0 r2) (q17 : P17 Z h0 r2 (.int 97)) (q18 : P18 Z h0 r2 (.ref r7)) (q19 : P19 Z h0 r2 (.ref r8)) (q20 : P21 Z h0 r2 .null) (q21 : P22 Z h0 r2 .null) (q22 : r2 ≠ r1) (ge0 : n0 ≤ r0) (ge1 : n0 ≤ r1) (ge2 : n0 ≤ r2) : CT l Z y29 B28 3 none ⟨0, 0, 0, 0⟩ #[(.ref r0), (.ref r1)] h0 (Q80 Z cv de ca r0 r1 r2 r3 i4 r5 r6 r7 r8 h0 n0) := by
  refine ct_intro ?_
  intro p e s m below meth c s₁ E0 hx D hml hown hnm hrt X0 e0 hZ hE
  have Z0 := O0.le
  have K0 := Keep.refl h0 [r0, r1, r2]
  have hws : ∀ w ∈ ([r0, r1, r2] : List Addr), n0 ≤ w := (allS ge0 (allS ge1 (allS ge2 all0)))
  have N0 := Fr.nil n0
  have pre0 := ctp #[vr r0, vr r1, un] hE
  obtain ⟨T1, X1, e1, st1⟩ := gF X0 hx hZ hown (w_ hw 25 rfl) Via.refl e0 q0 (g := (mkF m 1 #[vr r0, vr r1, un] [(.ref r0)])) rfl rfl (D d28_1)
  obtain ⟨T2, X2, e2, st2⟩ := gF X1 hx hZ hown (w_ hw 194 rfl) Via.refl e1 q1 (g := (mkF m 44 #[vr r0, vr r1, un] [(.ref r0)])) rfl rfl (D d28_44)
  obtain ⟨T3, h3, X3, e3, W3, st3⟩ := putF X2 hx hZ hown (host := "") (Or.inl (w_ hw 194 rfl)) Via.refl e2 q1 q2 (Or.inl (w_ hw 195 rfl)) (w_ hw 2 rfl) (ty := (.object "java/util/LinkedHashMap$Entry")) (by decide) rfl rfl (g := (mkF m 50 #[vr r0, vr r1, vr r2] [(.ref r1), (.ref r0)])) rfl rfl (D d28_50)
  have N3 := Fr.snoc X3 N0 ge0
  have k3 := K0.wr W3 (Or.inl (List.mem_of_getElem? (i := 0) rfl))
  have v3 := q1.same W3
  have f5 := (q10.wr W3)
  have f6 := (q2.wr W3)
  have ne4 : r1 ≠ r0 := Exa.ne f5 f6 (by decide)
  have f7 := (q15.other W3 (Or.inl ne4))
  obtain ⟨T8, h8, X8, e8, W8, st8⟩ := putF X3 hx hZ hown (host := "") (Or.inl (w_ hw 440 rfl)) Via.refl e3 f7 f5 (Or.inl (w_ hw 441 rfl)) (w_ hw 168 rfl) (ty := (.object "java/util/LinkedHashMap$Entry")) (by decide) rfl rfl (g := (mkF m 67 #[vr r0, vr r1, vr r2] [(.ref r2), (.ref r1)])) rfl rfl (D d28_67)
  have N8 := Fr.snoc X8 N3 ge1
  have k8 := k3.wr W8 (Or.inl (List.mem_of_getElem? (i := 1) rfl))
  have v8 := f7.same W8
  have f10 := ((q16.wr W3).wr W8)
  have f11 := (f6.wr W8)
  have ne9 : r2 ≠ r0 := Exa.ne f10 f11 (by decide)
  have f13 := ((q20.other W3 (Or.inl ne9)).other W8 (Or.inl q22))
  obtain ⟨T14, h14, X14, e14, W14, st14⟩ := putF X8 hx hZ hown (host := "") (Or.inl (w_ hw 442 rfl)) Via.refl e8 f13 f10 (Or.inl (w_ hw 327 rfl)) (w_ hw 168 rfl) (ty := (.object "java/util/LinkedHashMap$Entry")) (by decide) rfl rfl (g := (mkF m 72 #[vr r0, vr r1, vr r2] [(.ref r1), (.ref r2)])) rfl rfl (D d28_72)
  have N14 := Fr.snoc X14 N8 ge2
  have k14 := k8.wr W14 (Or.inl (List.mem_of_getElem? (i := 2) rfl))
  have v14 := f13.same W14
  have f15 := (((q0.other W3 (Or.inr (Ne.symm (sn14 hw)))).other W8 (Or.inl (Ne.symm ne4))).other W14 (Or.inl (Ne.symm ne9)))
  have f16 := ((v3.other W8 (Or.inl (Ne.symm ne4))).other W14 (Or.inl (Ne.symm ne9)))
  have f17 := (((q3.other W3 (Or.inr (Ne.symm (sn35 hw)))).other W8 (Or.inl (Ne.symm ne4))).other W14 (Or.inl (Ne.symm ne9)))
  have f18 := (((q4.other W3 (Or.inr (Ne.symm (sn34 hw)))).other W8 (Or.inl (Ne.symm ne4))).other W14 (Or.inl (Ne.symm ne9)))
  have f19 := (((q5.other W3 (Or.inr (Ne.symm (sn15 hw)))).other W8 (Or.inl (Ne.symm ne4))).other W14 (Or.inl (Ne.symm ne9)))
  have f20 := (((q6.other W3 (Or.inr (sn58 hw))).other W8 (Or.inl (Ne.symm ne4))).other W14 (Or.inl (Ne.symm ne9)))
  have f21 := (((q7.other W3 (Or.inr (sn59 hw))).other W8 (Or.inl (Ne.symm ne4))).other W14 (Or.inl (Ne.symm ne9)))
  have f22 := (((q8.other W3 (Or.inr (sn61 hw))).other W8 (Or.inl (Ne.symm ne4))).other W14 (Or.inl (Ne.symm ne9)))
  have f23 := (((q9.other W3 (Or.inr (sn63 hw))).other W8 (Or.inl (Ne.symm ne4))).other W14 (Or.inl (Ne.symm ne9)))
  have f24 := (((q11.other W3 (Or.inl ne4)).other W8 (Or.inr (Ne.symm (sn54 hw)))).other W14 (Or.inl (Ne.symm q22)))
  have f25 := (((q12.other W3 (Or.inl ne4)).other W8 (Or.inr (Ne.symm (sn55 hw)))).other W14 (Or.inl (Ne.symm q22)))
  have f26 := (((q13.other W3 (Or.inl ne4)).other W8 (Or.inr (Ne.symm (sn56 hw)))).other W14 (Or.inl (Ne.symm q22)))
  have f27 := (((q14.other W3 (Or.inl ne4)).other W8 (Or.inr (sn94 hw))).other W14 (Or.inl (Ne.symm q22)))
  have f28 := (((q17.other W3 (Or.inl ne9)).other W8 (Or.inl q22)).other W14 (Or.inr (Ne.symm (sn50 hw))))
  have f29 := (((q18.other W3 (Or.inl ne9)).other W8 (Or.inl q22)).other W14 (Or.inr (Ne.symm (sn51 hw))))
  have f30 := (((q19.other W3 (Or.inl ne9)).other W8 (Or.inl q22)).other W14 (Or.inr (Ne.symm (sn52 hw))))
  have f31 := (((q21.other W3 (Or.inl ne9)).other W8 (Or.inl q22)).other W14 (Or.inr (Ne.symm (sn94 hw))))
  refine ⟨none, T14, _, _, _, X14, fun _ => rfl, (by rw [e14]; exact ⟨rfl, N14, k14, f15, f16, f17, f18, f19, f20, f21, f22, f23, f24, f25, f26, f27, f28, f29, f30, v14, f31⟩), (by decide), (by decide), fun fs hr => pre0 _ ?_⟩
  show SA p e below s₁ m 0 #[vr r0, vr r1, un] [] _
  refine XS.aloadN X0.here hx rfl (D d28_0) rfl rfl ?_
  refine st1 _ ?_
  refine XS.iconst X1.here hx rfl (D d28_4) ?_
  refine XS.icmpYes X1.here hx rfl (pc0 := 5) (pc' := 43) rfl (D d28_5) rfl (feq (by decide : ¬ ((0 : Int32) = (1 : Int32)))).2 (by decide) (by decide) ?_
  refine XS.aloadN X1.here hx rfl (D d28_43) rfl rfl ?_
  refine st2 _ ?_
  refine XS.astoreN X2.here hx rfl (D d28_47) rfl rfl (l' := #[vr r0, vr r1, vr r2]) rfl ?_
  refine XS.aloadN X2.here hx rfl (D d28_48) rfl rfl ?_
  refine XS.aloadN X2.here hx rfl (D d28_49) rfl rfl ?_
  refine st3 _ ?_
  refine XS.aloadN X3.here hx rfl (D d28_53) rfl rfl ?_
  refine XS.ifnonnullYes X3.here hx rfl (pc0 := 54) (pc' := 65) rfl (D d28_54) rfl (by decide) (by decide) ?_
  refine XS.aloadN X3.here hx rfl (D d28_65) rfl rfl ?_
  refine XS.aloadN X3.here hx rfl (D d28_66) rfl rfl ?_
  refine st8 _ ?_
  refine XS.aloadN X8.here hx rfl (D d28_70) rfl rfl ?_
  refine XS.aloadN X8.here hx rfl (D d28_71) rfl rfl ?_
  refine st14 _ ?_
  show SA p e below T14 m 75 #[vr r0, vr r1, vr r2] [] _
  exact X14.returnOut hx hrt (D d28_75) hr
def Q81 (Z : State) (cv : Int32) (de ca : Addr) (r0 : Addr) (i1 : Int32) (r2 r3 r4 r5 r6 r7 : Addr) (h0 : Heap) (n0 : Nat) (v : Option Value) (h : Heap) (L : List Loc) : Prop := ∃ (b1 : Addr), v = (some (.ref b1)) ∧ Fr n0 L ∧ Keep h0 h [r0, r4] ∧ h0.size ≤ b1 ∧ P1 Z h r0 (.int 0) ∧ P5 Z h r0 (.ref b1) ∧ P3 Z h r0 (.ref r5) ∧ P4 Z h r0 (.int 12) ∧ P2 Z h r0 (.int 0) ∧ P6 Z h r0 (.ref r4) ∧ P7 Z h r0 (.int 1) ∧ P8 Z h r0 (.int 1) ∧ P9 Z h r0 .null ∧ P17 Z h r4 (.int 97) ∧ P18 Z h r4 (.ref r6) ∧ P19 Z h r4 (.ref r7) ∧ P21 Z h r4 (.ref b1) ∧ P22 Z h r4 .null ∧ E_6 Z h b1 ∧ P17 Z h b1 (.int i1) ∧ P18 Z h b1 (.ref r2) ∧ P19 Z h b1 (.ref r3) ∧ P21 Z h b1 .null
/-- LinkedHashMap.newNode#1 -/
theorem t81 (hw : HW a0 Z) (SB0 : SB Z cv de ca) (r0 : Addr) (i1 : Int32) (r2 r3 r4 r5 r6 r7 : Addr) (O0 : OL Z n0 h0) (q0 : E_0 Z h0 r0) (q1 : P1 Z h0 r0 (.int 0)) (q2 : P5 Z h0 r0 (.ref r4)) (q3 : P3 Z h0 r0 (.ref r5)) (q4 : P4 Z h0 r0 (.int 12)) (q5 : P2 Z h0 r0 (.int 0)) (q6 : P6 Z h0 r0 (.ref r4)) (q7 : P7 Z h0 r0 (.int 1)) (q8 : P8 Z h0 r0 (.int 1)) (q9 : P9 Z h0 r0 .null) (q10 : E_6 Z h0 r4) (q11 : P17 Z h0 r4 (.int 97)) (q12 : P18 Z h0 r4 (.ref r6)) (q13 : P19 Z h0 r4 (.ref r7)) (q14 : P21 Z h0 r4 .null) (q15 : P22 Z h0 r4 .null) (ge0 : n0 ≤ r0) (ge1 : n0 ≤ r4) : CT l Z y31 B25 6 (some (.object "java/util/HashMap$Node")) ⟨3, 1, 6, 45⟩ #[(.ref r0), (.int i1), (.ref r2), (.ref r3), .null] h0 (Q81 Z cv de ca r0 i1 r2 r3 r4 r5 r6 r7 h0 n0) := by
  refine ct_intro ?_
  intro p e s m below meth c s₁ E0 hx D hml hown hnm hrt X0 e0 hZ hE
  have Z0 := O0.le
  have K0 := Keep.refl h0 [r0, r4]
  have hws : ∀ w ∈ ([r0, r4] : List Addr), n0 ≤ w := (allS ge0 (allS ge1 all0))
  have N0 := Fr.nil n0
  have pre0 := ctp #[vr r0, vi i1, vr r2, vr r3, .val .null, un] hE
  obtain ⟨T1, h1, X1, e1, E1, A1, D1, -, st1⟩ := newO X0 hx hZ hown (w_ hw 167 rfl) (w_ hw 168 rfl) (w_ hw 169 rfl) e0 (g := (mkF m 0 #[vr r0, vi i1, vr r2, vr r3, .val .null, un] [])) rfl (D d25_0) (by decide) (by decide)
  obtain ⟨b1, g1⟩ : ∃ z, z = h0.size := ⟨_, rfl⟩
  rw [← g1] at A1 D1 st1
  have z1 : h0.size ≤ b1 := Nat.le_trans K0.1 (Nat.le_of_eq g1.symm)
  have k1 := K0.ext E1
  have F1_182 : P17 Z h1 b1 (.int 0) := D1 (Or.inr (w_ hw 182 rfl)) (ty := .int) (by decide)
  have F1_184 : P18 Z h1 b1 .null := D1 (Or.inr (w_ hw 184 rfl)) (ty := (.object "java/lang/Object")) (by decide)
  have F1_186 : P19 Z h1 b1 .null := D1 (Or.inl (w_ hw 186 rfl)) (ty := (.object "java/lang/Object")) (by decide)
  have F1_188 : P20 Z h1 b1 .null := D1 (Or.inl (w_ hw 188 rfl)) (ty := (.object "java/util/HashMap$Node")) (by decide)
  have F1_327 : P21 Z h1 b1 .null := D1 (Or.inl (w_ hw 327 rfl)) (ty := (.object "java/util/LinkedHashMap$Entry")) (by decide)
  have F1_441 : P22 Z h1 b1 .null := D1 (Or.inl (w_ hw 441 rfl)) (ty := (.object "java/util/LinkedHashMap$Entry")) (by decide)
  obtain ⟨v2, T2, L2, X2, Q2, st2⟩ := kI X1 hx hZ hown (t32 hw SB0 b1 i1 r2 r3 (O0.keep k1 hws) A1 F1_182 F1_184 F1_186 F1_188 F1_327 F1_441 (Nat.le_trans Z0 z1)) rfl (w_ hw 170 rfl) (w_ hw 171 rfl) (w_ hw 169 rfl) (w_ hw 173 rfl) e1 (g := (mkF m 9 #[vr r0, vi i1, vr r2, vr r3, .val .null, un] [.null, (.ref r3), (.ref r2), (.int i1), (.ref b1), (.ref b1)])) rfl hml rfl (argsL := [(.int i1), (.ref r2), (.ref r3), .null]) (rest := [(.ref b1)]) (lenOf pd16 rfl) rfl rfl (W := 1) rfl (D d25_9)
  obtain ⟨h2, e2⟩ : ∃ z, T2.heap = z := ⟨_, rfl⟩
  rw [e2] at Q2
  obtain ⟨rfl, M2, K2, F2_0, F2_1, F2_2, F2_3, F2_4⟩ := Q2
  have N2 := N0.app M2
  have k2 := k1.trans K2 (allS (Or.inr z1) all0)
  have f4 := ((q0.ext E1).keep K2)
  have f5 := (A1.keep K2)
  have ne3 : r0 ≠ b1 := Exa.ne f4 f5 (by decide)
  have f6 := ((q1.ext E1).keep K2 (ninS ne3 nin0))
  have f7 := ((q2.ext E1).keep K2 (ninS ne3 nin0))
  have f8 := ((q3.ext E1).keep K2 (ninS ne3 nin0))
  have f9 := ((q4.ext E1).keep K2 (ninS ne3 nin0))
  have f10 := ((q5.ext E1).keep K2 (ninS ne3 nin0))
  have f11 := ((q6.ext E1).keep K2 (ninS ne3 nin0))
  have f12 := ((q7.ext E1).keep K2 (ninS ne3 nin0))
  have f13 := ((q8.ext E1).keep K2 (ninS ne3 nin0))
  have f14 := ((q9.ext E1).keep K2 (ninS ne3 nin0))
  have f15 := ((q10.ext E1).keep K2)
  have ne16 : r4 ≠ b1 := Nat.ne_of_lt (Nat.lt_of_lt_of_le q10.lt (Nat.le_of_eq g1.symm))
  have f17 := ((q11.ext E1).keep K2 (ninS ne16 nin0))
  have f18 := ((q12.ext E1).keep K2 (ninS ne16 nin0))
  have f19 := ((q13.ext E1).keep K2 (ninS ne16 nin0))
  have f20 := ((q14.ext E1).keep K2 (ninS ne16 nin0))
  have f21 := ((q15.ext E1).keep K2 (ninS ne16 nin0))
  obtain ⟨v22, T22, L22, X22, Q22, st22⟩ := kP (y := y29) (z := y30) (z' := y31) X2 hx hZ hown (t80 hw SB0 r0 b1 r4 r5 i1 r2 r3 r6 r7 (O0.keep k2 hws) f6 f7 f4 f8 f9 f10 f11 f12 f13 f14 f5 F2_0 F2_1 F2_2 F2_3 F2_4 f15 f17 f18 f19 f20 f21 ne16 ge0 (Nat.le_trans Z0 z1) ge1) f4 (w_ hw 189 rfl) (w_ hw 190 rfl) (w_ hw 191 rfl) (w_ hw 164 rfl) rfl (w_ hw 3 rfl) (w_ hw 193 rfl) e2 (g := (mkF m 17 #[vr r0, vi i1, vr r2, vr r3, .val .null, vr b1] [(.ref b1), (.ref r0)])) rfl hml rfl (argsL := [(.ref b1)]) (rest := []) (lenOf pd17 rfl) rfl rfl (W := 0) rfl (D d25_17)
  obtain ⟨h22, e22⟩ : ∃ z, T22.heap = z := ⟨_, rfl⟩
  rw [e22] at Q22
  obtain ⟨rfl, M22, K22, F22_0, F22_1, F22_2, F22_3, F22_4, F22_5, F22_6, F22_7, F22_8, F22_9, F22_10, F22_11, F22_12, F22_13, F22_14, F22_15, F22_16, F22_17⟩ := Q22
  have N22 := N2.app M22
  have k22 := k2.trans K22 (allS (Or.inl (List.mem_of_getElem? (i := 0) rfl)) (allS (Or.inr z1) (allS (Or.inl (List.mem_of_getElem? (i := 1) rfl)) all0)))
  have f23 := (f5.keep K22)
  refine ⟨(some (.ref b1)), T22, _, _, _, X22, (fun hh => by cases hh), (by rw [e22]; exact ⟨b1, rfl, N22, k22, z1, F22_0, F22_1, F22_2, F22_3, F22_4, F22_5, F22_6, F22_7, F22_8, F22_13, F22_14, F22_15, F22_16, F22_17, f23, F22_9, F22_10, F22_11, F22_12⟩), (by decide), (by decide), fun fs hr => pre0 _ ?_⟩
  show SA p e below s₁ m 0 #[vr r0, vi i1, vr r2, vr r3, .val .null, un] [] _
  refine st1 _ ?_
  refine XS.dup X1.here hx rfl (D d25_3) rfl rfl ?_
  refine XS.iloadN X1.here hx rfl (D d25_4) rfl ?_
  refine XS.aloadN X1.here hx rfl (D d25_5) rfl rfl ?_
  refine XS.aloadN X1.here hx rfl (D d25_6) rfl rfl ?_
  refine XS.aload X1.here hx rfl (D d25_7) rfl rfl ?_
  refine st2 _ ?_
  refine XS.astore X2.here hx rfl (D d25_12) rfl rfl (l' := #[vr r0, vi i1, vr r2, vr r3, .val .null, vr b1]) rfl ?_
  refine XS.aloadN X2.here hx rfl (D d25_14) rfl rfl ?_
  refine XS.aload X2.here hx rfl (D d25_15) rfl rfl ?_
  refine st22 _ ?_
  refine XS.aload X22.here hx rfl (D d25_20) rfl rfl ?_
  show SA p e below T22 m 22 #[vr r0, vi i1, vr r2, vr r3, .val .null, vr b1] [(.ref b1)] _
  exact retOut X22 hx hrt rfl (Or.inr (Or.inr (Or.inr (Or.inr ⟨rfl, rfl, rfl⟩)))) (D d25_22) hr
def Q82 (Z : State) (cv : Int32) (de ca : Addr) (r0 r1 r2 r3 r4 : Addr) (k5 : ClassId) (r6 r7 : Addr) (h0 : Heap) (n0 : Nat) (v : Option Value) (h : Heap) (L : List Loc) : Prop := ∃ (b4_0 : Addr), v = (some .null) ∧ Fr n0 L ∧ Keep h0 h [r0, r4, r3] ∧ h0.size ≤ b4_0 ∧ P1 Z h r0 (.int 0) ∧ P5 Z h r0 (.ref b4_0) ∧ P3 Z h r0 (.ref r3) ∧ P4 Z h r0 (.int 12) ∧ P2 Z h r0 (.int 0) ∧ P6 Z h r0 (.ref r4) ∧ P7 Z h r0 (.int 2) ∧ P8 Z h r0 (.int 2) ∧ P9 Z h r0 .null ∧ P17 Z h r4 (.int 97) ∧ P18 Z h r4 (.ref r6) ∧ P19 Z h r4 (.ref r7) ∧ P21 Z h r4 (.ref b4_0) ∧ P22 Z h r4 .null ∧ Arv Z h r3 k5 (.object "java/util/HashMap$Node") (16 : Int32) [.null, (.ref r4), (.ref b4_0), .null, .null, .null, .null, .null, .null, .null, .null, .null, .null, .null, .null, .null] .null ∧ E_6 Z h b4_0 ∧ P17 Z h b4_0 (.int 98) ∧ P18 Z h b4_0 (.ref r1) ∧ P19 Z h b4_0 (.ref r2) ∧ P21 Z h b4_0 .null
/-- HashMap.putVal#2 -/
theorem t82 (hw : HW a0 Z) (SB0 : SB Z cv de ca) (r0 r1 r2 r3 r4 : Addr) (k5 : ClassId) (r6 r7 : Addr) (O0 : OL Z n0 h0) (q0 : P3 Z h0 r0 (.ref r3)) (q1 : Arv Z h0 r3 k5 (.object "java/util/HashMap$Node") (16 : Int32) [.null, (.ref r4), .null, .null, .null, .null, .null, .null, .null, .null, .null, .null, .null, .null, .null, .null] .null) (q2 : E_0 Z h0 r0) (q3 : P1 Z h0 r0 (.int 0)) (q4 : P5 Z h0 r0 (.ref r4)) (q5 : P4 Z h0 r0 (.int 12)) (q6 : P2 Z h0 r0 (.int 0)) (q7 : P6 Z h0 r0 (.ref r4)) (q8 : P7 Z h0 r0 (.int 1)) (q9 : P8 Z h0 r0 (.int 1)) (q10 : P9 Z h0 r0 .null) (q11 : E_6 Z h0 r4) (q12 : P17 Z h0 r4 (.int 97)) (q13 : P18 Z h0 r4 (.ref r6)) (q14 : P19 Z h0 r4 (.ref r7)) (q15 : P21 Z h0 r4 .null) (q16 : P22 Z h0 r4 .null) (q17 : E_5 Z h0 r3) (q18 : Ovr Z k5 "java/util/HashMap$Node") (ge0 : n0 ≤ r0) (ge1 : n0 ≤ r4) (ge2 : n0 ≤ r3) : CT l Z y35 B23 13 (some (.object "java/lang/Object")) ⟨4, 1, 6, 64⟩ #[(.ref r0), (.int 98), (.ref r1), (.ref r2), (.int 0), (.int 1)] h0 (Q82 Z cv de ca r0 r1 r2 r3 r4 k5 r6 r7 h0 n0) := by
  refine ct_intro ?_
  intro p e s m below meth c s₁ E0 hx D hml hown hnm hrt X0 e0 hZ hE
  have Z0 := O0.le
  have K0 := Keep.refl h0 [r0, r4, r3]
  have hws : ∀ w ∈ ([r0, r4, r3] : List Addr), n0 ≤ w := (allS ge0 (allS ge1 (allS ge2 all0)))
  have N0 := Fr.nil n0
  have pre0 := ctp #[vr r0, vi 98, vr r1, vr r2, vi 0, vi 1, un, un, un, un, un, un, un] hE
  obtain ⟨T1, X1, e1, st1⟩ := gF X0 hx hZ hown (w_ hw 150 rfl) Via.refl e0 q0 (g := (mkF m 1 #[vr r0, vi 98, vr r1, vr r2, vi 0, vi 1, un, un, un, un, un, un, un] [(.ref r0)])) rfl rfl (D d23_1)
  obtain ⟨_, Ar2, -, S2, M2, -, -⟩ := id q1
  obtain ⟨_, Ar3, -, S3, M3, H3, -⟩ := id q1
  obtain ⟨v4, T4, L4, X4, Q4, st4⟩ := kV (y := y30) (z := y31) X1 hx hZ hown (t81 hw SB0 r0 (98 : Int32) r1 r2 r4 r3 r6 r7 (O0.keep K0 hws) q2 q3 q4 q0 q5 q6 q7 q8 q9 q10 q11 q12 q13 q14 q15 q16 ge0 ge1) q2 (nf_of (x := y25) (y' := y26) (args := #[]) (mvT hZ (w_ hw 118 rfl)) rfl) (w_ hw 161 rfl) (w_ hw 162 rfl) (w_ hw 164 rfl) (w_ hw 165 rfl) (w_ hw 3 rfl) (w_ hw 166 rfl) e1 (g := (mkF m 56 #[vr r0, vi 98, vr r1, vr r2, vi 0, vi 1, vr r3, .val .null, vi 16, vi 2, un, un, un] [.null, (.ref r2), (.ref r1), (.int 98), (.ref r0), (.int 2), (.ref r3)])) rfl hml rfl (argsL := [(.int 98), (.ref r1), (.ref r2), .null]) (rest := [(.int 2), (.ref r3)]) (lenOf pd18 rfl) rfl rfl (W := 2) rfl (D d23_56)
  obtain ⟨h4, e4⟩ : ∃ z, T4.heap = z := ⟨_, rfl⟩
  rw [e4] at Q4
  obtain ⟨b4_0, rfl, M4, K4, y4_0, F4_0, F4_1, F4_2, F4_3, F4_4, F4_5, F4_6, F4_7, F4_8, F4_9, F4_10, F4_11, F4_12, F4_13, F4_14, F4_15, F4_16, F4_17, F4_18⟩ := Q4
  have N4 := N0.app M4
  have z4_b4_0 := Nat.le_trans K0.1 y4_0
  have k4 := K0.trans K4 (allS (Or.inl (List.mem_of_getElem? (i := 0) rfl)) (allS (Or.inl (List.mem_of_getElem? (i := 1) rfl)) all0))
  have f6 := (q17.keep K4)
  have f7 := (q11.keep K4)
  have ne5 : r3 ≠ r4 := Exa.ne f6 f7 (by decide)
  have f9 := (q2.keep K4)
  have ne8 : r3 ≠ r0 := Exa.ne f6 f9 (by decide)
  have f10 := (q1.keep K4 (ninS ne8 (ninS ne5 nin0)))
  obtain ⟨_, Ar11, C11, S11, M11, H11, G11⟩ := id f10
  obtain ⟨T12, h12, X12, e12, W12, st12⟩ := stR X4 hx hZ e4 Ar11 (j := (2 : Int32)) (inb_of S11 ⟨by decide, by decide⟩) rfl (Sto.ofV Ar11 C11 q18 (Ins.of_exa F4_14 (w_ hw 177 rfl))) (g := (mkF m 59 #[vr r0, vi 98, vr r1, vr r2, vi 0, vi 1, vr r3, .val .null, vi 16, vi 2, un, un, un] [(.ref b4_0), (.int 2), (.ref r3)])) rfl rfl (D d23_59)
  have N12 := Fr.snoc X12 N4 ge2
  have k12 := k4.wr W12 (Or.inl (List.mem_of_getElem? (i := 2) rfl))
  have v12 : Arv Z h12 r3 k5 (.object "java/util/HashMap$Node") (16 : Int32) [.null, (.ref r4), (.ref b4_0), .null, .null, .null, .null, .null, .null, .null, .null, .null, .null, .null, .null, .null] .null := Arv.set Ar11 C11 S11 M11 H11 G11 rfl W12 2 rfl (by show 2 < 16; decide)
  have f13 := (F4_6.other W12 (Or.inl (Ne.symm ne8)))
  obtain ⟨T14, X14, e14, st14⟩ := gF X12 hx hZ hown (w_ hw 198 rfl) Via.refl e12 f13 (g := (mkF m 261 #[vr r0, vi 98, vr r1, vr r2, vi 0, vi 1, vr r3, .val .null, vi 16, vi 2, un, un, un] [(.ref r0), (.ref r0)])) rfl rfl (D d23_261)
  have f15 := (f9.wr W12)
  obtain ⟨T16, h16, X16, e16, W16, st16⟩ := putF X14 hx hZ hown (host := "") (Or.inl (w_ hw 198 rfl)) Via.refl e14 f13 f15 (Or.inl (w_ hw 199 rfl)) (w_ hw 2 rfl) (ty := .int) (by decide) rfl rfl (g := (mkF m 266 #[vr r0, vi 98, vr r1, vr r2, vi 0, vi 1, vr r3, .val .null, vi 16, vi 2, un, un, un] [(.int 2), (.ref r0)])) rfl rfl (D d23_266)
  have N16 := Fr.snoc X16 N12 ge0
  have k16 := k12.wr W16 (Or.inl (List.mem_of_getElem? (i := 0) rfl))
  have v16 := f13.same W16
  have f17 := ((F4_7.other W12 (Or.inl (Ne.symm ne8))).other W16 (Or.inr (sn65 hw)))
  obtain ⟨T18, X18, e18, st18⟩ := gF X16 hx hZ hown (w_ hw 200 rfl) Via.refl e16 f17 (g := (mkF m 271 #[vr r0, vi 98, vr r1, vr r2, vi 0, vi 1, vr r3, .val .null, vi 16, vi 2, un, un, un] [(.ref r0), (.ref r0)])) rfl rfl (D d23_271)
  have f19 := (f15.wr W16)
  obtain ⟨T20, h20, X20, e20, W20, st20⟩ := putF X18 hx hZ hown (host := "") (Or.inl (w_ hw 200 rfl)) Via.refl e18 f17 f19 (Or.inl (w_ hw 201 rfl)) (w_ hw 2 rfl) (ty := .int) (by decide) rfl rfl (g := (mkF m 277 #[vr r0, vi 98, vr r1, vr r2, vi 0, vi 1, vr r3, .val .null, vi 16, vi 2, un, un, un] [(.int 2), (.ref r0), (.int 2)])) rfl rfl (D d23_277)
  have N20 := Fr.snoc X20 N16 ge0
  have k20 := k16.wr W20 (Or.inl (List.mem_of_getElem? (i := 0) rfl))
  have v20 := f17.same W20
  have f21 := (((F4_3.other W12 (Or.inl (Ne.symm ne8))).other W16 (Or.inr (Ne.symm (sn38 hw)))).other W20 (Or.inr (Ne.symm (sn40 hw))))
  obtain ⟨T22, X22, e22, st22⟩ := gF X20 hx hZ hown (w_ hw 157 rfl) Via.refl e20 f21 (g := (mkF m 281 #[vr r0, vi 98, vr r1, vr r2, vi 0, vi 1, vr r3, .val .null, vi 16, vi 2, un, un, un] [(.ref r0), (.int 2)])) rfl rfl (D d23_281)
  have f23 := (((F4_5.other W12 (Or.inl (Ne.symm ne8))).other W16 (Or.inr (Ne.symm (sn60 hw)))).other W20 (Or.inr (Ne.symm (sn62 hw))))
  have f24 := (f19.wr W20)
  obtain ⟨v25, T25, L25, X25, Q25, st25⟩ := kV (y := y34) (z := y33) X22 hx hZ hown (t36 hw SB0 r0 r4 (O0.keep k20 hws) f23 f24) f24 (nf_of (x := y25) (y' := y26) (args := #[]) (mvT hZ (w_ hw 118 rfl)) rfl) (w_ hw 202 rfl) (w_ hw 203 rfl) (w_ hw 205 rfl) (w_ hw 206 rfl) (w_ hw 3 rfl) (w_ hw 207 rfl) e22 (g := (mkF m 295 #[vr r0, vi 98, vr r1, vr r2, vi 0, vi 1, vr r3, .val .null, vi 16, vi 2, un, un, un] [(.int 1), (.ref r0)])) rfl hml rfl (argsL := [(.int 1)]) (rest := []) (lenOf pd20 rfl) rfl rfl (W := 0) rfl (D d23_295)
  obtain ⟨rfl, M25, e25⟩ := Q25
  have N25 := N20.app M25
  have f26 := (((F4_0.other W12 (Or.inl (Ne.symm ne8))).other W16 (Or.inr (Ne.symm (sn18 hw)))).other W20 (Or.inr (Ne.symm (sn20 hw))))
  have f27 := (((F4_1.other W12 (Or.inl (Ne.symm ne8))).other W16 (Or.inr (Ne.symm (sn59 hw)))).other W20 (Or.inr (Ne.symm (sn61 hw))))
  have f28 := (((F4_2.other W12 (Or.inl (Ne.symm ne8))).other W16 (Or.inr (Ne.symm (sn39 hw)))).other W20 (Or.inr (Ne.symm (sn41 hw))))
  have f29 := (((F4_4.other W12 (Or.inl (Ne.symm ne8))).other W16 (Or.inr (Ne.symm (sn19 hw)))).other W20 (Or.inr (Ne.symm (sn21 hw))))
  have f30 := (v16.other W20 (Or.inr (Ne.symm (sn65 hw))))
  have f31 := (((F4_8.other W12 (Or.inl (Ne.symm ne8))).other W16 (Or.inr (sn66 hw))).other W20 (Or.inr (sn67 hw)))
  have f33 := (((f7.wr W12).wr W16).wr W20)
  have ne32 : r4 ≠ r0 := Exa.ne f33 f24 (by decide)
  have f34 := (((F4_9.other W12 (Or.inl (Ne.symm ne5))).other W16 (Or.inl ne32)).other W20 (Or.inl ne32))
  have f35 := (((F4_10.other W12 (Or.inl (Ne.symm ne5))).other W16 (Or.inl ne32)).other W20 (Or.inl ne32))
  have f36 := (((F4_11.other W12 (Or.inl (Ne.symm ne5))).other W16 (Or.inl ne32)).other W20 (Or.inl ne32))
  have f37 := (((F4_12.other W12 (Or.inl (Ne.symm ne5))).other W16 (Or.inl ne32)).other W20 (Or.inl ne32))
  have f38 := (((F4_13.other W12 (Or.inl (Ne.symm ne5))).other W16 (Or.inl ne32)).other W20 (Or.inl ne32))
  have f39 := ((v12.other W16 ne8).other W20 ne8)
  have f40 := (((F4_14.wr W12).wr W16).wr W20)
  have f42 := (((f6.wr W12).wr W16).wr W20)
  have ne41 : b4_0 ≠ r3 := Exa.ne f40 f42 (by decide)
  have ne43 : b4_0 ≠ r0 := Exa.ne f40 f24 (by decide)
  have f44 := (((F4_15.other W12 (Or.inl ne41)).other W16 (Or.inl ne43)).other W20 (Or.inl ne43))
  have f45 := (((F4_16.other W12 (Or.inl ne41)).other W16 (Or.inl ne43)).other W20 (Or.inl ne43))
  have f46 := (((F4_17.other W12 (Or.inl ne41)).other W16 (Or.inl ne43)).other W20 (Or.inl ne43))
  have f47 := (((F4_18.other W12 (Or.inl ne41)).other W16 (Or.inl ne43)).other W20 (Or.inl ne43))
  refine ⟨(some .null), T25, _, _, _, X25, (fun hh => by cases hh), (by rw [e25]; exact ⟨b4_0, rfl, N25, k20, z4_b4_0, f26, f27, f28, f21, f29, f23, f30, v20, f31, f34, f35, f36, f37, f38, f39, f40, f44, f45, f46, f47⟩), (by decide), (by decide), fun fs hr => pre0 _ ?_⟩
  show SA p e below s₁ m 0 #[vr r0, vi 98, vr r1, vr r2, vi 0, vi 1, un, un, un, un, un, un, un] [] _
  refine XS.aloadN X0.here hx rfl (D d23_0) rfl rfl ?_
  refine st1 _ ?_
  refine XS.dup X1.here hx rfl (D d23_4) rfl rfl ?_
  refine XS.astore X1.here hx rfl (D d23_5) rfl rfl (l' := #[vr r0, vi 98, vr r1, vr r2, vi 0, vi 1, vr r3, un, un, un, un, un, un]) rfl ?_
  refine XS.ifnullNo X1.here hx rfl (D d23_7) rfl ?_
  refine XS.aload X1.here hx rfl (D d23_10) rfl rfl ?_
  refine X1.arraylength hx (by rw [e1]; exact Ar2.1) (State.isArrayOf_alike hZ.alike Ar2.2.1) (g := (mkF m 12 #[vr r0, vi 98, vr r1, vr r2, vi 0, vi 1, vr r3, un, un, un, un, un, un] [(.ref r3)])) rfl rfl (D d23_12) _ ?_
  rw [len_of S2 M2]
  show SA p e below T1 m 13 #[vr r0, vi 98, vr r1, vr r2, vi 0, vi 1, vr r3, un, un, un, un, un, un] [(.int 16)] _
  refine XS.dup X1.here hx rfl (D d23_13) rfl rfl ?_
  refine XS.istore X1.here hx rfl (D d23_14) rfl (l' := #[vr r0, vi 98, vr r1, vr r2, vi 0, vi 1, vr r3, un, vi 16, un, un, un, un]) rfl ?_
  refine XS.ifYes X1.here hx rfl (pc0 := 16) (pc' := 29) rfl (D d23_16) rfl ((if0 _ _).trans (feq (by decide : ¬ ((16 : Int32) = (0 : Int32)))).2) (by decide) (by decide) ?_
  refine XS.aload X1.here hx rfl (D d23_29) rfl rfl ?_
  refine XS.iload X1.here hx rfl (D d23_31) rfl ?_
  refine XS.iconst X1.here hx rfl (D d23_33) ?_
  refine XS.isub X1.here hx rfl (D d23_34) rfl ?_
  refine XS.iloadN X1.here hx rfl (D d23_35) rfl ?_
  refine XS.iand X1.here hx rfl (D d23_36) rfl ?_
  refine XS.dup X1.here hx rfl (D d23_37) rfl rfl ?_
  refine XS.istore X1.here hx rfl (D d23_38) rfl (l' := #[vr r0, vi 98, vr r1, vr r2, vi 0, vi 1, vr r3, un, vi 16, vi 2, un, un, un]) rfl ?_
  refine X1.aaload hx (j := (2 : Int32)) (v := .null) (by rw [e1]; exact Ar3.1) (State.isArrayOf_alike hZ.alike Ar3.2.1) rfl Ar3.2.2 (inb_of S3 ⟨by decide, by decide⟩) (Has.at H3 (inb_of S3 ⟨by decide, by decide⟩) rfl) (g := (mkF m 40 #[vr r0, vi 98, vr r1, vr r2, vi 0, vi 1, vr r3, un, vi 16, vi 2, un, un, un] [(.int 2), (.ref r3)])) rfl rfl (D d23_40) _ ?_
  show SA p e below T1 m 41 #[vr r0, vi 98, vr r1, vr r2, vi 0, vi 1, vr r3, un, vi 16, vi 2, un, un, un] [.null] _
  refine XS.dup X1.here hx rfl (D d23_41) rfl rfl ?_
  refine XS.astore X1.here hx rfl (D d23_42) rfl rfl (l' := #[vr r0, vi 98, vr r1, vr r2, vi 0, vi 1, vr r3, .val .null, vi 16, vi 2, un, un, un]) rfl ?_
  refine XS.ifnonnullNo X1.here hx rfl (D d23_44) rfl ?_
  refine XS.aload X1.here hx rfl (D d23_47) rfl rfl ?_
  refine XS.iload X1.here hx rfl (D d23_49) rfl ?_
  refine XS.aloadN X1.here hx rfl (D d23_51) rfl rfl ?_
  refine XS.iloadN X1.here hx rfl (D d23_52) rfl ?_
  refine XS.aloadN X1.here hx rfl (D d23_53) rfl rfl ?_
  refine XS.aloadN X1.here hx rfl (D d23_54) rfl rfl ?_
  refine XS.aconstNull X1.here hx rfl (D d23_55) ?_
  refine st4 _ ?_
  refine st12 _ ?_
  refine XS.goto X12.here hx rfl (pc0 := 60) (pc' := 259) rfl (D d23_60) (by decide) (by decide) ?_
  refine XS.aloadN X12.here hx rfl (D d23_259) rfl rfl ?_
  refine XS.dup X12.here hx rfl (D d23_260) rfl rfl ?_
  refine st14 _ ?_
  refine XS.iconst X14.here hx rfl (D d23_264) ?_
  refine XS.iadd X14.here hx rfl (D d23_265) rfl ?_
  refine st16 _ ?_
  refine XS.aloadN X16.here hx rfl (D d23_269) rfl rfl ?_
  refine XS.dup X16.here hx rfl (D d23_270) rfl rfl ?_
  refine st18 _ ?_
  refine XS.iconst X18.here hx rfl (D d23_274) ?_
  refine XS.iadd X18.here hx rfl (D d23_275) rfl ?_
  refine XS.dupX1 X18.here hx rfl (D d23_276) rfl rfl rfl ?_
  refine st20 _ ?_
  refine XS.aloadN X20.here hx rfl (D d23_280) rfl rfl ?_
  refine st22 _ ?_
  refine XS.icmpYes X22.here hx rfl (pc0 := 284) (pc' := 292) rfl (D d23_284) rfl (flt (by decide : ¬ ((12 : Int32) < (2 : Int32)))).2.2.2 (by decide) (by decide) ?_
  refine XS.aloadN X22.here hx rfl (D d23_292) rfl rfl ?_
  refine XS.iload X22.here hx rfl (D d23_293) rfl ?_
  refine st25 _ ?_
  refine XS.aconstNull X25.here hx rfl (D d23_298) ?_
  show SA p e below T25 m 299 #[vr r0, vi 98, vr r1, vr r2, vi 0, vi 1, vr r3, .val .null, vi 16, vi 2, un, un, un] [.null] _
  exact retOut X25 hx hrt rfl (Or.inr (Or.inr (Or.inr (Or.inr ⟨rfl, rfl, rfl⟩)))) (D d23_299) hr
def Q83 (Z : State) (cv : Int32) (de ca : Addr) (r0 r1 r2 r3 : Addr) (k4 : ClassId) (r5 r6 : Addr) (k7 : ClassId) (r8 r9 : Addr) (h0 : Heap) (n0 : Nat) (v : Option Value) (h : Heap) (L : List Loc) : Prop := ∃ (b24_0 : Addr), v = (some .null) ∧ Fr n0 L ∧ Keep h0 h [r1, r0, r6, r5] ∧ h0.size ≤ b24_0 ∧ P12 Z h r1 (.int 98) ∧ P13 Z h r1 (.int 0) ∧ P11 Z h r1 (.int 0) ∧ P10 Z h r1 (.ref r3) ∧ P1 Z h r0 (.int 0) ∧ P5 Z h r0 (.ref b24_0) ∧ P3 Z h r0 (.ref r5) ∧ P4 Z h r0 (.int 12) ∧ P2 Z h r0 (.int 0) ∧ P6 Z h r0 (.ref r6) ∧ P7 Z h r0 (.int 2) ∧ P8 Z h r0 (.int 2) ∧ P9 Z h r0 .null ∧ P17 Z h r6 (.int 97) ∧ P18 Z h r6 (.ref r8) ∧ P19 Z h r6 (.ref r9) ∧ P21 Z h r6 (.ref b24_0) ∧ P22 Z h r6 .null ∧ Arv Z h r5 k7 (.object "java/util/HashMap$Node") (16 : Int32) [.null, (.ref r6), (.ref b24_0), .null, .null, .null, .null, .null, .null, .null, .null, .null, .null, .null, .null, .null] .null ∧ E_6 Z h b24_0 ∧ P17 Z h b24_0 (.int 98) ∧ P18 Z h b24_0 (.ref r1) ∧ P19 Z h b24_0 (.ref r2) ∧ P21 Z h b24_0 .null
/-- HashMap.put#2 -/
theorem t83 (hw : HW a0 Z) (SB0 : SB Z cv de ca) (r0 r1 r2 r3 : Addr) (k4 : ClassId) (r5 r6 : Addr) (k7 : ClassId) (r8 r9 : Addr) (O0 : OL Z n0 h0) (q0 : E_2 Z h0 r1) (q1 : P12 Z h0 r1 (.int 0)) (q2 : P13 Z h0 r1 (.int 0)) (q3 : P11 Z h0 r1 (.int 0)) (q4 : P10 Z h0 r1 (.ref r3)) (q5 : Arv Z h0 r3 k4 .byte (1 : Int32) [(.int 98)] (.int 0)) (q6 : E_0 Z h0 r0) (q7 : P3 Z h0 r0 (.ref r5)) (q8 : Arv Z h0 r5 k7 (.object "java/util/HashMap$Node") (16 : Int32) [.null, (.ref r6), .null, .null, .null, .null, .null, .null, .null, .null, .null, .null, .null, .null, .null, .null] .null) (q9 : P1 Z h0 r0 (.int 0)) (q10 : P5 Z h0 r0 (.ref r6)) (q11 : P4 Z h0 r0 (.int 12)) (q12 : P2 Z h0 r0 (.int 0)) (q13 : P6 Z h0 r0 (.ref r6)) (q14 : P7 Z h0 r0 (.int 1)) (q15 : P8 Z h0 r0 (.int 1)) (q16 : P9 Z h0 r0 .null) (q17 : E_6 Z h0 r6) (q18 : P17 Z h0 r6 (.int 97)) (q19 : P18 Z h0 r6 (.ref r8)) (q20 : P19 Z h0 r6 (.ref r9)) (q21 : P21 Z h0 r6 .null) (q22 : P22 Z h0 r6 .null) (q23 : E_5 Z h0 r5) (q24 : Ovr Z k7 "java/util/HashMap$Node") (ge0 : n0 ≤ r1) (ge1 : n0 ≤ r0) (ge2 : n0 ≤ r6) (ge3 : n0 ≤ r5) : CT l Z y26 B18 3 (some (.object "java/lang/Object")) ⟨5, 1, 6, 88⟩ #[(.ref r0), (.ref r1), (.ref r2)] h0 (Q83 Z cv de ca r0 r1 r2 r3 k4 r5 r6 k7 r8 r9 h0 n0) := by
  refine ct_intro ?_
  intro p e s m below meth c s₁ E0 hx D hml hown hnm hrt X0 e0 hZ hE
  have Z0 := O0.le
  have K0 := Keep.refl h0 [r1, r0, r6, r5]
  have hws : ∀ w ∈ ([r1, r0, r6, r5] : List Addr), n0 ≤ w := (allS ge0 (allS ge1 (allS ge2 (allS ge3 all0))))
  have N0 := Fr.nil n0
  have pre0 := ctp #[vr r0, vr r1, vr r2] hE
  obtain ⟨v1, T1, L1, X1, Q1, st1⟩ := kS X0 hx hZ hown (t79 hw SB0 r1 r3 k4 (O0.keep K0 hws) q0 q1 q2 q3 q4 q5 ge0) (w_ hw 124 rfl) (w_ hw 125 rfl) (w_ hw 11 rfl) (w_ hw 126 rfl) e0 (g := (mkF m 2 #[vr r0, vr r1, vr r2] [(.ref r1), (.ref r0)])) rfl hml rfl (argsL := [(.ref r1)]) (rest := [(.ref r0)]) (lenOf pd14 rfl) rfl rfl (W := 1) rfl (D d18_2)
  obtain ⟨h1, e1⟩ : ∃ z, T1.heap = z := ⟨_, rfl⟩
  rw [e1] at Q1
  obtain ⟨rfl, M1, K1, F1_0, F1_1, F1_2, F1_3⟩ := Q1
  have N1 := N0.app M1
  have k1 := K0.trans K1 (allS (Or.inl (List.mem_of_getElem? (i := 0) rfl)) all0)
  have f3 := (q6.keep K1)
  have f4 := (q0.keep K1)
  have ne2 : r0 ≠ r1 := Exa.ne f3 f4 (by decide)
  have f5 := (q7.keep K1 (ninS ne2 nin0))
  have f7 := (q23.keep K1)
  have ne6 : r5 ≠ r1 := Exa.ne f7 f4 (by decide)
  have f8 := (q8.keep K1 (ninS ne6 nin0))
  have f9 := (q9.keep K1 (ninS ne2 nin0))
  have f10 := (q10.keep K1 (ninS ne2 nin0))
  have f11 := (q11.keep K1 (ninS ne2 nin0))
  have f12 := (q12.keep K1 (ninS ne2 nin0))
  have f13 := (q13.keep K1 (ninS ne2 nin0))
  have f14 := (q14.keep K1 (ninS ne2 nin0))
  have f15 := (q15.keep K1 (ninS ne2 nin0))
  have f16 := (q16.keep K1 (ninS ne2 nin0))
  have f17 := (q17.keep K1)
  have ne18 : r6 ≠ r1 := Exa.ne f17 f4 (by decide)
  have f19 := (q18.keep K1 (ninS ne18 nin0))
  have f20 := (q19.keep K1 (ninS ne18 nin0))
  have f21 := (q20.keep K1 (ninS ne18 nin0))
  have f22 := (q21.keep K1 (ninS ne18 nin0))
  have f23 := (q22.keep K1 (ninS ne18 nin0))
  obtain ⟨v24, T24, L24, X24, Q24, st24⟩ := kV (y := y35) (z := y35) X1 hx hZ hown (t82 hw SB0 r0 r1 r2 r5 r6 k7 r8 r9 (O0.keep k1 hws) f5 f8 f3 f9 f10 f11 f12 f13 f14 f15 f16 f17 f19 f20 f21 f22 f23 f7 q24 ge1 ge2 ge3) f3 (nf_of (x := y25) (y' := y26) (args := #[]) (mvT hZ (w_ hw 118 rfl)) rfl) (w_ hw 145 rfl) (w_ hw 146 rfl) (w_ hw 148 rfl) (w_ hw 147 rfl) (w_ hw 11 rfl) (w_ hw 149 rfl) e1 (g := (mkF m 9 #[vr r0, vr r1, vr r2] [(.int 1), (.int 0), (.ref r2), (.ref r1), (.int 98), (.ref r0)])) rfl hml rfl (argsL := [(.int 98), (.ref r1), (.ref r2), (.int 0), (.int 1)]) (rest := []) (lenOf pd21 rfl) rfl rfl (W := 0) rfl (D d18_9)
  obtain ⟨h24, e24⟩ : ∃ z, T24.heap = z := ⟨_, rfl⟩
  rw [e24] at Q24
  obtain ⟨b24_0, rfl, M24, K24, y24_0, F24_0, F24_1, F24_2, F24_3, F24_4, F24_5, F24_6, F24_7, F24_8, F24_9, F24_10, F24_11, F24_12, F24_13, F24_14, F24_15, F24_16, F24_17, F24_18, F24_19⟩ := Q24
  have N24 := N1.app M24
  have z24_b24_0 := Nat.le_trans k1.1 y24_0
  have k24 := k1.trans K24 (allS (Or.inl (List.mem_of_getElem? (i := 1) rfl)) (allS (Or.inl (List.mem_of_getElem? (i := 2) rfl)) (allS (Or.inl (List.mem_of_getElem? (i := 3) rfl)) all0)))
  have f25 := (F1_0.keep K24 (ninS (Ne.symm ne2) (ninS (Ne.symm ne18) (ninS (Ne.symm ne6) nin0))))
  have f26 := (F1_1.keep K24 (ninS (Ne.symm ne2) (ninS (Ne.symm ne18) (ninS (Ne.symm ne6) nin0))))
  have f27 := (F1_2.keep K24 (ninS (Ne.symm ne2) (ninS (Ne.symm ne18) (ninS (Ne.symm ne6) nin0))))
  have f28 := (F1_3.keep K24 (ninS (Ne.symm ne2) (ninS (Ne.symm ne18) (ninS (Ne.symm ne6) nin0))))
  refine ⟨(some .null), T24, _, _, _, X24, (fun hh => by cases hh), (by rw [e24]; exact ⟨b24_0, rfl, N24, k24, z24_b24_0, f25, f26, f27, f28, F24_0, F24_1, F24_2, F24_3, F24_4, F24_5, F24_6, F24_7, F24_8, F24_9, F24_10, F24_11, F24_12, F24_13, F24_14, F24_15, F24_16, F24_17, F24_18, F24_19⟩), (by decide), (by decide), fun fs hr => pre0 _ ?_⟩
  show SA p e below s₁ m 0 #[vr r0, vr r1, vr r2] [] _
  refine XS.aloadN X0.here hx rfl (D d18_0) rfl rfl ?_
  refine XS.aloadN X0.here hx rfl (D d18_1) rfl rfl ?_
  refine st1 _ ?_
  refine XS.aloadN X1.here hx rfl (D d18_5) rfl rfl ?_
  refine XS.aloadN X1.here hx rfl (D d18_6) rfl rfl ?_
  refine XS.iconst X1.here hx rfl (D d18_7) ?_
  refine XS.iconst X1.here hx rfl (D d18_8) ?_
  refine st24 _ ?_
  show SA p e below T24 m 12 #[vr r0, vr r1, vr r2] [.null] _
  exact retOut X24 hx hrt rfl (Or.inr (Or.inr (Or.inr (Or.inr ⟨rfl, rfl, rfl⟩)))) (D d18_12) hr
def Q84 (Z : State) (cv : Int32) (de ca : Addr) (r0 r1 r2 : Addr) (i3 : Int32) (r4 : Addr) (h0 : Heap) (n0 : Nat) (v : Option Value) (h : Heap) (L : List Loc) : Prop := v = (some (.ref r1)) ∧ Fr n0 L ∧ Keep h0 h [r0] ∧ P33 Z h r0 (.ref r4) ∧ P31 Z h r0 (.ref r2) ∧ P34 Z h r0 (.int i3) ∧ P32 Z h r0 (.int 0) ∧ P35 Z h r0 (.ref r1)
/-- LinkedHashMap$LinkedHashIterator.nextNode#1 -/
theorem t84 (hw : HW a0 Z) (SB0 : SB Z cv de ca) (r0 r1 r2 : Addr) (i3 : Int32) (r4 : Addr) (O0 : OL Z n0 h0) (q0 : P33 Z h0 r0 (.ref r1)) (q1 : P31 Z h0 r0 (.ref r2)) (q2 : P7 Z h0 r2 (.int i3)) (q3 : P34 Z h0 r0 (.int i3)) (q4 : E_10 Z h0 r0) (q5 : P32 Z h0 r0 (.int 0)) (q6 : P35 Z h0 r0 .null) (q7 : P21 Z h0 r1 (.ref r4)) (q8 : E_6 Z h0 r1) (ge0 : n0 ≤ r0) : CT l Z y47 B42 2 (some (.object "java/util/LinkedHashMap$Entry")) ⟨0, 0, 0, 0⟩ #[(.ref r0)] h0 (Q84 Z cv de ca r0 r1 r2 i3 r4 h0 n0) := by
  refine ct_intro ?_
  intro p e s m below meth c s₁ E0 hx D hml hown hnm hrt X0 e0 hZ hE
  have Z0 := O0.le
  have K0 := Keep.refl h0 [r0]
  have hws : ∀ w ∈ ([r0] : List Addr), n0 ≤ w := (allS ge0 all0)
  have N0 := Fr.nil n0
  have pre0 := ctp #[vr r0, un] hE
  have nin_r1 : r1 ∉ ([r0] : List Addr) := (ninS (Exa.ne q8 q4 (by decide)) nin0)
  obtain ⟨T1, X1, e1, st1⟩ := gF X0 hx hZ hown (w_ hw 290 rfl) Via.refl e0 q0 (g := (mkF m 1 #[vr r0, un] [(.ref r0)])) rfl rfl (D d42_1)
  obtain ⟨T2, X2, e2, st2⟩ := gF X1 hx hZ hown (w_ hw 284 rfl) Via.refl e1 q1 (g := (mkF m 6 #[vr r0, vr r1] [(.ref r0)])) rfl rfl (D d42_6)
  obtain ⟨T3, X3, e3, st3⟩ := gF X2 hx hZ hown (w_ hw 292 rfl) (Via.of (w_ hw 293 rfl)) e2 q2 (g := (mkF m 9 #[vr r0, vr r1] [(.ref r2)])) rfl rfl (D d42_9)
  obtain ⟨T4, X4, e4, st4⟩ := gF X3 hx hZ hown (w_ hw 294 rfl) Via.refl e3 q3 (g := (mkF m 13 #[vr r0, vr r1] [(.ref r0), (.int i3)])) rfl rfl (D d42_13)
  obtain ⟨T5, h5, X5, e5, W5, st5⟩ := putF X4 hx hZ hown (host := "") (Or.inl (w_ hw 296 rfl)) Via.refl e4 q6 q4 (Or.inl (w_ hw 297 rfl)) (w_ hw 272 rfl) (ty := (.object "java/util/LinkedHashMap$Entry")) (by decide) rfl rfl (g := (mkF m 41 #[vr r0, vr r1] [(.ref r1), (.ref r0)])) rfl rfl (D d42_41)
  have N5 := Fr.snoc X5 N0 ge0
  have k5 := K0.wr W5 (Or.inl (List.mem_of_getElem? (i := 0) rfl))
  have v5 := q6.same W5
  have f6 := (q5.other W5 (Or.inr (Ne.symm (sn76 hw))))
  obtain ⟨T7, X7, e7, st7⟩ := gF X5 hx hZ hown (w_ hw 287 rfl) Via.refl e5 f6 (g := (mkF m 46 #[vr r0, vr r1] [(.ref r0), (.ref r0)])) rfl rfl (D d42_46)
  have f8 := q7.keep k5 nin_r1
  obtain ⟨T9, X9, e9, st9⟩ := gF X7 hx hZ hown (w_ hw 326 rfl) Via.refl e7 f8 (g := (mkF m 60 #[vr r0, vr r1] [(.ref r1), (.ref r0)])) rfl rfl (D d42_60)
  have f10 := (q0.other W5 (Or.inr (Ne.symm (sn77 hw))))
  have f11 := (q4.wr W5)
  obtain ⟨T12, h12, X12, e12, W12, st12⟩ := putF X9 hx hZ hown (host := "") (Or.inl (w_ hw 290 rfl)) Via.refl e9 f10 f11 (Or.inl (w_ hw 291 rfl)) (w_ hw 272 rfl) (ty := (.object "java/util/LinkedHashMap$Entry")) (by decide) rfl rfl (g := (mkF m 63 #[vr r0, vr r1] [(.ref r4), (.ref r0)])) rfl rfl (D d42_63)
  have N12 := Fr.snoc X12 N5 ge0
  have k12 := k5.wr W12 (Or.inl (List.mem_of_getElem? (i := 0) rfl))
  have v12 := f10.same W12
  have f13 := ((q1.other W5 (Or.inr (Ne.symm (sn75 hw)))).other W12 (Or.inr (Ne.symm (sn70 hw))))
  have f14 := ((q3.other W5 (Or.inr (Ne.symm (sn78 hw)))).other W12 (Or.inr (sn74 hw)))
  have f15 := (f6.other W12 (Or.inr (Ne.symm (sn71 hw))))
  have f16 := (v5.other W12 (Or.inr (sn77 hw)))
  refine ⟨(some (.ref r1)), T12, _, _, _, X12, (fun hh => by cases hh), (by rw [e12]; exact ⟨rfl, N12, k12, v12, f13, f14, f15, f16⟩), (by decide), (by decide), fun fs hr => pre0 _ ?_⟩
  show SA p e below s₁ m 0 #[vr r0, un] [] _
  refine XS.aloadN X0.here hx rfl (D d42_0) rfl rfl ?_
  refine st1 _ ?_
  refine XS.astoreN X1.here hx rfl (D d42_4) rfl rfl (l' := #[vr r0, vr r1]) rfl ?_
  refine XS.aloadN X1.here hx rfl (D d42_5) rfl rfl ?_
  refine st2 _ ?_
  refine st3 _ ?_
  refine XS.aloadN X3.here hx rfl (D d42_12) rfl rfl ?_
  refine st4 _ ?_
  refine XS.icmpYes X4.here hx rfl (pc0 := 16) (pc' := 27) rfl (D d42_16) rfl (teq rfl).1 (by decide) (by decide) ?_
  refine XS.aloadN X4.here hx rfl (D d42_27) rfl rfl ?_
  refine XS.ifnonnullYes X4.here hx rfl (pc0 := 28) (pc' := 39) rfl (D d42_28) rfl (by decide) (by decide) ?_
  refine XS.aloadN X4.here hx rfl (D d42_39) rfl rfl ?_
  refine XS.aloadN X4.here hx rfl (D d42_40) rfl rfl ?_
  refine st5 _ ?_
  refine XS.aloadN X5.here hx rfl (D d42_44) rfl rfl ?_
  refine XS.aloadN X5.here hx rfl (D d42_45) rfl rfl ?_
  refine st7 _ ?_
  refine XS.ifYes X7.here hx rfl (pc0 := 49) (pc' := 59) rfl (D d42_49) rfl ((if0 _ _).trans (teq (by decide : ((0 : Int32) = (0 : Int32)))).1) (by decide) (by decide) ?_
  refine XS.aloadN X7.here hx rfl (D d42_59) rfl rfl ?_
  refine st9 _ ?_
  refine st12 _ ?_
  refine XS.aloadN X12.here hx rfl (D d42_66) rfl rfl ?_
  show SA p e below T12 m 67 #[vr r0, vr r1] [(.ref r1)] _
  exact retOut X12 hx hrt rfl (Or.inr (Or.inr (Or.inr (Or.inr ⟨rfl, rfl, rfl⟩)))) (D d42_67) hr
def Q85 (Z : State) (cv : Int32) (de ca : Addr) (r0 r1 r2 : Addr) (i3 : Int32) (r4 : Addr) (h0 : Heap) (n0 : Nat) (v : Option Value) (h : Heap) (L : List Loc) : Prop := v = (some (.ref r1)) ∧ Fr n0 L ∧ Keep h0 h [r0] ∧ P33 Z h r0 (.ref r4) ∧ P31 Z h r0 (.ref r2) ∧ P34 Z h r0 (.int i3) ∧ P32 Z h r0 (.int 0) ∧ P35 Z h r0 (.ref r1)
/-- LinkedHashMap$LinkedEntryIterator.next#1 -/
theorem t85 (hw : HW a0 Z) (SB0 : SB Z cv de ca) (r0 r1 r2 : Addr) (i3 : Int32) (r4 : Addr) (O0 : OL Z n0 h0) (q0 : E_10 Z h0 r0) (q1 : P33 Z h0 r0 (.ref r1)) (q2 : P31 Z h0 r0 (.ref r2)) (q3 : P7 Z h0 r2 (.int i3)) (q4 : P34 Z h0 r0 (.int i3)) (q5 : P32 Z h0 r0 (.int 0)) (q6 : P35 Z h0 r0 .null) (q7 : P21 Z h0 r1 (.ref r4)) (q8 : E_6 Z h0 r1) (ge0 : n0 ≤ r0) : CT l Z y49 B41 1 (some (.object "java/util/Map$Entry")) ⟨1, 0, 0, 13⟩ #[(.ref r0)] h0 (Q85 Z cv de ca r0 r1 r2 i3 r4 h0 n0) := by
  refine ct_intro ?_
  intro p e s m below meth c s₁ E0 hx D hml hown hnm hrt X0 e0 hZ hE
  have Z0 := O0.le
  have K0 := Keep.refl h0 [r0]
  have hws : ∀ w ∈ ([r0] : List Addr), n0 ≤ w := (allS ge0 all0)
  have N0 := Fr.nil n0
  have pre0 := ctp #[vr r0] hE
  obtain ⟨v1, T1, L1, X1, Q1, st1⟩ := kU (x := y48) (y := y47) (owner := "java/util/LinkedHashMap$LinkedHashIterator") X0 hx hZ hown (t84 hw SB0 r0 r1 r2 i3 r4 (O0.keep K0 hws) q1 q2 q3 q4 q0 q5 q6 q7 q8 ge0) q0 (w_ hw 320 rfl) (w_ hw 321 rfl) (w_ hw 322 rfl) (w_ hw 324 rfl) (w_ hw 323 rfl) (w_ hw 282 rfl) (w_ hw 325 rfl) e0 (g := (mkF m 1 #[vr r0] [(.ref r0)])) rfl hml rfl (argsL := []) (rest := []) (lenOf pd27 rfl) rfl rfl (W := 0) rfl (D d41_1)
  obtain ⟨h1, e1⟩ : ∃ z, T1.heap = z := ⟨_, rfl⟩
  rw [e1] at Q1
  obtain ⟨rfl, M1, K1, F1_0, F1_1, F1_2, F1_3, F1_4⟩ := Q1
  have N1 := N0.app M1
  have k1 := K0.trans K1 (allS (Or.inl (List.mem_of_getElem? (i := 0) rfl)) all0)
  refine ⟨(some (.ref r1)), T1, _, _, _, X1, (fun hh => by cases hh), (by rw [e1]; exact ⟨rfl, N1, k1, F1_0, F1_1, F1_2, F1_3, F1_4⟩), (by decide), (by decide), fun fs hr => pre0 _ ?_⟩
  show SA p e below s₁ m 0 #[vr r0] [] _
  refine XS.aloadN X0.here hx rfl (D d41_0) rfl rfl ?_
  refine st1 _ ?_
  show SA p e below T1 m 4 #[vr r0] [(.ref r1)] _
  exact retOut X1 hx hrt rfl (Or.inr (Or.inr (Or.inr (Or.inr ⟨rfl, rfl, rfl⟩)))) (D d41_4) hr
def Q86 (Z : State) (cv : Int32) (de ca : Addr) (r0 r1 r2 : Addr) (i3 : Int32) (r4 : Addr) (h0 : Heap) (n0 : Nat) (v : Option Value) (h : Heap) (L : List Loc) : Prop := v = (some (.ref r1)) ∧ Fr n0 L ∧ Keep h0 h [r0] ∧ P33 Z h r0 (.ref r4) ∧ P31 Z h r0 (.ref r2) ∧ P34 Z h r0 (.int i3) ∧ P32 Z h r0 (.int 0) ∧ P35 Z h r0 (.ref r1)
/-- LinkedHashMap$LinkedEntryIterator.next#1 -/
theorem t86 (hw : HW a0 Z) (SB0 : SB Z cv de ca) (r0 r1 r2 : Addr) (i3 : Int32) (r4 : Addr) (O0 : OL Z n0 h0) (q0 : E_10 Z h0 r0) (q1 : P33 Z h0 r0 (.ref r1)) (q2 : P31 Z h0 r0 (.ref r2)) (q3 : P7 Z h0 r2 (.int i3)) (q4 : P34 Z h0 r0 (.int i3)) (q5 : P32 Z h0 r0 (.int 0)) (q6 : P35 Z h0 r0 .null) (q7 : P21 Z h0 r1 (.ref r4)) (q8 : E_6 Z h0 r1) (ge0 : n0 ≤ r0) : CT l Z y51 B40 1 (some (.object "java/lang/Object")) ⟨2, 0, 0, 25⟩ #[(.ref r0)] h0 (Q86 Z cv de ca r0 r1 r2 i3 r4 h0 n0) := by
  refine ct_intro ?_
  intro p e s m below meth c s₁ E0 hx D hml hown hnm hrt X0 e0 hZ hE
  have Z0 := O0.le
  have K0 := Keep.refl h0 [r0]
  have hws : ∀ w ∈ ([r0] : List Addr), n0 ≤ w := (allS ge0 all0)
  have N0 := Fr.nil n0
  have pre0 := ctp #[vr r0] hE
  obtain ⟨v1, T1, L1, X1, Q1, st1⟩ := kV (y := y49) (z := y49) X0 hx hZ hown (t85 hw SB0 r0 r1 r2 i3 r4 (O0.keep K0 hws) q0 q1 q2 q3 q4 q5 q6 q7 q8 ge0) q0 (nf_of (x := y50) (y' := y51) (args := #[]) (mvT hZ (w_ hw 310 rfl)) rfl) (w_ hw 315 rfl) (w_ hw 316 rfl) (w_ hw 318 rfl) (w_ hw 317 rfl) (w_ hw 273 rfl) (w_ hw 319 rfl) e0 (g := (mkF m 1 #[vr r0] [(.ref r0)])) rfl hml rfl (argsL := []) (rest := []) (lenOf pd28 rfl) rfl rfl (W := 0) rfl (D d40_1)
  obtain ⟨h1, e1⟩ : ∃ z, T1.heap = z := ⟨_, rfl⟩
  rw [e1] at Q1
  obtain ⟨rfl, M1, K1, F1_0, F1_1, F1_2, F1_3, F1_4⟩ := Q1
  have N1 := N0.app M1
  have k1 := K0.trans K1 (allS (Or.inl (List.mem_of_getElem? (i := 0) rfl)) all0)
  refine ⟨(some (.ref r1)), T1, _, _, _, X1, (fun hh => by cases hh), (by rw [e1]; exact ⟨rfl, N1, k1, F1_0, F1_1, F1_2, F1_3, F1_4⟩), (by decide), (by decide), fun fs hr => pre0 _ ?_⟩
  show SA p e below s₁ m 0 #[vr r0] [] _
  refine XS.aloadN X0.here hx rfl (D d40_0) rfl rfl ?_
  refine st1 _ ?_
  show SA p e below T1 m 4 #[vr r0] [(.ref r1)] _
  exact retOut X1 hx hrt rfl (Or.inr (Or.inr (Or.inr (Or.inr ⟨rfl, rfl, rfl⟩)))) (D d40_4) hr
def Q87 (Z : State) (cv : Int32) (de ca : Addr) (r0 r1 r2 : Addr) (i3 : Int32) (r4 : Addr) (h0 : Heap) (n0 : Nat) (v : Option Value) (h : Heap) (L : List Loc) : Prop := v = (some (.ref r1)) ∧ Fr n0 L ∧ Keep h0 h [r0] ∧ P33 Z h r0 .null ∧ P31 Z h r0 (.ref r2) ∧ P34 Z h r0 (.int i3) ∧ P32 Z h r0 (.int 0) ∧ P35 Z h r0 (.ref r1)
/-- LinkedHashMap$LinkedHashIterator.nextNode#2 -/
theorem t87 (hw : HW a0 Z) (SB0 : SB Z cv de ca) (r0 r1 r2 : Addr) (i3 : Int32) (r4 : Addr) (O0 : OL Z n0 h0) (q0 : P33 Z h0 r0 (.ref r1)) (q1 : P31 Z h0 r0 (.ref r2)) (q2 : P7 Z h0 r2 (.int i3)) (q3 : P34 Z h0 r0 (.int i3)) (q4 : E_10 Z h0 r0) (q5 : P32 Z h0 r0 (.int 0)) (q6 : P35 Z h0 r0 (.ref r4)) (q7 : P21 Z h0 r1 .null) (q8 : E_6 Z h0 r1) (ge0 : n0 ≤ r0) : CT l Z y47 B42 2 (some (.object "java/util/LinkedHashMap$Entry")) ⟨0, 0, 0, 0⟩ #[(.ref r0)] h0 (Q87 Z cv de ca r0 r1 r2 i3 r4 h0 n0) := by
  refine ct_intro ?_
  intro p e s m below meth c s₁ E0 hx D hml hown hnm hrt X0 e0 hZ hE
  have Z0 := O0.le
  have K0 := Keep.refl h0 [r0]
  have hws : ∀ w ∈ ([r0] : List Addr), n0 ≤ w := (allS ge0 all0)
  have N0 := Fr.nil n0
  have pre0 := ctp #[vr r0, un] hE
  have nin_r1 : r1 ∉ ([r0] : List Addr) := (ninS (Exa.ne q8 q4 (by decide)) nin0)
  obtain ⟨T1, X1, e1, st1⟩ := gF X0 hx hZ hown (w_ hw 290 rfl) Via.refl e0 q0 (g := (mkF m 1 #[vr r0, un] [(.ref r0)])) rfl rfl (D d42_1)
  obtain ⟨T2, X2, e2, st2⟩ := gF X1 hx hZ hown (w_ hw 284 rfl) Via.refl e1 q1 (g := (mkF m 6 #[vr r0, vr r1] [(.ref r0)])) rfl rfl (D d42_6)
  obtain ⟨T3, X3, e3, st3⟩ := gF X2 hx hZ hown (w_ hw 292 rfl) (Via.of (w_ hw 293 rfl)) e2 q2 (g := (mkF m 9 #[vr r0, vr r1] [(.ref r2)])) rfl rfl (D d42_9)
  obtain ⟨T4, X4, e4, st4⟩ := gF X3 hx hZ hown (w_ hw 294 rfl) Via.refl e3 q3 (g := (mkF m 13 #[vr r0, vr r1] [(.ref r0), (.int i3)])) rfl rfl (D d42_13)
  obtain ⟨T5, h5, X5, e5, W5, st5⟩ := putF X4 hx hZ hown (host := "") (Or.inl (w_ hw 296 rfl)) Via.refl e4 q6 q4 (Or.inl (w_ hw 297 rfl)) (w_ hw 272 rfl) (ty := (.object "java/util/LinkedHashMap$Entry")) (by decide) rfl rfl (g := (mkF m 41 #[vr r0, vr r1] [(.ref r1), (.ref r0)])) rfl rfl (D d42_41)
  have N5 := Fr.snoc X5 N0 ge0
  have k5 := K0.wr W5 (Or.inl (List.mem_of_getElem? (i := 0) rfl))
  have v5 := q6.same W5
  have f6 := (q5.other W5 (Or.inr (Ne.symm (sn76 hw))))
  obtain ⟨T7, X7, e7, st7⟩ := gF X5 hx hZ hown (w_ hw 287 rfl) Via.refl e5 f6 (g := (mkF m 46 #[vr r0, vr r1] [(.ref r0), (.ref r0)])) rfl rfl (D d42_46)
  have f8 := q7.keep k5 nin_r1
  obtain ⟨T9, X9, e9, st9⟩ := gF X7 hx hZ hown (w_ hw 326 rfl) Via.refl e7 f8 (g := (mkF m 60 #[vr r0, vr r1] [(.ref r1), (.ref r0)])) rfl rfl (D d42_60)
  have f10 := (q0.other W5 (Or.inr (Ne.symm (sn77 hw))))
  have f11 := (q4.wr W5)
  obtain ⟨T12, h12, X12, e12, W12, st12⟩ := putF X9 hx hZ hown (host := "") (Or.inl (w_ hw 290 rfl)) Via.refl e9 f10 f11 (Or.inl (w_ hw 291 rfl)) (w_ hw 272 rfl) (ty := (.object "java/util/LinkedHashMap$Entry")) (by decide) rfl rfl (g := (mkF m 63 #[vr r0, vr r1] [.null, (.ref r0)])) rfl rfl (D d42_63)
  have N12 := Fr.snoc X12 N5 ge0
  have k12 := k5.wr W12 (Or.inl (List.mem_of_getElem? (i := 0) rfl))
  have v12 := f10.same W12
  have f13 := ((q1.other W5 (Or.inr (Ne.symm (sn75 hw)))).other W12 (Or.inr (Ne.symm (sn70 hw))))
  have f14 := ((q3.other W5 (Or.inr (Ne.symm (sn78 hw)))).other W12 (Or.inr (sn74 hw)))
  have f15 := (f6.other W12 (Or.inr (Ne.symm (sn71 hw))))
  have f16 := (v5.other W12 (Or.inr (sn77 hw)))
  refine ⟨(some (.ref r1)), T12, _, _, _, X12, (fun hh => by cases hh), (by rw [e12]; exact ⟨rfl, N12, k12, v12, f13, f14, f15, f16⟩), (by decide), (by decide), fun fs hr => pre0 _ ?_⟩
  show SA p e below s₁ m 0 #[vr r0, un] [] _
  refine XS.aloadN X0.here hx rfl (D d42_0) rfl rfl ?_
  refine st1 _ ?_
  refine XS.astoreN X1.here hx rfl (D d42_4) rfl rfl (l' := #[vr r0, vr r1]) rfl ?_
  refine XS.aloadN X1.here hx rfl (D d42_5) rfl rfl ?_
  refine st2 _ ?_
  refine st3 _ ?_
  refine XS.aloadN X3.here hx rfl (D d42_12) rfl rfl ?_
  refine st4 _ ?_
  refine XS.icmpYes X4.here hx rfl (pc0 := 16) (pc' := 27) rfl (D d42_16) rfl (teq rfl).1 (by decide) (by decide) ?_
  refine XS.aloadN X4.here hx rfl (D d42_27) rfl rfl ?_
  refine XS.ifnonnullYes X4.here hx rfl (pc0 := 28) (pc' := 39) rfl (D d42_28) rfl (by decide) (by decide) ?_
  refine XS.aloadN X4.here hx rfl (D d42_39) rfl rfl ?_
  refine XS.aloadN X4.here hx rfl (D d42_40) rfl rfl ?_
  refine st5 _ ?_
  refine XS.aloadN X5.here hx rfl (D d42_44) rfl rfl ?_
  refine XS.aloadN X5.here hx rfl (D d42_45) rfl rfl ?_
  refine st7 _ ?_
  refine XS.ifYes X7.here hx rfl (pc0 := 49) (pc' := 59) rfl (D d42_49) rfl ((if0 _ _).trans (teq (by decide : ((0 : Int32) = (0 : Int32)))).1) (by decide) (by decide) ?_
  refine XS.aloadN X7.here hx rfl (D d42_59) rfl rfl ?_
  refine st9 _ ?_
  refine st12 _ ?_
  refine XS.aloadN X12.here hx rfl (D d42_66) rfl rfl ?_
  show SA p e below T12 m 67 #[vr r0, vr r1] [(.ref r1)] _
  exact retOut X12 hx hrt rfl (Or.inr (Or.inr (Or.inr (Or.inr ⟨rfl, rfl, rfl⟩)))) (D d42_67) hr
def Q88 (Z : State) (cv : Int32) (de ca : Addr) (r0 r1 r2 : Addr) (i3 : Int32) (r4 : Addr) (h0 : Heap) (n0 : Nat) (v : Option Value) (h : Heap) (L : List Loc) : Prop := v = (some (.ref r1)) ∧ Fr n0 L ∧ Keep h0 h [r0] ∧ P33 Z h r0 .null ∧ P31 Z h r0 (.ref r2) ∧ P34 Z h r0 (.int i3) ∧ P32 Z h r0 (.int 0) ∧ P35 Z h r0 (.ref r1)
/-- LinkedHashMap$LinkedEntryIterator.next#2 -/
theorem t88 (hw : HW a0 Z) (SB0 : SB Z cv de ca) (r0 r1 r2 : Addr) (i3 : Int32) (r4 : Addr) (O0 : OL Z n0 h0) (q0 : E_10 Z h0 r0) (q1 : P33 Z h0 r0 (.ref r1)) (q2 : P31 Z h0 r0 (.ref r2)) (q3 : P7 Z h0 r2 (.int i3)) (q4 : P34 Z h0 r0 (.int i3)) (q5 : P32 Z h0 r0 (.int 0)) (q6 : P35 Z h0 r0 (.ref r4)) (q7 : P21 Z h0 r1 .null) (q8 : E_6 Z h0 r1) (ge0 : n0 ≤ r0) : CT l Z y49 B41 1 (some (.object "java/util/Map$Entry")) ⟨1, 0, 0, 13⟩ #[(.ref r0)] h0 (Q88 Z cv de ca r0 r1 r2 i3 r4 h0 n0) := by
  refine ct_intro ?_
  intro p e s m below meth c s₁ E0 hx D hml hown hnm hrt X0 e0 hZ hE
  have Z0 := O0.le
  have K0 := Keep.refl h0 [r0]
  have hws : ∀ w ∈ ([r0] : List Addr), n0 ≤ w := (allS ge0 all0)
  have N0 := Fr.nil n0
  have pre0 := ctp #[vr r0] hE
  obtain ⟨v1, T1, L1, X1, Q1, st1⟩ := kU (x := y48) (y := y47) (owner := "java/util/LinkedHashMap$LinkedHashIterator") X0 hx hZ hown (t87 hw SB0 r0 r1 r2 i3 r4 (O0.keep K0 hws) q1 q2 q3 q4 q0 q5 q6 q7 q8 ge0) q0 (w_ hw 320 rfl) (w_ hw 321 rfl) (w_ hw 322 rfl) (w_ hw 324 rfl) (w_ hw 323 rfl) (w_ hw 282 rfl) (w_ hw 325 rfl) e0 (g := (mkF m 1 #[vr r0] [(.ref r0)])) rfl hml rfl (argsL := []) (rest := []) (lenOf pd27 rfl) rfl rfl (W := 0) rfl (D d41_1)
  obtain ⟨h1, e1⟩ : ∃ z, T1.heap = z := ⟨_, rfl⟩
  rw [e1] at Q1
  obtain ⟨rfl, M1, K1, F1_0, F1_1, F1_2, F1_3, F1_4⟩ := Q1
  have N1 := N0.app M1
  have k1 := K0.trans K1 (allS (Or.inl (List.mem_of_getElem? (i := 0) rfl)) all0)
  refine ⟨(some (.ref r1)), T1, _, _, _, X1, (fun hh => by cases hh), (by rw [e1]; exact ⟨rfl, N1, k1, F1_0, F1_1, F1_2, F1_3, F1_4⟩), (by decide), (by decide), fun fs hr => pre0 _ ?_⟩
  show SA p e below s₁ m 0 #[vr r0] [] _
  refine XS.aloadN X0.here hx rfl (D d41_0) rfl rfl ?_
  refine st1 _ ?_
  show SA p e below T1 m 4 #[vr r0] [(.ref r1)] _
  exact retOut X1 hx hrt rfl (Or.inr (Or.inr (Or.inr (Or.inr ⟨rfl, rfl, rfl⟩)))) (D d41_4) hr
def Q89 (Z : State) (cv : Int32) (de ca : Addr) (r0 r1 r2 : Addr) (i3 : Int32) (r4 : Addr) (h0 : Heap) (n0 : Nat) (v : Option Value) (h : Heap) (L : List Loc) : Prop := v = (some (.ref r1)) ∧ Fr n0 L ∧ Keep h0 h [r0] ∧ P33 Z h r0 .null ∧ P31 Z h r0 (.ref r2) ∧ P34 Z h r0 (.int i3) ∧ P32 Z h r0 (.int 0) ∧ P35 Z h r0 (.ref r1)
/-- LinkedHashMap$LinkedEntryIterator.next#2 -/
theorem t89 (hw : HW a0 Z) (SB0 : SB Z cv de ca) (r0 r1 r2 : Addr) (i3 : Int32) (r4 : Addr) (O0 : OL Z n0 h0) (q0 : E_10 Z h0 r0) (q1 : P33 Z h0 r0 (.ref r1)) (q2 : P31 Z h0 r0 (.ref r2)) (q3 : P7 Z h0 r2 (.int i3)) (q4 : P34 Z h0 r0 (.int i3)) (q5 : P32 Z h0 r0 (.int 0)) (q6 : P35 Z h0 r0 (.ref r4)) (q7 : P21 Z h0 r1 .null) (q8 : E_6 Z h0 r1) (ge0 : n0 ≤ r0) : CT l Z y51 B40 1 (some (.object "java/lang/Object")) ⟨2, 0, 0, 25⟩ #[(.ref r0)] h0 (Q89 Z cv de ca r0 r1 r2 i3 r4 h0 n0) := by
  refine ct_intro ?_
  intro p e s m below meth c s₁ E0 hx D hml hown hnm hrt X0 e0 hZ hE
  have Z0 := O0.le
  have K0 := Keep.refl h0 [r0]
  have hws : ∀ w ∈ ([r0] : List Addr), n0 ≤ w := (allS ge0 all0)
  have N0 := Fr.nil n0
  have pre0 := ctp #[vr r0] hE
  obtain ⟨v1, T1, L1, X1, Q1, st1⟩ := kV (y := y49) (z := y49) X0 hx hZ hown (t88 hw SB0 r0 r1 r2 i3 r4 (O0.keep K0 hws) q0 q1 q2 q3 q4 q5 q6 q7 q8 ge0) q0 (nf_of (x := y50) (y' := y51) (args := #[]) (mvT hZ (w_ hw 310 rfl)) rfl) (w_ hw 315 rfl) (w_ hw 316 rfl) (w_ hw 318 rfl) (w_ hw 317 rfl) (w_ hw 273 rfl) (w_ hw 319 rfl) e0 (g := (mkF m 1 #[vr r0] [(.ref r0)])) rfl hml rfl (argsL := []) (rest := []) (lenOf pd28 rfl) rfl rfl (W := 0) rfl (D d40_1)
  obtain ⟨h1, e1⟩ : ∃ z, T1.heap = z := ⟨_, rfl⟩
  rw [e1] at Q1
  obtain ⟨rfl, M1, K1, F1_0, F1_1, F1_2, F1_3, F1_4⟩ := Q1
  have N1 := N0.app M1
  have k1 := K0.trans K1 (allS (Or.inl (List.mem_of_getElem? (i := 0) rfl)) all0)
  refine ⟨(some (.ref r1)), T1, _, _, _, X1, (fun hh => by cases hh), (by rw [e1]; exact ⟨rfl, N1, k1, F1_0, F1_1, F1_2, F1_3, F1_4⟩), (by decide), (by decide), fun fs hr => pre0 _ ?_⟩
  show SA p e below s₁ m 0 #[vr r0] [] _
  refine XS.aloadN X0.here hx rfl (D d40_0) rfl rfl ?_
  refine st1 _ ?_
  show SA p e below T1 m 4 #[vr r0] [(.ref r1)] _
  exact retOut X1 hx hrt rfl (Or.inr (Or.inr (Or.inr (Or.inr ⟨rfl, rfl, rfl⟩)))) (D d40_4) hr
/-- String.hashCode#3 -/
theorem t90 (hw : HW a0 Z) (SB0 : SB Z cv de ca) (r0 : Addr) (O0 : OL Z n0 h0) (q0 : P12 Z h0 r0 (.int 98))  : CT l Z y19 B20 2 (some .int) ⟨0, 0, 0, 0⟩ #[(.ref r0)] h0 (QP0 (some (.int 98)) h0 n0) := by
  refine ct_intro ?_
  intro p e s m below meth c s₁ E0 hx D hml hown hnm hrt X0 e0 hZ hE
  have N0 := Fr.nil n0
  have pre0 := ctp #[vr r0, un] hE
  obtain ⟨T1, X1, e1, st1⟩ := gF X0 hx hZ hown (w_ hw 133 rfl) Via.refl e0 q0 (g := (mkF m 1 #[vr r0, un] [(.ref r0)])) rfl rfl (D d20_1)
  refine ⟨(some (.int 98)), T1, _, _, _, X1, (fun hh => by cases hh), (by rw [e1]; exact ⟨rfl, N0, rfl⟩), (by decide), (by decide), fun fs hr => pre0 _ ?_⟩
  show SA p e below s₁ m 0 #[vr r0, un] [] _
  refine XS.aloadN X0.here hx rfl (D d20_0) rfl rfl ?_
  refine st1 _ ?_
  refine XS.istoreN X1.here hx rfl (D d20_4) rfl (l' := #[vr r0, vi 98]) rfl ?_
  refine XS.iloadN X1.here hx rfl (D d20_5) rfl ?_
  refine XS.ifYes X1.here hx rfl (pc0 := 6) (pc' := 58) rfl (D d20_6) rfl ((if0 _ _).trans (feq (by decide : ¬ ((98 : Int32) = (0 : Int32)))).2) (by decide) (by decide) ?_
  refine XS.iloadN X1.here hx rfl (D d20_58) rfl ?_
  show SA p e below T1 m 59 #[vr r0, vi 98] [(.int 98)] _
  exact retOut X1 hx hrt rfl (Or.inl ⟨rfl, Or.inl rfl, _, rfl⟩) (D d20_59) hr
/-- HashMap.hash#3 -/
theorem t91 (hw : HW a0 Z) (SB0 : SB Z cv de ca) (r0 : Addr) (O0 : OL Z n0 h0) (q0 : E_2 Z h0 r0) (q1 : P12 Z h0 r0 (.int 98))  : CT l Z y23 B19 2 (some .int) ⟨1, 0, 0, 13⟩ #[(.ref r0)] h0 (QP0 (some (.int 98)) h0 n0) := by
  refine ct_intro ?_
  intro p e s m below meth c s₁ E0 hx D hml hown hnm hrt X0 e0 hZ hE
  have Z0 := O0.le
  have K0 := Keep.refl h0 []
  have hws : ∀ w ∈ ([] : List Addr), n0 ≤ w := all0
  have N0 := Fr.nil n0
  have pre0 := ctp #[vr r0, un] hE
  obtain ⟨v1, T1, L1, X1, Q1, st1⟩ := kV (y := y18) (z := y19) X0 hx hZ hown (t90 hw SB0 r0 (O0.keep K0 hws) q1) q0 (nf_of (x := y21) (y' := y22) (args := #[]) (mvT hZ (w_ hw 424 rfl)) rfl) (w_ hw 127 rfl) (w_ hw 128 rfl) (w_ hw 130 rfl) (w_ hw 131 rfl) (w_ hw 31 rfl) (w_ hw 132 rfl) e0 (g := (mkF m 9 #[vr r0, un] [(.ref r0)])) rfl hml rfl (argsL := []) (rest := []) (lenOf pd13 rfl) rfl rfl (W := 0) rfl (D d19_9)
  obtain ⟨rfl, M1, e1⟩ := Q1
  have N1 := N0.app M1
  refine ⟨(some (.int 98)), T1, _, _, _, X1, (fun hh => by cases hh), (by rw [e1]; exact ⟨rfl, N1, rfl⟩), (by decide), (by decide), fun fs hr => pre0 _ ?_⟩
  show SA p e below s₁ m 0 #[vr r0, un] [] _
  refine XS.aloadN X0.here hx rfl (D d19_0) rfl rfl ?_
  refine XS.ifnonnullYes X0.here hx rfl (pc0 := 1) (pc' := 8) rfl (D d19_1) rfl (by decide) (by decide) ?_
  refine XS.aloadN X0.here hx rfl (D d19_8) rfl rfl ?_
  refine st1 _ ?_
  refine XS.dup X1.here hx rfl (D d19_12) rfl rfl ?_
  refine XS.istoreN X1.here hx rfl (D d19_13) rfl (l' := #[vr r0, vi 98]) rfl ?_
  refine XS.iloadN X1.here hx rfl (D d19_14) rfl ?_
  refine XS.bipush X1.here hx rfl (D d19_15) ?_
  refine XS.iushr X1.here hx rfl (D d19_17) rfl ?_
  refine XS.ixor X1.here hx rfl (D d19_18) rfl ?_
  show SA p e below T1 m 19 #[vr r0, vi 98] [(.int 98)] _
  exact retOut X1 hx hrt rfl (Or.inl ⟨rfl, Or.inl rfl, _, rfl⟩) (D d19_19) hr
def Q92 (Z : State) (cv : Int32) (de ca : Addr) (r0 r1 r2 r3 r4 : Addr) (k5 : ClassId) (h0 : Heap) (n0 : Nat) (v : Option Value) (h : Heap) (L : List Loc) : Prop := ∃ (b4_0 : Addr), v = (some .null) ∧ Fr n0 L ∧ Keep h0 h [r3, r0] ∧ h0.size ≤ b4_0 ∧ Arv Z h r3 k5 (.object "java/util/HashMap$Node") (16 : Int32) [.null, (.ref r4), (.ref b4_0), .null, .null, .null, .null, .null, .null, .null, .null, .null, .null, .null, .null, .null] .null ∧ P3 Z h r0 (.ref r3) ∧ P7 Z h r0 (.int 2) ∧ P4 Z h r0 (.int 12) ∧ P8 Z h r0 (.int 2) ∧ E_12 Z h b4_0 ∧ P17 Z h b4_0 (.int 98) ∧ P18 Z h b4_0 (.ref r1) ∧ P19 Z h b4_0 (.ref r2)
/-- HashMap.putVal#3 -/
theorem t92 (hw : HW a0 Z) (SB0 : SB Z cv de ca) (r0 r1 r2 r3 r4 : Addr) (k5 : ClassId) (O0 : OL Z n0 h0) (q0 : P3 Z h0 r0 (.ref r3)) (q1 : Arv Z h0 r3 k5 (.object "java/util/HashMap$Node") (16 : Int32) [.null, (.ref r4), .null, .null, .null, .null, .null, .null, .null, .null, .null, .null, .null, .null, .null, .null] .null) (q2 : E_7 Z h0 r0) (q3 : E_5 Z h0 r3) (q4 : Ovr Z k5 "java/util/HashMap$Node") (q5 : P7 Z h0 r0 (.int 1)) (q6 : P4 Z h0 r0 (.int 12)) (q7 : P8 Z h0 r0 (.int 1)) (ge0 : n0 ≤ r3) (ge1 : n0 ≤ r0) : CT l Z y35 B23 13 (some (.object "java/lang/Object")) ⟨3, 1, 4, 47⟩ #[(.ref r0), (.int 98), (.ref r1), (.ref r2), (.int 0), (.int 1)] h0 (Q92 Z cv de ca r0 r1 r2 r3 r4 k5 h0 n0) := by
  refine ct_intro ?_
  intro p e s m below meth c s₁ E0 hx D hml hown hnm hrt X0 e0 hZ hE
  have Z0 := O0.le
  have K0 := Keep.refl h0 [r3, r0]
  have hws : ∀ w ∈ ([r3, r0] : List Addr), n0 ≤ w := (allS ge0 (allS ge1 all0))
  have N0 := Fr.nil n0
  have pre0 := ctp #[vr r0, vi 98, vr r1, vr r2, vi 0, vi 1, un, un, un, un, un, un, un] hE
  obtain ⟨T1, X1, e1, st1⟩ := gF X0 hx hZ hown (w_ hw 150 rfl) Via.refl e0 q0 (g := (mkF m 1 #[vr r0, vi 98, vr r1, vr r2, vi 0, vi 1, un, un, un, un, un, un, un] [(.ref r0)])) rfl rfl (D d23_1)
  obtain ⟨_, Ar2, -, S2, M2, -, -⟩ := id q1
  obtain ⟨_, Ar3, -, S3, M3, H3, -⟩ := id q1
  obtain ⟨v4, T4, L4, X4, Q4, st4⟩ := kV (y := y30) (z := y30) X1 hx hZ hown (t57 hw SB0 r0 (98 : Int32) r1 r2 (O0.keep K0 hws) ) q2 (nf_of (x := y25) (y' := y26) (args := #[]) (mvT hZ (w_ hw 118 rfl)) rfl) (w_ hw 161 rfl) (w_ hw 162 rfl) (w_ hw 354 rfl) (w_ hw 163 rfl) (w_ hw 11 rfl) (w_ hw 355 rfl) e1 (g := (mkF m 56 #[vr r0, vi 98, vr r1, vr r2, vi 0, vi 1, vr r3, .val .null, vi 16, vi 2, un, un, un] [.null, (.ref r2), (.ref r1), (.int 98), (.ref r0), (.int 2), (.ref r3)])) rfl hml rfl (argsL := [(.int 98), (.ref r1), (.ref r2), .null]) (rest := [(.int 2), (.ref r3)]) (lenOf pd18 rfl) rfl rfl (W := 2) rfl (D d23_56)
  obtain ⟨h4, e4⟩ : ∃ z, T4.heap = z := ⟨_, rfl⟩
  rw [e4] at Q4
  obtain ⟨b4_0, rfl, M4, K4, y4_0, F4_0, F4_1, F4_2, F4_3⟩ := Q4
  have N4 := N0.app M4
  have z4_b4_0 := Nat.le_trans K0.1 y4_0
  have k4 := K0.trans K4 all0
  have f5 := (q1.keep K4 nin0)
  obtain ⟨_, Ar6, C6, S6, M6, H6, G6⟩ := id f5
  obtain ⟨T7, h7, X7, e7, W7, st7⟩ := stR X4 hx hZ e4 Ar6 (j := (2 : Int32)) (inb_of S6 ⟨by decide, by decide⟩) rfl (Sto.ofV Ar6 C6 q4 (Ins.self F4_0)) (g := (mkF m 59 #[vr r0, vi 98, vr r1, vr r2, vi 0, vi 1, vr r3, .val .null, vi 16, vi 2, un, un, un] [(.ref b4_0), (.int 2), (.ref r3)])) rfl rfl (D d23_59)
  have N7 := Fr.snoc X7 N4 ge0
  have k7 := k4.wr W7 (Or.inl (List.mem_of_getElem? (i := 0) rfl))
  have v7 : Arv Z h7 r3 k5 (.object "java/util/HashMap$Node") (16 : Int32) [.null, (.ref r4), (.ref b4_0), .null, .null, .null, .null, .null, .null, .null, .null, .null, .null, .null, .null, .null] .null := Arv.set Ar6 C6 S6 M6 H6 G6 rfl W7 2 rfl (by show 2 < 16; decide)
  have f9 := q2.keep k7
  have f10 := ((q3.keep K4).wr W7)
  have ne8 : r0 ≠ r3 := Exa.ne f9 f10 (by decide)
  have f11 := ((q5.keep K4 nin0).other W7 (Or.inl ne8))
  obtain ⟨T12, X12, e12, st12⟩ := gF X7 hx hZ hown (w_ hw 198 rfl) Via.refl e7 f11 (g := (mkF m 261 #[vr r0, vi 98, vr r1, vr r2, vi 0, vi 1, vr r3, .val .null, vi 16, vi 2, un, un, un] [(.ref r0), (.ref r0)])) rfl rfl (D d23_261)
  obtain ⟨T13, h13, X13, e13, W13, st13⟩ := putF X12 hx hZ hown (host := "") (Or.inl (w_ hw 198 rfl)) Via.refl e12 f11 f9 (Or.inl (w_ hw 363 rfl)) (w_ hw 221 rfl) (ty := .int) (by decide) rfl rfl (g := (mkF m 266 #[vr r0, vi 98, vr r1, vr r2, vi 0, vi 1, vr r3, .val .null, vi 16, vi 2, un, un, un] [(.int 2), (.ref r0)])) rfl rfl (D d23_266)
  have N13 := Fr.snoc X13 N7 ge1
  have k13 := k7.wr W13 (Or.inl (List.mem_of_getElem? (i := 1) rfl))
  have v13 := f11.same W13
  have f14 := (((q7.keep K4 nin0).other W7 (Or.inl ne8)).other W13 (Or.inr (sn65 hw)))
  obtain ⟨T15, X15, e15, st15⟩ := gF X13 hx hZ hown (w_ hw 200 rfl) Via.refl e13 f14 (g := (mkF m 271 #[vr r0, vi 98, vr r1, vr r2, vi 0, vi 1, vr r3, .val .null, vi 16, vi 2, un, un, un] [(.ref r0), (.ref r0)])) rfl rfl (D d23_271)
  have f16 := (f9.wr W13)
  obtain ⟨T17, h17, X17, e17, W17, st17⟩ := putF X15 hx hZ hown (host := "") (Or.inl (w_ hw 200 rfl)) Via.refl e15 f14 f16 (Or.inl (w_ hw 364 rfl)) (w_ hw 221 rfl) (ty := .int) (by decide) rfl rfl (g := (mkF m 277 #[vr r0, vi 98, vr r1, vr r2, vi 0, vi 1, vr r3, .val .null, vi 16, vi 2, un, un, un] [(.int 2), (.ref r0), (.int 2)])) rfl rfl (D d23_277)
  have N17 := Fr.snoc X17 N13 ge1
  have k17 := k13.wr W17 (Or.inl (List.mem_of_getElem? (i := 1) rfl))
  have v17 := f14.same W17
  have f18 := ((((q6.keep K4 nin0).other W7 (Or.inl ne8)).other W13 (Or.inr (Ne.symm (sn38 hw)))).other W17 (Or.inr (Ne.symm (sn40 hw))))
  obtain ⟨T19, X19, e19, st19⟩ := gF X17 hx hZ hown (w_ hw 157 rfl) Via.refl e17 f18 (g := (mkF m 281 #[vr r0, vi 98, vr r1, vr r2, vi 0, vi 1, vr r3, .val .null, vi 16, vi 2, un, un, un] [(.ref r0), (.int 2)])) rfl rfl (D d23_281)
  have f20 := (f16.wr W17)
  obtain ⟨v21, T21, L21, X21, Q21, st21⟩ := kV (y := y34) (z := y34) X19 hx hZ hown (t58 hw SB0 r0 (O0.keep k17 hws) ) f20 (nf_of (x := y25) (y' := y26) (args := #[]) (mvT hZ (w_ hw 118 rfl)) rfl) (w_ hw 202 rfl) (w_ hw 203 rfl) (w_ hw 365 rfl) (w_ hw 204 rfl) (w_ hw 11 rfl) (w_ hw 366 rfl) e19 (g := (mkF m 295 #[vr r0, vi 98, vr r1, vr r2, vi 0, vi 1, vr r3, .val .null, vi 16, vi 2, un, un, un] [(.int 1), (.ref r0)])) rfl hml rfl (argsL := [(.int 1)]) (rest := []) (lenOf pd20 rfl) rfl rfl (W := 0) rfl (D d23_295)
  obtain ⟨rfl, M21, e21⟩ := Q21
  have N21 := N17.app M21
  have f22 := ((v7.other W13 (Ne.symm ne8)).other W17 (Ne.symm ne8))
  have f23 := ((((q0.keep K4 nin0).other W7 (Or.inl ne8)).other W13 (Or.inr (Ne.symm (sn39 hw)))).other W17 (Or.inr (Ne.symm (sn41 hw))))
  have f24 := (v13.other W17 (Or.inr (Ne.symm (sn65 hw))))
  have f25 := (((F4_0.wr W7).wr W13).wr W17)
  have f27 := ((f10.wr W13).wr W17)
  have ne26 : b4_0 ≠ r3 := Exa.ne f25 f27 (by decide)
  have ne28 : b4_0 ≠ r0 := Exa.ne f25 f20 (by decide)
  have f29 := (((F4_1.other W7 (Or.inl ne26)).other W13 (Or.inl ne28)).other W17 (Or.inl ne28))
  have f30 := (((F4_2.other W7 (Or.inl ne26)).other W13 (Or.inl ne28)).other W17 (Or.inl ne28))
  have f31 := (((F4_3.other W7 (Or.inl ne26)).other W13 (Or.inl ne28)).other W17 (Or.inl ne28))
  refine ⟨(some .null), T21, _, _, _, X21, (fun hh => by cases hh), (by rw [e21]; exact ⟨b4_0, rfl, N21, k17, z4_b4_0, f22, f23, f24, f18, v17, f25, f29, f30, f31⟩), (by decide), (by decide), fun fs hr => pre0 _ ?_⟩
  show SA p e below s₁ m 0 #[vr r0, vi 98, vr r1, vr r2, vi 0, vi 1, un, un, un, un, un, un, un] [] _
  refine XS.aloadN X0.here hx rfl (D d23_0) rfl rfl ?_
  refine st1 _ ?_
  refine XS.dup X1.here hx rfl (D d23_4) rfl rfl ?_
  refine XS.astore X1.here hx rfl (D d23_5) rfl rfl (l' := #[vr r0, vi 98, vr r1, vr r2, vi 0, vi 1, vr r3, un, un, un, un, un, un]) rfl ?_
  refine XS.ifnullNo X1.here hx rfl (D d23_7) rfl ?_
  refine XS.aload X1.here hx rfl (D d23_10) rfl rfl ?_
  refine X1.arraylength hx (by rw [e1]; exact Ar2.1) (State.isArrayOf_alike hZ.alike Ar2.2.1) (g := (mkF m 12 #[vr r0, vi 98, vr r1, vr r2, vi 0, vi 1, vr r3, un, un, un, un, un, un] [(.ref r3)])) rfl rfl (D d23_12) _ ?_
  rw [len_of S2 M2]
  show SA p e below T1 m 13 #[vr r0, vi 98, vr r1, vr r2, vi 0, vi 1, vr r3, un, un, un, un, un, un] [(.int 16)] _
  refine XS.dup X1.here hx rfl (D d23_13) rfl rfl ?_
  refine XS.istore X1.here hx rfl (D d23_14) rfl (l' := #[vr r0, vi 98, vr r1, vr r2, vi 0, vi 1, vr r3, un, vi 16, un, un, un, un]) rfl ?_
  refine XS.ifYes X1.here hx rfl (pc0 := 16) (pc' := 29) rfl (D d23_16) rfl ((if0 _ _).trans (feq (by decide : ¬ ((16 : Int32) = (0 : Int32)))).2) (by decide) (by decide) ?_
  refine XS.aload X1.here hx rfl (D d23_29) rfl rfl ?_
  refine XS.iload X1.here hx rfl (D d23_31) rfl ?_
  refine XS.iconst X1.here hx rfl (D d23_33) ?_
  refine XS.isub X1.here hx rfl (D d23_34) rfl ?_
  refine XS.iloadN X1.here hx rfl (D d23_35) rfl ?_
  refine XS.iand X1.here hx rfl (D d23_36) rfl ?_
  refine XS.dup X1.here hx rfl (D d23_37) rfl rfl ?_
  refine XS.istore X1.here hx rfl (D d23_38) rfl (l' := #[vr r0, vi 98, vr r1, vr r2, vi 0, vi 1, vr r3, un, vi 16, vi 2, un, un, un]) rfl ?_
  refine X1.aaload hx (j := (2 : Int32)) (v := .null) (by rw [e1]; exact Ar3.1) (State.isArrayOf_alike hZ.alike Ar3.2.1) rfl Ar3.2.2 (inb_of S3 ⟨by decide, by decide⟩) (Has.at H3 (inb_of S3 ⟨by decide, by decide⟩) rfl) (g := (mkF m 40 #[vr r0, vi 98, vr r1, vr r2, vi 0, vi 1, vr r3, un, vi 16, vi 2, un, un, un] [(.int 2), (.ref r3)])) rfl rfl (D d23_40) _ ?_
  show SA p e below T1 m 41 #[vr r0, vi 98, vr r1, vr r2, vi 0, vi 1, vr r3, un, vi 16, vi 2, un, un, un] [.null] _
  refine XS.dup X1.here hx rfl (D d23_41) rfl rfl ?_
  refine XS.astore X1.here hx rfl (D d23_42) rfl rfl (l' := #[vr r0, vi 98, vr r1, vr r2, vi 0, vi 1, vr r3, .val .null, vi 16, vi 2, un, un, un]) rfl ?_
  refine XS.ifnonnullNo X1.here hx rfl (D d23_44) rfl ?_
  refine XS.aload X1.here hx rfl (D d23_47) rfl rfl ?_
  refine XS.iload X1.here hx rfl (D d23_49) rfl ?_
  refine XS.aloadN X1.here hx rfl (D d23_51) rfl rfl ?_
  refine XS.iloadN X1.here hx rfl (D d23_52) rfl ?_
  refine XS.aloadN X1.here hx rfl (D d23_53) rfl rfl ?_
  refine XS.aloadN X1.here hx rfl (D d23_54) rfl rfl ?_
  refine XS.aconstNull X1.here hx rfl (D d23_55) ?_
  refine st4 _ ?_
  refine st7 _ ?_
  refine XS.goto X7.here hx rfl (pc0 := 60) (pc' := 259) rfl (D d23_60) (by decide) (by decide) ?_
  refine XS.aloadN X7.here hx rfl (D d23_259) rfl rfl ?_
  refine XS.dup X7.here hx rfl (D d23_260) rfl rfl ?_
  refine st12 _ ?_
  refine XS.iconst X12.here hx rfl (D d23_264) ?_
  refine XS.iadd X12.here hx rfl (D d23_265) rfl ?_
  refine st13 _ ?_
  refine XS.aloadN X13.here hx rfl (D d23_269) rfl rfl ?_
  refine XS.dup X13.here hx rfl (D d23_270) rfl rfl ?_
  refine st15 _ ?_
  refine XS.iconst X15.here hx rfl (D d23_274) ?_
  refine XS.iadd X15.here hx rfl (D d23_275) rfl ?_
  refine XS.dupX1 X15.here hx rfl (D d23_276) rfl rfl rfl ?_
  refine st17 _ ?_
  refine XS.aloadN X17.here hx rfl (D d23_280) rfl rfl ?_
  refine st19 _ ?_
  refine XS.icmpYes X19.here hx rfl (pc0 := 284) (pc' := 292) rfl (D d23_284) rfl (flt (by decide : ¬ ((12 : Int32) < (2 : Int32)))).2.2.2 (by decide) (by decide) ?_
  refine XS.aloadN X19.here hx rfl (D d23_292) rfl rfl ?_
  refine XS.iload X19.here hx rfl (D d23_293) rfl ?_
  refine st21 _ ?_
  refine XS.aconstNull X21.here hx rfl (D d23_298) ?_
  show SA p e below T21 m 299 #[vr r0, vi 98, vr r1, vr r2, vi 0, vi 1, vr r3, .val .null, vi 16, vi 2, un, un, un] [.null] _
  exact retOut X21 hx hrt rfl (Or.inr (Or.inr (Or.inr (Or.inr ⟨rfl, rfl, rfl⟩)))) (D d23_299) hr
def Q93 (Z : State) (cv : Int32) (de ca : Addr) (r0 r1 r2 r3 r4 : Addr) (k5 : ClassId) (h0 : Heap) (n0 : Nat) (v : Option Value) (h : Heap) (L : List Loc) : Prop := ∃ (b2_0 : Addr), v = (some .null) ∧ Fr n0 L ∧ Keep h0 h [r3, r0] ∧ h0.size ≤ b2_0 ∧ Arv Z h r3 k5 (.object "java/util/HashMap$Node") (16 : Int32) [.null, (.ref r4), (.ref b2_0), .null, .null, .null, .null, .null, .null, .null, .null, .null, .null, .null, .null, .null] .null ∧ P3 Z h r0 (.ref r3) ∧ P7 Z h r0 (.int 2) ∧ P4 Z h r0 (.int 12) ∧ P8 Z h r0 (.int 2) ∧ E_12 Z h b2_0 ∧ P17 Z h b2_0 (.int 98) ∧ P18 Z h b2_0 (.ref r1) ∧ P19 Z h b2_0 (.ref r2)
/-- HashMap.put#3 -/
theorem t93 (hw : HW a0 Z) (SB0 : SB Z cv de ca) (r0 r1 r2 r3 r4 : Addr) (k5 : ClassId) (O0 : OL Z n0 h0) (q0 : E_2 Z h0 r1) (q1 : P12 Z h0 r1 (.int 98)) (q2 : E_7 Z h0 r0) (q3 : P3 Z h0 r0 (.ref r3)) (q4 : Arv Z h0 r3 k5 (.object "java/util/HashMap$Node") (16 : Int32) [.null, (.ref r4), .null, .null, .null, .null, .null, .null, .null, .null, .null, .null, .null, .null, .null, .null] .null) (q5 : E_5 Z h0 r3) (q6 : Ovr Z k5 "java/util/HashMap$Node") (q7 : P7 Z h0 r0 (.int 1)) (q8 : P4 Z h0 r0 (.int 12)) (q9 : P8 Z h0 r0 (.int 1)) (ge0 : n0 ≤ r3) (ge1 : n0 ≤ r0) : CT l Z y26 B18 3 (some (.object "java/lang/Object")) ⟨4, 1, 4, 71⟩ #[(.ref r0), (.ref r1), (.ref r2)] h0 (Q93 Z cv de ca r0 r1 r2 r3 r4 k5 h0 n0) := by
  refine ct_intro ?_
  intro p e s m below meth c s₁ E0 hx D hml hown hnm hrt X0 e0 hZ hE
  have Z0 := O0.le
  have K0 := Keep.refl h0 [r3, r0]
  have hws : ∀ w ∈ ([r3, r0] : List Addr), n0 ≤ w := (allS ge0 (allS ge1 all0))
  have N0 := Fr.nil n0
  have pre0 := ctp #[vr r0, vr r1, vr r2] hE
  obtain ⟨v1, T1, L1, X1, Q1, st1⟩ := kS X0 hx hZ hown (t91 hw SB0 r1 (O0.keep K0 hws) q0 q1) (w_ hw 124 rfl) (w_ hw 125 rfl) (w_ hw 11 rfl) (w_ hw 126 rfl) e0 (g := (mkF m 2 #[vr r0, vr r1, vr r2] [(.ref r1), (.ref r0)])) rfl hml rfl (argsL := [(.ref r1)]) (rest := [(.ref r0)]) (lenOf pd14 rfl) rfl rfl (W := 1) rfl (D d18_2)
  obtain ⟨rfl, M1, e1⟩ := Q1
  have N1 := N0.app M1
  obtain ⟨v2, T2, L2, X2, Q2, st2⟩ := kV (y := y35) (z := y35) X1 hx hZ hown (t92 hw SB0 r0 r1 r2 r3 r4 k5 (O0.keep K0 hws) q3 q4 q2 q5 q6 q7 q8 q9 ge0 ge1) q2 (nf_of (x := y25) (y' := y26) (args := #[]) (mvT hZ (w_ hw 118 rfl)) rfl) (w_ hw 145 rfl) (w_ hw 146 rfl) (w_ hw 350 rfl) (w_ hw 147 rfl) (w_ hw 11 rfl) (w_ hw 149 rfl) e1 (g := (mkF m 9 #[vr r0, vr r1, vr r2] [(.int 1), (.int 0), (.ref r2), (.ref r1), (.int 98), (.ref r0)])) rfl hml rfl (argsL := [(.int 98), (.ref r1), (.ref r2), (.int 0), (.int 1)]) (rest := []) (lenOf pd21 rfl) rfl rfl (W := 0) rfl (D d18_9)
  obtain ⟨h2, e2⟩ : ∃ z, T2.heap = z := ⟨_, rfl⟩
  rw [e2] at Q2
  obtain ⟨b2_0, rfl, M2, K2, y2_0, F2_0, F2_1, F2_2, F2_3, F2_4, F2_5, F2_6, F2_7, F2_8⟩ := Q2
  have N2 := N1.app M2
  have z2_b2_0 := Nat.le_trans K0.1 y2_0
  have k2 := K0.trans K2 (allS (Or.inl (List.mem_of_getElem? (i := 0) rfl)) (allS (Or.inl (List.mem_of_getElem? (i := 1) rfl)) all0))
  refine ⟨(some .null), T2, _, _, _, X2, (fun hh => by cases hh), (by rw [e2]; exact ⟨b2_0, rfl, N2, k2, z2_b2_0, F2_0, F2_1, F2_2, F2_3, F2_4, F2_5, F2_6, F2_7, F2_8⟩), (by decide), (by decide), fun fs hr => pre0 _ ?_⟩
  show SA p e below s₁ m 0 #[vr r0, vr r1, vr r2] [] _
  refine XS.aloadN X0.here hx rfl (D d18_0) rfl rfl ?_
  refine XS.aloadN X0.here hx rfl (D d18_1) rfl rfl ?_
  refine st1 _ ?_
  refine XS.aloadN X1.here hx rfl (D d18_5) rfl rfl ?_
  refine XS.aloadN X1.here hx rfl (D d18_6) rfl rfl ?_
  refine XS.iconst X1.here hx rfl (D d18_7) ?_
  refine XS.iconst X1.here hx rfl (D d18_8) ?_
  refine st2 _ ?_
  show SA p e below T2 m 12 #[vr r0, vr r1, vr r2] [.null] _
  exact retOut X2 hx hrt rfl (Or.inr (Or.inr (Or.inr (Or.inr ⟨rfl, rfl, rfl⟩)))) (D d18_12) hr
/-- HashMap.getNode#1 -/
theorem t94 (hw : HW a0 Z) (SB0 : SB Z cv de ca) (r0 r1 r2 r3 r4 : Addr) (k5 : ClassId) (O0 : OL Z n0 h0) (q0 : P3 Z h0 r0 (.ref r2)) (q1 : Arv Z h0 r2 k5 (.object "java/util/HashMap$Node") (16 : Int32) [.null, (.ref r3), (.ref r4), .null, .null, .null, .null, .null, .null, .null, .null, .null, .null, .null, .null, .null] .null) (q2 : E_2 Z h0 r1) (q3 : P12 Z h0 r1 (.int 97)) (q4 : P17 Z h0 r3 (.int 97)) (q5 : P18 Z h0 r3 (.ref r1))  : CT l Z y59 B50 8 (some (.object "java/util/HashMap$Node")) ⟨2, 0, 0, 28⟩ #[(.ref r0), (.ref r1)] h0 (QP0 (some (.ref r3)) h0 n0) := by
  refine ct_intro ?_
  intro p e s m below meth c s₁ E0 hx D hml hown hnm hrt X0 e0 hZ hE
  have Z0 := O0.le
  have K0 := Keep.refl h0 []
  have hws : ∀ w ∈ ([] : List Addr), n0 ≤ w := all0
  have N0 := Fr.nil n0
  have pre0 := ctp #[vr r0, vr r1, un, un, un, un, un, un] hE
  obtain ⟨T1, X1, e1, st1⟩ := gF X0 hx hZ hown (w_ hw 150 rfl) Via.refl e0 q0 (g := (mkF m 1 #[vr r0, vr r1, un, un, un, un, un, un] [(.ref r0)])) rfl rfl (D d50_1)
  obtain ⟨_, Ar2, -, S2, M2, -, -⟩ := id q1
  obtain ⟨v3, T3, L3, X3, Q3, st3⟩ := kS X1 hx hZ hown (t54 hw SB0 r1 (O0.keep K0 hws) q2 q3) (w_ hw 124 rfl) (w_ hw 125 rfl) (w_ hw 11 rfl) (w_ hw 126 rfl) e1 (g := (mkF m 23 #[vr r0, vr r1, vr r2, un, un, vi 16, un, un] [(.ref r1), (.int 15), (.ref r2)])) rfl hml rfl (argsL := [(.ref r1)]) (rest := [(.int 15), (.ref r2)]) (lenOf pd14 rfl) rfl rfl (W := 2) rfl (D d50_23)
  obtain ⟨rfl, M3, e3⟩ := Q3
  have N3 := N0.app M3
  obtain ⟨_, Ar4, -, S4, M4, H4, -⟩ := id q1
  obtain ⟨T5, X5, e5, st5⟩ := gF X3 hx hZ hown (w_ hw 402 rfl) Via.refl e3 q4 (g := (mkF m 37 #[vr r0, vr r1, vr r2, vr r3, un, vi 16, vi 97, un] [(.ref r3)])) rfl rfl (D d50_37)
  obtain ⟨T6, X6, e6, st6⟩ := gF X5 hx hZ hown (w_ hw 403 rfl) Via.refl e5 q5 (g := (mkF m 46 #[vr r0, vr r1, vr r2, vr r3, un, vi 16, vi 97, un] [(.ref r3)])) rfl rfl (D d50_46)
  refine ⟨(some (.ref r3)), T6, _, _, _, X6, (fun hh => by cases hh), (by rw [e6]; exact ⟨rfl, N3, rfl⟩), (by decide), (by decide), fun fs hr => pre0 _ ?_⟩
  show SA p e below s₁ m 0 #[vr r0, vr r1, un, un, un, un, un, un] [] _
  refine XS.aloadN X0.here hx rfl (D d50_0) rfl rfl ?_
  refine st1 _ ?_
  refine XS.dup X1.here hx rfl (D d50_4) rfl rfl ?_
  refine XS.astoreN X1.here hx rfl (D d50_5) rfl rfl (l' := #[vr r0, vr r1, vr r2, un, un, un, un, un]) rfl ?_
  refine XS.ifnullNo X1.here hx rfl (D d50_6) rfl ?_
  refine XS.aloadN X1.here hx rfl (D d50_9) rfl rfl ?_
  refine X1.arraylength hx (by rw [e1]; exact Ar2.1) (State.isArrayOf_alike hZ.alike Ar2.2.1) (g := (mkF m 10 #[vr r0, vr r1, vr r2, un, un, un, un, un] [(.ref r2)])) rfl rfl (D d50_10) _ ?_
  rw [len_of S2 M2]
  show SA p e below T1 m 11 #[vr r0, vr r1, vr r2, un, un, un, un, un] [(.int 16)] _
  refine XS.dup X1.here hx rfl (D d50_11) rfl rfl ?_
  refine XS.istore X1.here hx rfl (D d50_12) rfl (l' := #[vr r0, vr r1, vr r2, un, un, vi 16, un, un]) rfl ?_
  refine XS.ifNo X1.here hx rfl (D d50_14) rfl ((if0 _ _).trans (tlt (by decide : ((0 : Int32) < (16 : Int32)))).2.2.2) ?_
  refine XS.aloadN X1.here hx rfl (D d50_17) rfl rfl ?_
  refine XS.iload X1.here hx rfl (D d50_18) rfl ?_
  refine XS.iconst X1.here hx rfl (D d50_20) ?_
  refine XS.isub X1.here hx rfl (D d50_21) rfl ?_
  refine XS.aloadN X1.here hx rfl (D d50_22) rfl rfl ?_
  refine st3 _ ?_
  refine XS.dup X3.here hx rfl (D d50_26) rfl rfl ?_
  refine XS.istore X3.here hx rfl (D d50_27) rfl (l' := #[vr r0, vr r1, vr r2, un, un, vi 16, vi 97, un]) rfl ?_
  refine XS.iand X3.here hx rfl (D d50_29) rfl ?_
  refine X3.aaload hx (j := (1 : Int32)) (v := (.ref r3)) (by rw [e3]; exact Ar4.1) (State.isArrayOf_alike hZ.alike Ar4.2.1) rfl Ar4.2.2 (inb_of S4 ⟨by decide, by decide⟩) (Has.at H4 (inb_of S4 ⟨by decide, by decide⟩) rfl) (g := (mkF m 30 #[vr r0, vr r1, vr r2, un, un, vi 16, vi 97, un] [(.int 1), (.ref r2)])) rfl rfl (D d50_30) _ ?_
  show SA p e below T3 m 31 #[vr r0, vr r1, vr r2, un, un, vi 16, vi 97, un] [(.ref r3)] _
  refine XS.dup X3.here hx rfl (D d50_31) rfl rfl ?_
  refine XS.astoreN X3.here hx rfl (D d50_32) rfl rfl (l' := #[vr r0, vr r1, vr r2, vr r3, un, vi 16, vi 97, un]) rfl ?_
  refine XS.ifnullNo X3.here hx rfl (D d50_33) rfl ?_
  refine XS.aloadN X3.here hx rfl (D d50_36) rfl rfl ?_
  refine st5 _ ?_
  refine XS.iload X5.here hx rfl (D d50_40) rfl ?_
  refine XS.icmpNo X5.here hx rfl (D d50_42) rfl (teq (by decide : ((97 : Int32) = (97 : Int32)))).2 ?_
  refine XS.aloadN X5.here hx rfl (D d50_45) rfl rfl ?_
  refine st6 _ ?_
  refine XS.dup X6.here hx rfl (D d50_49) rfl rfl ?_
  refine XS.astore X6.here hx rfl (D d50_50) rfl rfl (l' := #[vr r0, vr r1, vr r2, vr r3, un, vi 16, vi 97, vr r1]) rfl ?_
  refine XS.aloadN X6.here hx rfl (D d50_52) rfl rfl ?_
  refine Jvm.RoadKit.acmp (g := (mkF m 53 #[vr r0, vr r1, vr r2, vr r3, un, vi 16, vi 97, vr r1] [(.ref r1), (.ref r1)])) X6 hx rfl rfl rfl (pc0 := 53) (pc' := 69) (same := true) rfl (D d50_53) rfl (decide_eq_true rfl) (by decide) (by decide) ?_
  show SA p e below T6 m 69 #[vr r0, vr r1, vr r2, vr r3, un, vi 16, vi 97, vr r1] [] _
  refine XS.aloadN X6.here hx rfl (D d50_69) rfl rfl ?_
  show SA p e below T6 m 70 #[vr r0, vr r1, vr r2, vr r3, un, vi 16, vi 97, vr r1] [(.ref r3)] _
  exact retOut X6 hx hrt rfl (Or.inr (Or.inr (Or.inr (Or.inr ⟨rfl, rfl, rfl⟩)))) (D d50_70) hr
/-- HashMap.get#1 -/
theorem t95 (hw : HW a0 Z) (SB0 : SB Z cv de ca) (r0 r1 r2 r3 r4 : Addr) (k5 : ClassId) (r6 : Addr) (O0 : OL Z n0 h0) (q0 : E_7 Z h0 r0) (q1 : P3 Z h0 r0 (.ref r2)) (q2 : Arv Z h0 r2 k5 (.object "java/util/HashMap$Node") (16 : Int32) [.null, (.ref r3), (.ref r4), .null, .null, .null, .null, .null, .null, .null, .null, .null, .null, .null, .null, .null] .null) (q3 : E_2 Z h0 r1) (q4 : P12 Z h0 r1 (.int 97)) (q5 : P17 Z h0 r3 (.int 97)) (q6 : P18 Z h0 r3 (.ref r1)) (q7 : P19 Z h0 r3 (.ref r6))  : CT l Z y60 B49 3 (some (.object "java/lang/Object")) ⟨3, 0, 0, 47⟩ #[(.ref r0), (.ref r1)] h0 (QP0 (some (.ref r6)) h0 n0) := by
  refine ct_intro ?_
  intro p e s m below meth c s₁ E0 hx D hml hown hnm hrt X0 e0 hZ hE
  have Z0 := O0.le
  have K0 := Keep.refl h0 []
  have hws : ∀ w ∈ ([] : List Addr), n0 ≤ w := all0
  have N0 := Fr.nil n0
  have pre0 := ctp #[vr r0, vr r1, un] hE
  obtain ⟨v1, T1, L1, X1, Q1, st1⟩ := kV (y := y59) (z := y59) X0 hx hZ hown (t94 hw SB0 r0 r1 r2 r3 r4 k5 (O0.keep K0 hws) q1 q2 q3 q4 q5 q6) q0 (nf_of (x := y25) (y' := y26) (args := #[]) (mvT hZ (w_ hw 118 rfl)) rfl) (w_ hw 397 rfl) (w_ hw 398 rfl) (w_ hw 400 rfl) (w_ hw 399 rfl) (w_ hw 11 rfl) (w_ hw 401 rfl) e0 (g := (mkF m 2 #[vr r0, vr r1, un] [(.ref r1), (.ref r0)])) rfl hml rfl (argsL := [(.ref r1)]) (rest := []) (lenOf pd31 rfl) rfl rfl (W := 0) rfl (D d49_2)
  obtain ⟨rfl, M1, e1⟩ := Q1
  have N1 := N0.app M1
  obtain ⟨T2, X2, e2, st2⟩ := gF X1 hx hZ hown (w_ hw 404 rfl) Via.refl e1 q7 (g := (mkF m 15 #[vr r0, vr r1, vr r3] [(.ref r3)])) rfl rfl (D d49_15)
  refine ⟨(some (.ref r6)), T2, _, _, _, X2, (fun hh => by cases hh), (by rw [e2]; exact ⟨rfl, N1, rfl⟩), (by decide), (by decide), fun fs hr => pre0 _ ?_⟩
  show SA p e below s₁ m 0 #[vr r0, vr r1, un] [] _
  refine XS.aloadN X0.here hx rfl (D d49_0) rfl rfl ?_
  refine XS.aloadN X0.here hx rfl (D d49_1) rfl rfl ?_
  refine st1 _ ?_
  refine XS.dup X1.here hx rfl (D d49_5) rfl rfl ?_
  refine XS.astoreN X1.here hx rfl (D d49_6) rfl rfl (l' := #[vr r0, vr r1, vr r3]) rfl ?_
  refine XS.ifnonnullYes X1.here hx rfl (pc0 := 7) (pc' := 14) rfl (D d49_7) rfl (by decide) (by decide) ?_
  refine XS.aloadN X1.here hx rfl (D d49_14) rfl rfl ?_
  refine st2 _ ?_
  show SA p e below T2 m 18 #[vr r0, vr r1, vr r3] [(.ref r6)] _
  exact retOut X2 hx hrt rfl (Or.inr (Or.inr (Or.inr (Or.inr ⟨rfl, rfl, rfl⟩)))) (D d49_18) hr
/-- HashMap.getNode#2 -/
theorem t96 (hw : HW a0 Z) (SB0 : SB Z cv de ca) (r0 r1 r2 r3 r4 : Addr) (k5 : ClassId) (O0 : OL Z n0 h0) (q0 : P3 Z h0 r0 (.ref r2)) (q1 : Arv Z h0 r2 k5 (.object "java/util/HashMap$Node") (16 : Int32) [.null, (.ref r3), (.ref r4), .null, .null, .null, .null, .null, .null, .null, .null, .null, .null, .null, .null, .null] .null) (q2 : E_2 Z h0 r1) (q3 : P12 Z h0 r1 (.int 98)) (q4 : P17 Z h0 r4 (.int 98)) (q5 : P18 Z h0 r4 (.ref r1))  : CT l Z y59 B50 8 (some (.object "java/util/HashMap$Node")) ⟨2, 0, 0, 28⟩ #[(.ref r0), (.ref r1)] h0 (QP0 (some (.ref r4)) h0 n0) := by
  refine ct_intro ?_
  intro p e s m below meth c s₁ E0 hx D hml hown hnm hrt X0 e0 hZ hE
  have Z0 := O0.le
  have K0 := Keep.refl h0 []
  have hws : ∀ w ∈ ([] : List Addr), n0 ≤ w := all0
  have N0 := Fr.nil n0
  have pre0 := ctp #[vr r0, vr r1, un, un, un, un, un, un] hE
  obtain ⟨T1, X1, e1, st1⟩ := gF X0 hx hZ hown (w_ hw 150 rfl) Via.refl e0 q0 (g := (mkF m 1 #[vr r0, vr r1, un, un, un, un, un, un] [(.ref r0)])) rfl rfl (D d50_1)
  obtain ⟨_, Ar2, -, S2, M2, -, -⟩ := id q1
  obtain ⟨v3, T3, L3, X3, Q3, st3⟩ := kS X1 hx hZ hown (t91 hw SB0 r1 (O0.keep K0 hws) q2 q3) (w_ hw 124 rfl) (w_ hw 125 rfl) (w_ hw 11 rfl) (w_ hw 126 rfl) e1 (g := (mkF m 23 #[vr r0, vr r1, vr r2, un, un, vi 16, un, un] [(.ref r1), (.int 15), (.ref r2)])) rfl hml rfl (argsL := [(.ref r1)]) (rest := [(.int 15), (.ref r2)]) (lenOf pd14 rfl) rfl rfl (W := 2) rfl (D d50_23)
  obtain ⟨rfl, M3, e3⟩ := Q3
  have N3 := N0.app M3
  obtain ⟨_, Ar4, -, S4, M4, H4, -⟩ := id q1
  obtain ⟨T5, X5, e5, st5⟩ := gF X3 hx hZ hown (w_ hw 402 rfl) Via.refl e3 q4 (g := (mkF m 37 #[vr r0, vr r1, vr r2, vr r4, un, vi 16, vi 98, un] [(.ref r4)])) rfl rfl (D d50_37)
  obtain ⟨T6, X6, e6, st6⟩ := gF X5 hx hZ hown (w_ hw 403 rfl) Via.refl e5 q5 (g := (mkF m 46 #[vr r0, vr r1, vr r2, vr r4, un, vi 16, vi 98, un] [(.ref r4)])) rfl rfl (D d50_46)
  refine ⟨(some (.ref r4)), T6, _, _, _, X6, (fun hh => by cases hh), (by rw [e6]; exact ⟨rfl, N3, rfl⟩), (by decide), (by decide), fun fs hr => pre0 _ ?_⟩
  show SA p e below s₁ m 0 #[vr r0, vr r1, un, un, un, un, un, un] [] _
  refine XS.aloadN X0.here hx rfl (D d50_0) rfl rfl ?_
  refine st1 _ ?_
  refine XS.dup X1.here hx rfl (D d50_4) rfl rfl ?_
  refine XS.astoreN X1.here hx rfl (D d50_5) rfl rfl (l' := #[vr r0, vr r1, vr r2, un, un, un, un, un]) rfl ?_
  refine XS.ifnullNo X1.here hx rfl (D d50_6) rfl ?_
  refine XS.aloadN X1.here hx rfl (D d50_9) rfl rfl ?_
  refine X1.arraylength hx (by rw [e1]; exact Ar2.1) (State.isArrayOf_alike hZ.alike Ar2.2.1) (g := (mkF m 10 #[vr r0, vr r1, vr r2, un, un, un, un, un] [(.ref r2)])) rfl rfl (D d50_10) _ ?_
  rw [len_of S2 M2]
  show SA p e below T1 m 11 #[vr r0, vr r1, vr r2, un, un, un, un, un] [(.int 16)] _
  refine XS.dup X1.here hx rfl (D d50_11) rfl rfl ?_
  refine XS.istore X1.here hx rfl (D d50_12) rfl (l' := #[vr r0, vr r1, vr r2, un, un, vi 16, un, un]) rfl ?_
  refine XS.ifNo X1.here hx rfl (D d50_14) rfl ((if0 _ _).trans (tlt (by decide : ((0 : Int32) < (16 : Int32)))).2.2.2) ?_
  refine XS.aloadN X1.here hx rfl (D d50_17) rfl rfl ?_
  refine XS.iload X1.here hx rfl (D d50_18) rfl ?_
  refine XS.iconst X1.here hx rfl (D d50_20) ?_
  refine XS.isub X1.here hx rfl (D d50_21) rfl ?_
  refine XS.aloadN X1.here hx rfl (D d50_22) rfl rfl ?_
  refine st3 _ ?_
  refine XS.dup X3.here hx rfl (D d50_26) rfl rfl ?_
  refine XS.istore X3.here hx rfl (D d50_27) rfl (l' := #[vr r0, vr r1, vr r2, un, un, vi 16, vi 98, un]) rfl ?_
  refine XS.iand X3.here hx rfl (D d50_29) rfl ?_
  refine X3.aaload hx (j := (2 : Int32)) (v := (.ref r4)) (by rw [e3]; exact Ar4.1) (State.isArrayOf_alike hZ.alike Ar4.2.1) rfl Ar4.2.2 (inb_of S4 ⟨by decide, by decide⟩) (Has.at H4 (inb_of S4 ⟨by decide, by decide⟩) rfl) (g := (mkF m 30 #[vr r0, vr r1, vr r2, un, un, vi 16, vi 98, un] [(.int 2), (.ref r2)])) rfl rfl (D d50_30) _ ?_
  show SA p e below T3 m 31 #[vr r0, vr r1, vr r2, un, un, vi 16, vi 98, un] [(.ref r4)] _
  refine XS.dup X3.here hx rfl (D d50_31) rfl rfl ?_
  refine XS.astoreN X3.here hx rfl (D d50_32) rfl rfl (l' := #[vr r0, vr r1, vr r2, vr r4, un, vi 16, vi 98, un]) rfl ?_
  refine XS.ifnullNo X3.here hx rfl (D d50_33) rfl ?_
  refine XS.aloadN X3.here hx rfl (D d50_36) rfl rfl ?_
  refine st5 _ ?_
  refine XS.iload X5.here hx rfl (D d50_40) rfl ?_
  refine XS.icmpNo X5.here hx rfl (D d50_42) rfl (teq (by decide : ((98 : Int32) = (98 : Int32)))).2 ?_
  refine XS.aloadN X5.here hx rfl (D d50_45) rfl rfl ?_
  refine st6 _ ?_
  refine XS.dup X6.here hx rfl (D d50_49) rfl rfl ?_
  refine XS.astore X6.here hx rfl (D d50_50) rfl rfl (l' := #[vr r0, vr r1, vr r2, vr r4, un, vi 16, vi 98, vr r1]) rfl ?_
  refine XS.aloadN X6.here hx rfl (D d50_52) rfl rfl ?_
  refine Jvm.RoadKit.acmp (g := (mkF m 53 #[vr r0, vr r1, vr r2, vr r4, un, vi 16, vi 98, vr r1] [(.ref r1), (.ref r1)])) X6 hx rfl rfl rfl (pc0 := 53) (pc' := 69) (same := true) rfl (D d50_53) rfl (decide_eq_true rfl) (by decide) (by decide) ?_
  show SA p e below T6 m 69 #[vr r0, vr r1, vr r2, vr r4, un, vi 16, vi 98, vr r1] [] _
  refine XS.aloadN X6.here hx rfl (D d50_69) rfl rfl ?_
  show SA p e below T6 m 70 #[vr r0, vr r1, vr r2, vr r4, un, vi 16, vi 98, vr r1] [(.ref r4)] _
  exact retOut X6 hx hrt rfl (Or.inr (Or.inr (Or.inr (Or.inr ⟨rfl, rfl, rfl⟩)))) (D d50_70) hr
/-- HashMap.get#2 -/
theorem t97 (hw : HW a0 Z) (SB0 : SB Z cv de ca) (r0 r1 r2 r3 r4 : Addr) (k5 : ClassId) (r6 : Addr) (O0 : OL Z n0 h0) (q0 : E_7 Z h0 r0) (q1 : P3 Z h0 r0 (.ref r2)) (q2 : Arv Z h0 r2 k5 (.object "java/util/HashMap$Node") (16 : Int32) [.null, (.ref r3), (.ref r4), .null, .null, .null, .null, .null, .null, .null, .null, .null, .null, .null, .null, .null] .null) (q3 : E_2 Z h0 r1) (q4 : P12 Z h0 r1 (.int 98)) (q5 : P17 Z h0 r4 (.int 98)) (q6 : P18 Z h0 r4 (.ref r1)) (q7 : P19 Z h0 r4 (.ref r6))  : CT l Z y60 B49 3 (some (.object "java/lang/Object")) ⟨3, 0, 0, 47⟩ #[(.ref r0), (.ref r1)] h0 (QP0 (some (.ref r6)) h0 n0) := by
  refine ct_intro ?_
  intro p e s m below meth c s₁ E0 hx D hml hown hnm hrt X0 e0 hZ hE
  have Z0 := O0.le
  have K0 := Keep.refl h0 []
  have hws : ∀ w ∈ ([] : List Addr), n0 ≤ w := all0
  have N0 := Fr.nil n0
  have pre0 := ctp #[vr r0, vr r1, un] hE
  obtain ⟨v1, T1, L1, X1, Q1, st1⟩ := kV (y := y59) (z := y59) X0 hx hZ hown (t96 hw SB0 r0 r1 r2 r3 r4 k5 (O0.keep K0 hws) q1 q2 q3 q4 q5 q6) q0 (nf_of (x := y25) (y' := y26) (args := #[]) (mvT hZ (w_ hw 118 rfl)) rfl) (w_ hw 397 rfl) (w_ hw 398 rfl) (w_ hw 400 rfl) (w_ hw 399 rfl) (w_ hw 11 rfl) (w_ hw 401 rfl) e0 (g := (mkF m 2 #[vr r0, vr r1, un] [(.ref r1), (.ref r0)])) rfl hml rfl (argsL := [(.ref r1)]) (rest := []) (lenOf pd31 rfl) rfl rfl (W := 0) rfl (D d49_2)
  obtain ⟨rfl, M1, e1⟩ := Q1
  have N1 := N0.app M1
  obtain ⟨T2, X2, e2, st2⟩ := gF X1 hx hZ hown (w_ hw 404 rfl) Via.refl e1 q7 (g := (mkF m 15 #[vr r0, vr r1, vr r4] [(.ref r4)])) rfl rfl (D d49_15)
  refine ⟨(some (.ref r6)), T2, _, _, _, X2, (fun hh => by cases hh), (by rw [e2]; exact ⟨rfl, N1, rfl⟩), (by decide), (by decide), fun fs hr => pre0 _ ?_⟩
  show SA p e below s₁ m 0 #[vr r0, vr r1, un] [] _
  refine XS.aloadN X0.here hx rfl (D d49_0) rfl rfl ?_
  refine XS.aloadN X0.here hx rfl (D d49_1) rfl rfl ?_
  refine st1 _ ?_
  refine XS.dup X1.here hx rfl (D d49_5) rfl rfl ?_
  refine XS.astoreN X1.here hx rfl (D d49_6) rfl rfl (l' := #[vr r0, vr r1, vr r4]) rfl ?_
  refine XS.ifnonnullYes X1.here hx rfl (pc0 := 7) (pc' := 14) rfl (D d49_7) rfl (by decide) (by decide) ?_
  refine XS.aloadN X1.here hx rfl (D d49_14) rfl rfl ?_
  refine st2 _ ?_
  show SA p e below T2 m 18 #[vr r0, vr r1, vr r4] [(.ref r6)] _
  exact retOut X2 hx hrt rfl (Or.inr (Or.inr (Or.inr (Or.inr ⟨rfl, rfl, rfl⟩)))) (D d49_18) hr
/-- Integer.intValue#1 -/
theorem t98 (hw : HW a0 Z) (SB0 : SB Z cv de ca) (r0 : Addr) (i1 : Int32) (O0 : OL Z n0 h0) (q0 : P36 Z h0 r0 (.int i1))  : CT l Z y62 B51 1 (some .int) ⟨0, 0, 0, 0⟩ #[(.ref r0)] h0 (QP0 (some (.int i1)) h0 n0) := by
  refine ct_intro ?_
  intro p e s m below meth c s₁ E0 hx D hml hown hnm hrt X0 e0 hZ hE
  have N0 := Fr.nil n0
  have pre0 := ctp #[vr r0] hE
  obtain ⟨T1, X1, e1, st1⟩ := gF X0 hx hZ hown (w_ hw 412 rfl) Via.refl e0 q0 (g := (mkF m 1 #[vr r0] [(.ref r0)])) rfl rfl (D d51_1)
  refine ⟨(some (.int i1)), T1, _, _, _, X1, (fun hh => by cases hh), (by rw [e1]; exact ⟨rfl, N0, rfl⟩), (by decide), (by decide), fun fs hr => pre0 _ ?_⟩
  show SA p e below s₁ m 0 #[vr r0] [] _
  refine XS.aloadN X0.here hx rfl (D d51_0) rfl rfl ?_
  refine st1 _ ?_
  show SA p e below T1 m 4 #[vr r0] [(.int i1)] _
  exact retOut X1 hx hrt rfl (Or.inl ⟨rfl, Or.inl rfl, _, rfl⟩) (D d51_4) hr
def Q99 (Z : State) (cv : Int32) (de ca : Addr) (r0 r1 r2 r3 r4 r5 r6 : Addr) (i7 : Int32) (r8 r9 : Addr) (i10 : Int32) (h0 : Heap) (n0 : Nat) (v : Option Value) (h : Heap) (L : List Loc) : Prop := ∃ (b98 : Addr), v = none ∧ Fr n0 L ∧ Keep h0 h [r0, r1] ∧ h0.size ≤ b98 ∧ P24 Z h r0 (.ref b98) ∧ E_14 Z h b98 ∧ AB Z h b98 (((0 : Int32) + i7) + i10) (up (up (fun _ => 0) (((0 : Int32) + i7) - (1 : Int32)) (1 : Int32)) ((((0 : Int32) + i7) + i10) - (1 : Int32)) (1 : Int32))
/-- NextStateRelation.init#1 -/
theorem t99 (hw : HW a0 Z) (SB0 : SB Z cv de ca) (r0 r1 r2 r3 r4 r5 r6 : Addr) (i7 : Int32) (r8 r9 : Addr) (i10 : Int32) (O0 : OL Z n0 h0) (q0 : E_8 Z h0 r0) (q1 : P23 Z h0 r0 .null) (q2 : P24 Z h0 r0 .null) (q3 : P25 Z h0 r0 .null) (q4 : P26 Z h0 r0 .null) (q5 : P27 Z h0 r0 .null) (q6 : P28 Z h0 r0 .null) (q7 : E_0 Z h0 r1) (q8 : P9 Z h0 r1 .null) (q9 : P6 Z h0 r1 (.ref r3)) (q10 : P7 Z h0 r1 (.int 2)) (q11 : P21 Z h0 r3 (.ref r4)) (q12 : E_6 Z h0 r3) (q13 : P18 Z h0 r3 (.ref r5)) (q14 : E_2 Z h0 r5) (q15 : P12 Z h0 r5 (.int 97)) (q16 : P19 Z h0 r3 (.ref r6)) (q17 : E_3 Z h0 r6) (q18 : P16 Z h0 r6 (.int i7)) (q19 : P21 Z h0 r4 .null) (q20 : E_6 Z h0 r4) (q21 : P18 Z h0 r4 (.ref r8)) (q22 : E_2 Z h0 r8) (q23 : R4 i7) (q24 : P12 Z h0 r8 (.int 98)) (q25 : P19 Z h0 r4 (.ref r9)) (q26 : E_3 Z h0 r9) (q27 : P16 Z h0 r9 (.int i10)) (q28 : R4 i10) (q29 : E_3 Z h0 r2) (q30 : P16 Z h0 r2 (.int 0)) (ge0 : n0 ≤ r0) (ge1 : n0 ≤ r1) : CT l Z y64 B31 7 none ⟨6, 16, 108, 85⟩ #[(.ref r0), (.ref r1), (.ref r2)] h0 (Q99 Z cv de ca r0 r1 r2 r3 r4 r5 r6 i7 r8 r9 i10 h0 n0) := by
  refine ct_intro ?_
  intro p e s m below meth c s₁ E0 hx D hml hown hnm hrt X0 e0 hZ hE
  have Z0 := O0.le
  have K0 := Keep.refl h0 [r0, r1]
  have hws : ∀ w ∈ ([r0, r1] : List Addr), n0 ≤ w := (allS ge0 (allS ge1 all0))
  have N0 := Fr.nil n0
  have pre0 := ctp #[vr r0, vr r1, vr r2, un, un, un, un] hE
  have nin_r3 : r3 ∉ ([r0, r1] : List Addr) := (ninS (Exa.ne q12 q0 (by decide)) (ninS (Exa.ne q12 q7 (by decide)) nin0))
  have nin_r5 : r5 ∉ ([r0, r1] : List Addr) := (ninS (Exa.ne q14 q0 (by decide)) (ninS (Exa.ne q14 q7 (by decide)) nin0))
  have nin_r6 : r6 ∉ ([r0, r1] : List Addr) := (ninS (Exa.ne q17 q0 (by decide)) (ninS (Exa.ne q17 q7 (by decide)) nin0))
  have nin_r4 : r4 ∉ ([r0, r1] : List Addr) := (ninS (Exa.ne q20 q0 (by decide)) (ninS (Exa.ne q20 q7 (by decide)) nin0))
  have nin_r8 : r8 ∉ ([r0, r1] : List Addr) := (ninS (Exa.ne q22 q0 (by decide)) (ninS (Exa.ne q22 q7 (by decide)) nin0))
  have nin_r9 : r9 ∉ ([r0, r1] : List Addr) := (ninS (Exa.ne q26 q0 (by decide)) (ninS (Exa.ne q26 q7 (by decide)) nin0))
  have nin_r2 : r2 ∉ ([r0, r1] : List Addr) := (ninS (Exa.ne q29 q0 (by decide)) (ninS (Exa.ne q29 q7 (by decide)) nin0))
  obtain ⟨T1, X1, e1, st1⟩ := initO X0 hx hZ hown (w_ hw 219 rfl) (w_ hw 20 rfl) (w_ hw 21 rfl) e0 (g := (mkF m 1 #[vr r0, vr r1, vr r2, un, un, un, un] [(.ref r0)])) rfl (by rw [hml]; rfl) rfl (D d31_1) (by decide) (W := 0) (by show 2 * 0 + _ ≤ _; exact Nat.le_of_eq rfl) (by decide)
  obtain ⟨T2, h2, X2, e2, E2, A2, D2, -, st2⟩ := newO X1 hx hZ hown (w_ hw 220 rfl) (w_ hw 221 rfl) (w_ hw 11 rfl) e1 (g := (mkF m 5 #[vr r0, vr r1, vr r2, un, un, un, un] [(.ref r0)])) rfl (D d31_5) (by decide) (by decide)
  obtain ⟨b2, g2⟩ : ∃ z, z = h0.size := ⟨_, rfl⟩
  rw [← g2] at A2 D2 st2
  have z2 : h0.size ≤ b2 := Nat.le_trans K0.1 (Nat.le_of_eq g2.symm)
  have k2 := K0.ext E2
  have F2_224 : P0 Z h2 b2 (.float (0 : UInt32)) := D2 (Or.inr (w_ hw 224 rfl)) (ty := .float) (by decide)
  have F2_351 : P3 Z h2 b2 .null := D2 (Or.inl (w_ hw 351 rfl)) (ty := (.array (.object "java/util/HashMap$Node"))) (by decide)
  have F2_353 : P4 Z h2 b2 (.int 0) := D2 (Or.inl (w_ hw 353 rfl)) (ty := .int) (by decide)
  have F2_363 : P7 Z h2 b2 (.int 0) := D2 (Or.inl (w_ hw 363 rfl)) (ty := .int) (by decide)
  have F2_364 : P8 Z h2 b2 (.int 0) := D2 (Or.inl (w_ hw 364 rfl)) (ty := .int) (by decide)
  obtain ⟨v3, T3, L3, X3, Q3, st3⟩ := kI X2 hx hZ hown (t39 hw SB0 b2 (O0.keep k2 hws) A2 F2_224 F2_351 F2_353 F2_363 F2_364 (Nat.le_trans Z0 z2)) rfl (w_ hw 222 rfl) (w_ hw 8 rfl) (w_ hw 11 rfl) (w_ hw 12 rfl) e2 (g := (mkF m 9 #[vr r0, vr r1, vr r2, un, un, un, un] [(.ref b2), (.ref b2), (.ref r0)])) rfl hml rfl (argsL := []) (rest := [(.ref b2), (.ref r0)]) (lenOf pd0 rfl) rfl rfl (W := 2) rfl (D d31_9)
  obtain ⟨h3, e3⟩ : ∃ z, T3.heap = z := ⟨_, rfl⟩
  rw [e3] at Q3
  obtain ⟨rfl, M3, K3, F3_0, F3_1, F3_2, F3_3⟩ := Q3
  have N3 := N0.app M3
  have k3 := k2.trans K3 (allS (Or.inr z2) all0)
  have f5 := ((q0.ext E2).keep K3)
  have f6 := (A2.keep K3)
  have ne4 : r0 ≠ b2 := Exa.ne f5 f6 (by decide)
  have f7 := ((q1.ext E2).keep K3 (ninS ne4 nin0))
  obtain ⟨T8, h8, X8, e8, W8, st8⟩ := putF X3 hx hZ hown (host := "") (Or.inl (w_ hw 225 rfl)) Via.refl e3 f7 f5 (Or.inr ⟨(w_ hw 226 rfl), rfl, hnm⟩) (w_ hw 214 rfl) (ty := (.object "java/util/Map")) (by decide) rfl rfl (g := (mkF m 12 #[vr r0, vr r1, vr r2, un, un, un, un] [(.ref b2), (.ref r0)])) rfl rfl (D d31_12)
  have N8 := Fr.snoc X8 N3 ge0
  have k8 := k3.wr W8 (Or.inl (List.mem_of_getElem? (i := 0) rfl))
  have v8 := f7.same W8
  have f9 := (((q7.ext E2).keep K3).wr W8)
  have f11 := (f6.wr W8)
  have ne10 : r1 ≠ b2 := Exa.ne f9 f11 (by decide)
  have f13 := (f5.wr W8)
  have ne12 : r1 ≠ r0 := Exa.ne f9 f13 (by decide)
  have f14 := (((q8.ext E2).keep K3 (ninS ne10 nin0)).other W8 (Or.inl ne12))
  have f15 := (((q9.ext E2).keep K3 (ninS ne10 nin0)).other W8 (Or.inl ne12))
  have f16 := (((q10.ext E2).keep K3 (ninS ne10 nin0)).other W8 (Or.inl ne12))
  obtain ⟨v17, T17, L17, X17, Q17, st17⟩ := kG X8 hx hZ hown (t43 hw SB0 r1 r3 (2 : Int32) (O0.keep k8 hws) f9 f14 f15 f16 ge1) f9 (w_ hw 227 rfl) (mvT hZ (w_ hw 229 rfl)) (iw2 hw) e8 (g := (mkF m 18 #[vr r0, vr r1, vr r2, vi 0, un, un, un] [(.ref r1)])) rfl hml rfl (argsL := []) (rest := []) (lenOf pd25 rfl) rfl rfl (W := 0) rfl (D d31_18)
  obtain ⟨h17, e17⟩ : ∃ z, T17.heap = z := ⟨_, rfl⟩
  rw [e17] at Q17
  obtain ⟨b17_0, rfl, M17, K17, y17_0, F17_0, F17_1, F17_2, F17_3, F17_4, F17_5⟩ := Q17
  have N17 := N8.app M17
  have z17_b17_0 := Nat.le_trans k8.1 y17_0
  have k17 := k8.trans K17 (allS (Or.inl (List.mem_of_getElem? (i := 1) rfl)) all0)
  have f18 := (f9.keep K17)
  obtain ⟨v19, T19, L19, X19, Q19, st19⟩ := kG X17 hx hZ hown (t46 hw SB0 b17_0 r1 r3 (2 : Int32) (O0.keep k17 hws) F17_4 F17_5 F17_1 F17_2 f18) F17_3 (w_ hw 262 rfl) (mvT hZ (w_ hw 264 rfl)) (iw3 hw) e17 (g := (mkF m 23 #[vr r0, vr r1, vr r2, vi 0, un, un, un] [(.ref b17_0)])) rfl hml rfl (argsL := []) (rest := []) (lenOf pd26 rfl) rfl rfl (W := 0) rfl (D d31_23)
  obtain ⟨h19, e19⟩ : ∃ z, T19.heap = z := ⟨_, rfl⟩
  rw [e19] at Q19
  obtain ⟨b19_0, rfl, M19, K19, y19_0, F19_0, F19_1, F19_2, F19_3, F19_4, F19_5⟩ := Q19
  have N19 := N17.app M19
  have z19_b19_0 := Nat.le_trans k17.1 y19_0
  have k19 := k17.trans K19 all0
  obtain ⟨v20, T20, L20, X20, Q20, st20⟩ := kG X19 hx hZ hown (t47 hw SB0 b19_0 r3 (O0.keep k19 hws) F19_3) F19_0 (w_ hw 298 rfl) (mvT hZ (w_ hw 300 rfl)) (iw4 hw) e19 (g := (mkF m 32 #[vr r0, vr r1, vr r2, vi 0, vr b19_0, un, un] [(.ref b19_0)])) rfl hml rfl (argsL := []) (rest := []) (lenOf pd11 rfl) rfl rfl (W := 0) rfl (D d31_32)
  obtain ⟨rfl, M20, e20⟩ := Q20
  have N20 := N19.app M20
  have f21 := (F17_2.keep K19 nin0)
  have f22 := q11.keep k19 nin_r3
  have f23 := q12.keep k19
  obtain ⟨v24, T24, L24, X24, Q24, st24⟩ := kG X20 hx hZ hown (t86 hw SB0 b19_0 r3 r1 (2 : Int32) r4 (O0.keep k19 hws) F19_0 F19_3 F19_1 f21 F19_4 F19_2 F19_5 f22 f23 (Nat.le_trans Z0 z19_b19_0)) F19_0 (w_ hw 307 rfl) (mvT hZ (w_ hw 309 rfl)) (iw5 hw) e20 (g := (mkF m 42 #[vr r0, vr r1, vr r2, vi 0, vr b19_0, un, un] [(.ref b19_0)])) rfl hml rfl (argsL := []) (rest := []) (lenOf pd29 rfl) rfl rfl (W := 0) rfl (D d31_42)
  obtain ⟨h24, e24⟩ : ∃ z, T24.heap = z := ⟨_, rfl⟩
  rw [e24] at Q24
  obtain ⟨rfl, M24, K24, F24_0, F24_1, F24_2, F24_3, F24_4⟩ := Q24
  have N24 := N20.app M24
  have k24 := k19.trans K24 (allS (Or.inr z19_b19_0) all0)
  have f25 := q12.keep k24
  obtain ⟨T26, X26, e26, st26⟩ := castY X24 hx hZ hown (w_ hw 328 rfl) e24 (Ins.of_exa f25 (w_ hw 329 rfl)) (g := (mkF m 47 #[vr r0, vr r1, vr r2, vi 0, vr b19_0, un, un] [(.ref r3)])) rfl rfl (D d31_47)
  have f28 := (((f13.keep K17).keep K19).keep K24)
  have f29 := (F19_0.keep K24)
  have ne27 : r0 ≠ b19_0 := Exa.ne f28 f29 (by decide)
  have f30 := (((v8.keep K17 (ninS (Ne.symm ne12) nin0)).keep K19 nin0).keep K24 (ninS ne27 nin0))
  obtain ⟨T31, X31, e31, st31⟩ := gF X26 hx hZ hown (w_ hw 225 rfl) Via.refl e26 f30 (g := (mkF m 53 #[vr r0, vr r1, vr r2, vi 0, vr b19_0, vr r3, un] [(.ref r0)])) rfl rfl (D d31_53)
  have f32 := q13.keep k24 nin_r3
  obtain ⟨v33, T33, L33, X33, Q33, st33⟩ := kG X31 hx hZ hown (t51 hw SB0 r3 r5 (O0.keep k24 hws) f32) f25 (w_ hw 330 rfl) (mvT hZ (w_ hw 332 rfl)) (iw6 hw) e31 (g := (mkF m 58 #[vr r0, vr r1, vr r2, vi 0, vr b19_0, vr r3, un] [(.ref r3), (.ref b2)])) rfl hml rfl (argsL := []) (rest := [(.ref b2)]) (lenOf pd29 rfl) rfl rfl (W := 1) rfl (D d31_58)
  obtain ⟨rfl, M33, e33⟩ := Q33
  have N33 := N24.app M33
  have f34 := q14.keep k24
  obtain ⟨T35, X35, e35, st35⟩ := castY X33 hx hZ hown (w_ hw 338 rfl) e33 (Ins.self f34) (g := (mkF m 63 #[vr r0, vr r1, vr r2, vi 0, vr b19_0, vr r3, un] [(.ref r5), (.ref b2)])) rfl rfl (D d31_63)
  obtain ⟨v36, T36, L36, X36, Q36, st36⟩ := kS X35 hx hZ hown (t52 hw SB0 (0 : Int32) (O0.keep k24 hws) bd0) (w_ hw 339 rfl) (w_ hw 340 rfl) (w_ hw 341 rfl) (w_ hw 342 rfl) e35 (g := (mkF m 67 #[vr r0, vr r1, vr r2, vi 0, vr b19_0, vr r3, un] [(.int 0), (.ref r5), (.ref b2)])) rfl hml rfl (argsL := [(.int 0)]) (rest := [(.ref r5), (.ref b2)]) (lenOf pd30 rfl) rfl rfl (W := 2) rfl (D d31_67)
  obtain ⟨h36, e36⟩ : ∃ z, T36.heap = z := ⟨_, rfl⟩
  rw [e36] at Q36
  obtain ⟨b36_0, rfl, M36, K36, F36_0, F36_1⟩ := Q36
  have N36 := N33.app M36
  have k36 := k24.trans K36 all0
  have f37 := q14.keep k36
  have f38 := q15.keep k36 nin_r5
  have f39 := ((((f11.keep K17).keep K19).keep K24).keep K36)
  have f41 := (f29.keep K36)
  have ne40 : b2 ≠ b19_0 := Exa.ne f39 f41 (by decide)
  have f42 := (((((F3_0.other W8 (Or.inl (Ne.symm ne4))).keep K17 (ninS (Ne.symm ne10) nin0)).keep K19 nin0).keep K24 (ninS ne40 nin0)).keep K36 nin0)
  have f43 := (((((F3_1.other W8 (Or.inl (Ne.symm ne4))).keep K17 (ninS (Ne.symm ne10) nin0)).keep K19 nin0).keep K24 (ninS ne40 nin0)).keep K36 nin0)
  have f44 := (((((F3_2.other W8 (Or.inl (Ne.symm ne4))).keep K17 (ninS (Ne.symm ne10) nin0)).keep K19 nin0).keep K24 (ninS ne40 nin0)).keep K36 nin0)
  have f45 := (((((F3_3.other W8 (Or.inl (Ne.symm ne4))).keep K17 (ninS (Ne.symm ne10) nin0)).keep K19 nin0).keep K24 (ninS ne40 nin0)).keep K36 nin0)
  obtain ⟨v46, T46, L46, X46, Q46, st46⟩ := kG X36 hx hZ hown (t60 hw SB0 b2 r5 b36_0 (O0.keep k36 hws) f37 f38 f39 f42 f43 f44 f45 (Nat.le_trans Z0 z2)) f39 (w_ hw 346 rfl) (mvT hZ (w_ hw 117 rfl)) (iw7 hw) e36 (g := (mkF m 70 #[vr r0, vr r1, vr r2, vi 0, vr b19_0, vr r3, un] [(.ref b36_0), (.ref r5), (.ref b2)])) rfl hml rfl (argsL := [(.ref r5), (.ref b36_0)]) (rest := []) (lenOf pd22 rfl) rfl rfl (W := 0) rfl (D d31_70)
  obtain ⟨h46, e46⟩ : ∃ z, T46.heap = z := ⟨_, rfl⟩
  rw [e46] at Q46
  obtain ⟨b46_0, b46_1, c46_2, rfl, M46, K46, y46_0, y46_1, F46_0, F46_1, F46_2, F46_3, F46_4, F46_5, F46_6, F46_7, F46_8, F46_9, F46_10⟩ := Q46
  have N46 := N36.app M46
  have z46_b46_0 := Nat.le_trans k36.1 y46_0
  have z46_b46_1 := Nat.le_trans k36.1 y46_1
  have k46 := k36.trans K46 (allS (Or.inr z2) all0)
  have f47 := q16.keep k46 nin_r3
  have f48 := q12.keep k46
  obtain ⟨v49, T49, L49, X49, Q49, st49⟩ := kG X46 hx hZ hown (t61 hw SB0 r3 r6 (O0.keep k46 hws) f47) f48 (w_ hw 367 rfl) (mvT hZ (w_ hw 369 rfl)) (iw8 hw) e46 (g := (mkF m 79 #[vr r0, vr r1, vr r2, vi 0, vr b19_0, vr r3, un] [(.ref r3), (.int 0)])) rfl hml rfl (argsL := []) (rest := [(.int 0)]) (lenOf pd29 rfl) rfl rfl (W := 1) rfl (D d31_79)
  obtain ⟨rfl, M49, e49⟩ := Q49
  have N49 := N46.app M49
  have f50 := q17.keep k46
  obtain ⟨T51, X51, e51, st51⟩ := castY X49 hx hZ hown (w_ hw 375 rfl) e49 (Ins.of_exa f50 (w_ hw 88 rfl)) (g := (mkF m 84 #[vr r0, vr r1, vr r2, vi 0, vr b19_0, vr r3, un] [(.ref r6), (.int 0)])) rfl rfl (D d31_84)
  have f52 := q18.keep k46 nin_r6
  obtain ⟨v53, T53, L53, X53, Q53, st53⟩ := kG X51 hx hZ hown (t62 hw SB0 r6 i7 (O0.keep k46 hws) f52) f50 (w_ hw 376 rfl) (mvT hZ (w_ hw 378 rfl)) (iw9 hw) e51 (g := (mkF m 87 #[vr r0, vr r1, vr r2, vi 0, vr b19_0, vr r3, un] [(.ref r6), (.int 0)])) rfl hml rfl (argsL := []) (rest := [(.int 0)]) (lenOf pd13 rfl) rfl rfl (W := 1) rfl (D d31_87)
  obtain ⟨rfl, M53, e53⟩ := Q53
  have N53 := N49.app M53
  have f54 := ((F24_0.keep K36 nin0).keep K46 (ninS (Ne.symm ne40) nin0))
  have f55 := (f41.keep K46)
  obtain ⟨v56, T56, L56, X56, Q56, st56⟩ := kG X53 hx hZ hown (t47 hw SB0 b19_0 r4 (O0.keep k46 hws) f54) f55 (w_ hw 298 rfl) (mvT hZ (w_ hw 300 rfl)) (iw4 hw) e53 (g := (mkF m 32 #[vr r0, vr r1, vr r2, vi ((0 : Int32) + i7), vr b19_0, vr r3, un] [(.ref b19_0)])) rfl hml rfl (argsL := []) (rest := []) (lenOf pd11 rfl) rfl rfl (W := 0) rfl (D d31_32)
  obtain ⟨rfl, M56, e56⟩ := Q56
  have N56 := N53.app M56
  have f57 := ((F24_1.keep K36 nin0).keep K46 (ninS (Ne.symm ne40) nin0))
  have f59 := ((((f18.keep K19).keep K24).keep K36).keep K46)
  have ne58 : r1 ≠ b19_0 := Exa.ne f59 f55 (by decide)
  have f60 := (((f21.keep K24 (ninS ne58 nin0)).keep K36 nin0).keep K46 (ninS ne10 nin0))
  have f61 := ((F24_2.keep K36 nin0).keep K46 (ninS (Ne.symm ne40) nin0))
  have f62 := ((F24_3.keep K36 nin0).keep K46 (ninS (Ne.symm ne40) nin0))
  have f63 := ((F24_4.keep K36 nin0).keep K46 (ninS (Ne.symm ne40) nin0))
  have f64 := q19.keep k46 nin_r4
  have f65 := q20.keep k46
  obtain ⟨v66, T66, L66, X66, Q66, st66⟩ := kG X56 hx hZ hown (t89 hw SB0 b19_0 r4 r1 (2 : Int32) r3 (O0.keep k46 hws) f55 f54 f57 f60 f61 f62 f63 f64 f65 (Nat.le_trans Z0 z19_b19_0)) f55 (w_ hw 307 rfl) (mvT hZ (w_ hw 309 rfl)) (iw5 hw) e56 (g := (mkF m 42 #[vr r0, vr r1, vr r2, vi ((0 : Int32) + i7), vr b19_0, vr r3, un] [(.ref b19_0)])) rfl hml rfl (argsL := []) (rest := []) (lenOf pd29 rfl) rfl rfl (W := 0) rfl (D d31_42)
  obtain ⟨h66, e66⟩ : ∃ z, T66.heap = z := ⟨_, rfl⟩
  rw [e66] at Q66
  obtain ⟨rfl, M66, K66, F66_0, F66_1, F66_2, F66_3, F66_4⟩ := Q66
  have N66 := N56.app M66
  have k66 := k46.trans K66 (allS (Or.inr z19_b19_0) all0)
  have f67 := q20.keep k66
  obtain ⟨T68, X68, e68, st68⟩ := castY X66 hx hZ hown (w_ hw 328 rfl) e66 (Ins.of_exa f67 (w_ hw 329 rfl)) (g := (mkF m 47 #[vr r0, vr r1, vr r2, vi ((0 : Int32) + i7), vr b19_0, vr r3, un] [(.ref r4)])) rfl rfl (D d31_47)
  have f69 := (((f30.keep K36 nin0).keep K46 (ninS ne4 nin0)).keep K66 (ninS ne27 nin0))
  obtain ⟨T70, X70, e70, st70⟩ := gF X68 hx hZ hown (w_ hw 225 rfl) Via.refl e68 f69 (g := (mkF m 53 #[vr r0, vr r1, vr r2, vi ((0 : Int32) + i7), vr b19_0, vr r4, un] [(.ref r0)])) rfl rfl (D d31_53)
  have f71 := q21.keep k66 nin_r4
  obtain ⟨v72, T72, L72, X72, Q72, st72⟩ := kG X70 hx hZ hown (t51 hw SB0 r4 r8 (O0.keep k66 hws) f71) f67 (w_ hw 330 rfl) (mvT hZ (w_ hw 332 rfl)) (iw6 hw) e70 (g := (mkF m 58 #[vr r0, vr r1, vr r2, vi ((0 : Int32) + i7), vr b19_0, vr r4, un] [(.ref r4), (.ref b2)])) rfl hml rfl (argsL := []) (rest := [(.ref b2)]) (lenOf pd29 rfl) rfl rfl (W := 1) rfl (D d31_58)
  obtain ⟨rfl, M72, e72⟩ := Q72
  have N72 := N66.app M72
  have f73 := q22.keep k66
  obtain ⟨T74, X74, e74, st74⟩ := castY X72 hx hZ hown (w_ hw 338 rfl) e72 (Ins.self f73) (g := (mkF m 63 #[vr r0, vr r1, vr r2, vi ((0 : Int32) + i7), vr b19_0, vr r4, un] [(.ref r8), (.ref b2)])) rfl rfl (D d31_63)
  obtain ⟨v75, T75, L75, X75, Q75, st75⟩ := kS X74 hx hZ hown (t52 hw SB0 ((0 : Int32) + i7) (O0.keep k66 hws) (bd1 q23)) (w_ hw 339 rfl) (w_ hw 340 rfl) (w_ hw 341 rfl) (w_ hw 342 rfl) e74 (g := (mkF m 67 #[vr r0, vr r1, vr r2, vi ((0 : Int32) + i7), vr b19_0, vr r4, un] [(.int ((0 : Int32) + i7)), (.ref r8), (.ref b2)])) rfl hml rfl (argsL := [(.int ((0 : Int32) + i7))]) (rest := [(.ref r8), (.ref b2)]) (lenOf pd30 rfl) rfl rfl (W := 2) rfl (D d31_67)
  obtain ⟨h75, e75⟩ : ∃ z, T75.heap = z := ⟨_, rfl⟩
  rw [e75] at Q75
  obtain ⟨b75_0, rfl, M75, K75, F75_0, F75_1⟩ := Q75
  have N75 := N72.app M75
  have k75 := k66.trans K75 all0
  have f76 := q22.keep k75
  have f77 := q24.keep k75 nin_r8
  have f78 := (((f39.keep K46).keep K66).keep K75)
  have f79 := ((F46_0.keep K66 (ninS ne40 nin0)).keep K75 nin0)
  have f81 := ((F46_4.keep K66).keep K75)
  have f82 := ((f55.keep K66).keep K75)
  have ne80 : b46_0 ≠ b19_0 := Exa.ne f81 f82 (by decide)
  have f83 := ((F46_5.keep K66 (ninS ne80 nin0)).keep K75 nin0)
  have f84 := ((F46_2.keep K66 (ninS ne40 nin0)).keep K75 nin0)
  have f85 := ((F46_1.keep K66 (ninS ne40 nin0)).keep K75 nin0)
  have f86 := ((F46_3.keep K66 (ninS ne40 nin0)).keep K75 nin0)
  obtain ⟨v87, T87, L87, X87, Q87, st87⟩ := kG X75 hx hZ hown (t93 hw SB0 b2 r8 b75_0 b46_0 b46_1 c46_2 (O0.keep k75 hws) f76 f77 f78 f79 f83 f81 F46_6 f84 f85 f86 (Nat.le_trans Z0 z46_b46_0) (Nat.le_trans Z0 z2)) f78 (w_ hw 346 rfl) (mvT hZ (w_ hw 117 rfl)) (iw7 hw) e75 (g := (mkF m 70 #[vr r0, vr r1, vr r2, vi ((0 : Int32) + i7), vr b19_0, vr r4, un] [(.ref b75_0), (.ref r8), (.ref b2)])) rfl hml rfl (argsL := [(.ref r8), (.ref b75_0)]) (rest := []) (lenOf pd22 rfl) rfl rfl (W := 0) rfl (D d31_70)
  obtain ⟨h87, e87⟩ : ∃ z, T87.heap = z := ⟨_, rfl⟩
  rw [e87] at Q87
  obtain ⟨b87_0, rfl, M87, K87, y87_0, F87_0, F87_1, F87_2, F87_3, F87_4, F87_5, F87_6, F87_7, F87_8⟩ := Q87
  have N87 := N75.app M87
  have z87_b87_0 := Nat.le_trans k75.1 y87_0
  have k87 := k75.trans K87 (allS (Or.inr z46_b46_0) (allS (Or.inr z2) all0))
  have f88 := q25.keep k87 nin_r4
  have f89 := q20.keep k87
  obtain ⟨v90, T90, L90, X90, Q90, st90⟩ := kG X87 hx hZ hown (t61 hw SB0 r4 r9 (O0.keep k87 hws) f88) f89 (w_ hw 367 rfl) (mvT hZ (w_ hw 369 rfl)) (iw8 hw) e87 (g := (mkF m 79 #[vr r0, vr r1, vr r2, vi ((0 : Int32) + i7), vr b19_0, vr r4, un] [(.ref r4), (.int ((0 : Int32) + i7))])) rfl hml rfl (argsL := []) (rest := [(.int ((0 : Int32) + i7))]) (lenOf pd29 rfl) rfl rfl (W := 1) rfl (D d31_79)
  obtain ⟨rfl, M90, e90⟩ := Q90
  have N90 := N87.app M90
  have f91 := q26.keep k87
  obtain ⟨T92, X92, e92, st92⟩ := castY X90 hx hZ hown (w_ hw 375 rfl) e90 (Ins.of_exa f91 (w_ hw 88 rfl)) (g := (mkF m 84 #[vr r0, vr r1, vr r2, vi ((0 : Int32) + i7), vr b19_0, vr r4, un] [(.ref r9), (.int ((0 : Int32) + i7))])) rfl rfl (D d31_84)
  have f93 := q27.keep k87 nin_r9
  obtain ⟨v94, T94, L94, X94, Q94, st94⟩ := kG X92 hx hZ hown (t62 hw SB0 r9 i10 (O0.keep k87 hws) f93) f91 (w_ hw 376 rfl) (mvT hZ (w_ hw 378 rfl)) (iw9 hw) e92 (g := (mkF m 87 #[vr r0, vr r1, vr r2, vi ((0 : Int32) + i7), vr b19_0, vr r4, un] [(.ref r9), (.int ((0 : Int32) + i7))])) rfl hml rfl (argsL := []) (rest := [(.int ((0 : Int32) + i7))]) (lenOf pd13 rfl) rfl rfl (W := 1) rfl (D d31_87)
  obtain ⟨rfl, M94, e94⟩ := Q94
  have N94 := N90.app M94
  have f95 := ((F66_0.keep K75 nin0).keep K87 (ninS (Ne.symm ne80) (ninS (Ne.symm ne40) nin0)))
  have f96 := (f82.keep K87)
  obtain ⟨v97, T97, L97, X97, Q97, st97⟩ := kG X94 hx hZ hown (t63 hw SB0 b19_0 (O0.keep k87 hws) f95) f96 (w_ hw 298 rfl) (mvT hZ (w_ hw 300 rfl)) (iw4 hw) e94 (g := (mkF m 32 #[vr r0, vr r1, vr r2, vi (((0 : Int32) + i7) + i10), vr b19_0, vr r4, un] [(.ref b19_0)])) rfl hml rfl (argsL := []) (rest := []) (lenOf pd11 rfl) rfl rfl (W := 0) rfl (D d31_32)
  obtain ⟨rfl, M97, e97⟩ := Q97
  have N97 := N94.app M97
  obtain ⟨T98, h98, c98, X98, e98, E98, A98, B98, st98⟩ := newPE X97 hx hZ (w_ hw 384 rfl) e97 (g := (mkF m 99 #[vr r0, vr r1, vr r2, vi (((0 : Int32) + i7) + i10), vr b19_0, vr r4, un] [(.int (((0 : Int32) + i7) + i10)), (.ref r0)])) rfl (D d31_99) rfl (bd_nn (bd2 q23 q28)) (cap := 12) (bd_cap (bd2 q23 q28)) (by decide) (by decide) (by decide) (ad := "[Z") (by decide)
  obtain ⟨b98, g98⟩ : ∃ z, z = h87.size := ⟨_, rfl⟩
  rw [← g98] at A98 B98 st98
  have z98 : h0.size ≤ b98 := Nat.le_trans k87.1 (Nat.le_of_eq g98.symm)
  have k98 := k87.ext E98
  have v98 : AB Z h98 b98 (((0 : Int32) + i7) + i10) (fun _ => 0) := AB.new A98 (bd_nn (bd2 q23 q28))
  have f100 := ((((((f28.keep K36).keep K46).keep K66).keep K75).keep K87).ext E98)
  have f101 := ((f81.keep K87).ext E98)
  have ne99 : r0 ≠ b46_0 := Exa.ne f100 f101 (by decide)
  have f102 := ((((((((((((q2.ext E2).keep K3 (ninS ne4 nin0)).other W8 (Or.inr (sn79 hw))).keep K17 (ninS (Ne.symm ne12) nin0)).keep K19 nin0).keep K24 (ninS ne27 nin0)).keep K36 nin0).keep K46 (ninS ne4 nin0)).keep K66 (ninS ne27 nin0)).keep K75 nin0).keep K87 (ninS ne99 (ninS ne4 nin0))).ext E98)
  obtain ⟨T103, h103, X103, e103, W103, st103⟩ := putF X98 hx hZ hown (host := "") (Or.inl (w_ hw 385 rfl)) Via.refl e98 f102 f100 (Or.inr ⟨(w_ hw 386 rfl), rfl, hnm⟩) (w_ hw 214 rfl) (ty := (.array .boolean)) (by decide) rfl rfl (g := (mkF m 101 #[vr r0, vr r1, vr r2, vi (((0 : Int32) + i7) + i10), vr b19_0, vr r4, un] [(.ref b98), (.ref r0)])) rfl rfl (D d31_101)
  have N103 := Fr.snoc X103 N97 ge0
  have k103 := k98.wr W103 (Or.inl (List.mem_of_getElem? (i := 0) rfl))
  have v103 := f102.same W103
  have f104 := (((((f59.keep K66).keep K75).keep K87).ext E98).wr W103)
  have f106 := (f101.wr W103)
  have ne105 : r1 ≠ b46_0 := Exa.ne f104 f106 (by decide)
  have f107 := (((((((((F17_0.keep K19 nin0).keep K24 (ninS ne58 nin0)).keep K36 nin0).keep K46 (ninS ne10 nin0)).keep K66 (ninS ne58 nin0)).keep K75 nin0).keep K87 (ninS ne105 (ninS ne10 nin0))).ext E98).other W103 (Or.inl ne12))
  have f108 := (((((((((F17_3.keep K19).keep K24).keep K36).keep K46).keep K66).keep K75).keep K87).ext E98).wr W103)
  obtain ⟨v109, T109, L109, X109, Q109, st109⟩ := kG X103 hx hZ hown (t65 hw SB0 r1 b17_0 (O0.keep k103 hws) f104 f107 f108) f104 (w_ hw 227 rfl) (mvT hZ (w_ hw 229 rfl)) (iw2 hw) e103 (g := (mkF m 105 #[vr r0, vr r1, vr r2, vi (((0 : Int32) + i7) + i10), vr b19_0, vr r4, un] [(.ref r1)])) rfl hml rfl (argsL := []) (rest := []) (lenOf pd25 rfl) rfl rfl (W := 0) rfl (D d31_105)
  obtain ⟨rfl, M109, e109⟩ := Q109
  have N109 := N103.app M109
  have f111 := ((f96.ext E98).wr W103)
  have ne110 : b17_0 ≠ b19_0 := Exa.ne f108 f111 (by decide)
  have f113 := (((f78.keep K87).ext E98).wr W103)
  have ne112 : b17_0 ≠ b2 := Exa.ne f108 f113 (by decide)
  have ne114 : b17_0 ≠ b46_0 := Exa.ne f108 f106 (by decide)
  have f116 := (f100.wr W103)
  have ne115 : b17_0 ≠ r0 := Exa.ne f108 f116 (by decide)
  have f117 := (((((((((F17_4.keep K19 nin0).keep K24 (ninS ne110 nin0)).keep K36 nin0).keep K46 (ninS ne112 nin0)).keep K66 (ninS ne110 nin0)).keep K75 nin0).keep K87 (ninS ne114 (ninS ne112 nin0))).ext E98).other W103 (Or.inl ne115))
  have f118 := (((((((((F17_5.keep K19 nin0).keep K24 (ninS ne110 nin0)).keep K36 nin0).keep K46 (ninS ne112 nin0)).keep K66 (ninS ne110 nin0)).keep K75 nin0).keep K87 (ninS ne114 (ninS ne112 nin0))).ext E98).other W103 (Or.inl ne115))
  have f119 := (((((((((F17_1.keep K19 nin0).keep K24 (ninS ne58 nin0)).keep K36 nin0).keep K46 (ninS ne10 nin0)).keep K66 (ninS ne58 nin0)).keep K75 nin0).keep K87 (ninS ne105 (ninS ne10 nin0))).ext E98).other W103 (Or.inl ne12))
  have f120 := (((((f60.keep K66 (ninS ne58 nin0)).keep K75 nin0).keep K87 (ninS ne105 (ninS ne10 nin0))).ext E98).other W103 (Or.inl ne12))
  obtain ⟨v121, T121, L121, X121, Q121, st121⟩ := kG X109 hx hZ hown (t46 hw SB0 b17_0 r1 r3 (2 : Int32) (O0.keep k103 hws) f117 f118 f119 f120 f104) f108 (w_ hw 262 rfl) (mvT hZ (w_ hw 264 rfl)) (iw3 hw) e109 (g := (mkF m 110 #[vr r0, vr r1, vr r2, vi (((0 : Int32) + i7) + i10), vr b19_0, vr r4, un] [(.ref b17_0)])) rfl hml rfl (argsL := []) (rest := []) (lenOf pd26 rfl) rfl rfl (W := 0) rfl (D d31_110)
  obtain ⟨h121, e121⟩ : ∃ z, T121.heap = z := ⟨_, rfl⟩
  rw [e121] at Q121
  obtain ⟨b121_0, rfl, M121, K121, y121_0, F121_0, F121_1, F121_2, F121_3, F121_4, F121_5⟩ := Q121
  have N121 := N109.app M121
  have z121_b121_0 := Nat.le_trans k103.1 y121_0
  have k121 := k103.trans K121 all0
  obtain ⟨v122, T122, L122, X122, Q122, st122⟩ := kG X121 hx hZ hown (t47 hw SB0 b121_0 r3 (O0.keep k121 hws) F121_3) F121_0 (w_ hw 298 rfl) (mvT hZ (w_ hw 300 rfl)) (iw4 hw) e121 (g := (mkF m 119 #[vr r0, vr r1, vr r2, vi (((0 : Int32) + i7) + i10), vr b121_0, vr r4, un] [(.ref b121_0)])) rfl hml rfl (argsL := []) (rest := []) (lenOf pd11 rfl) rfl rfl (W := 0) rfl (D d31_119)
  obtain ⟨rfl, M122, e122⟩ := Q122
  have N122 := N121.app M122
  have f123 := (f120.keep K121 nin0)
  have f124 := q11.keep k121 nin_r3
  have f125 := q12.keep k121
  obtain ⟨v126, T126, L126, X126, Q126, st126⟩ := kG X122 hx hZ hown (t86 hw SB0 b121_0 r3 r1 (2 : Int32) r4 (O0.keep k121 hws) F121_0 F121_3 F121_1 f123 F121_4 F121_2 F121_5 f124 f125 (Nat.le_trans Z0 z121_b121_0)) F121_0 (w_ hw 307 rfl) (mvT hZ (w_ hw 309 rfl)) (iw5 hw) e122 (g := (mkF m 129 #[vr r0, vr r1, vr r2, vi (((0 : Int32) + i7) + i10), vr b121_0, vr r4, un] [(.ref b121_0)])) rfl hml rfl (argsL := []) (rest := []) (lenOf pd29 rfl) rfl rfl (W := 0) rfl (D d31_129)
  obtain ⟨h126, e126⟩ : ∃ z, T126.heap = z := ⟨_, rfl⟩
  rw [e126] at Q126
  obtain ⟨rfl, M126, K126, F126_0, F126_1, F126_2, F126_3, F126_4⟩ := Q126
  have N126 := N122.app M126
  have k126 := k121.trans K126 (allS (Or.inr z121_b121_0) all0)
  have f127 := q12.keep k126
  obtain ⟨T128, X128, e128, st128⟩ := castY X126 hx hZ hown (w_ hw 328 rfl) e126 (Ins.of_exa f127 (w_ hw 329 rfl)) (g := (mkF m 134 #[vr r0, vr r1, vr r2, vi (((0 : Int32) + i7) + i10), vr b121_0, vr r4, un] [(.ref r3)])) rfl rfl (D d31_134)
  have f130 := ((f116.keep K121).keep K126)
  have f131 := (F121_0.keep K126)
  have ne129 : r0 ≠ b121_0 := Exa.ne f130 f131 (by decide)
  have f132 := ((v103.keep K121 nin0).keep K126 (ninS ne129 nin0))
  obtain ⟨T133, X133, e133, st133⟩ := gF X128 hx hZ hown (w_ hw 385 rfl) Via.refl e128 f132 (g := (mkF m 140 #[vr r0, vr r1, vr r2, vi (((0 : Int32) + i7) + i10), vr b121_0, vr r3, un] [(.ref r0)])) rfl rfl (D d31_140)
  have f134 := ((((((f69.keep K75 nin0).keep K87 (ninS ne99 (ninS ne4 nin0))).ext E98).other W103 (Or.inr (Ne.symm (sn79 hw)))).keep K121 nin0).keep K126 (ninS ne129 nin0))
  obtain ⟨T135, X135, e135, st135⟩ := gF X133 hx hZ hown (w_ hw 225 rfl) Via.refl e133 f134 (g := (mkF m 144 #[vr r0, vr r1, vr r2, vi (((0 : Int32) + i7) + i10), vr b121_0, vr r3, un] [(.ref r0), (.ref b98)])) rfl rfl (D d31_144)
  have f136 := q13.keep k126 nin_r3
  obtain ⟨v137, T137, L137, X137, Q137, st137⟩ := kG X135 hx hZ hown (t51 hw SB0 r3 r5 (O0.keep k126 hws) f136) f127 (w_ hw 330 rfl) (mvT hZ (w_ hw 332 rfl)) (iw6 hw) e135 (g := (mkF m 149 #[vr r0, vr r1, vr r2, vi (((0 : Int32) + i7) + i10), vr b121_0, vr r3, un] [(.ref r3), (.ref b2), (.ref b98)])) rfl hml rfl (argsL := []) (rest := [(.ref b2), (.ref b98)]) (lenOf pd29 rfl) rfl rfl (W := 2) rfl (D d31_149)
  obtain ⟨rfl, M137, e137⟩ := Q137
  have N137 := N126.app M137
  have f138 := ((f113.keep K121).keep K126)
  have ne139 : b2 ≠ b121_0 := Exa.ne f138 f131 (by decide)
  have f140 := ((((F87_1.ext E98).other W103 (Or.inl (Ne.symm ne4))).keep K121 nin0).keep K126 (ninS ne139 nin0))
  have f142 := ((f106.keep K121).keep K126)
  have ne141 : b46_0 ≠ b121_0 := Exa.ne f142 f131 (by decide)
  have f143 := ((((F87_0.ext E98).other W103 (Ne.symm ne99)).keep K121 nin0).keep K126 (ninS ne141 nin0))
  have f144 := q14.keep k126
  have f145 := q15.keep k126 nin_r5
  have f147 := (((((((F46_7.keep K66).keep K75).keep K87).ext E98).wr W103).keep K121).keep K126)
  have f148 := ((f111.keep K121).keep K126)
  have ne146 : b46_1 ≠ b19_0 := Exa.ne f147 f148 (by decide)
  have ne149 : b46_1 ≠ b2 := Exa.ne f147 f138 (by decide)
  have ne150 : b46_1 ≠ b46_0 := Exa.ne f147 f142 (by decide)
  have ne151 : b46_1 ≠ r0 := Exa.ne f147 f130 (by decide)
  have ne152 : b46_1 ≠ b121_0 := Exa.ne f147 f131 (by decide)
  have f153 := (((((((F46_8.keep K66 (ninS ne146 nin0)).keep K75 nin0).keep K87 (ninS ne150 (ninS ne149 nin0))).ext E98).other W103 (Or.inl ne151)).keep K121 nin0).keep K126 (ninS ne152 nin0))
  have f154 := (((((((F46_9.keep K66 (ninS ne146 nin0)).keep K75 nin0).keep K87 (ninS ne150 (ninS ne149 nin0))).ext E98).other W103 (Or.inl ne151)).keep K121 nin0).keep K126 (ninS ne152 nin0))
  have f155 := (((((((F46_10.keep K66 (ninS ne146 nin0)).keep K75 nin0).keep K87 (ninS ne150 (ninS ne149 nin0))).ext E98).other W103 (Or.inl ne151)).keep K121 nin0).keep K126 (ninS ne152 nin0))
  obtain ⟨v156, T156, L156, X156, Q156, st156⟩ := kG X137 hx hZ hown (t95 hw SB0 b2 r5 b46_0 b46_1 b87_0 c46_2 b36_0 (O0.keep k126 hws) f138 f140 f143 f144 f145 f153 f154 f155) f138 (w_ hw 389 rfl) (mvT hZ (w_ hw 391 rfl)) (iw10 hw) e137 (g := (mkF m 154 #[vr r0, vr r1, vr r2, vi (((0 : Int32) + i7) + i10), vr b121_0, vr r3, un] [(.ref r5), (.ref b2), (.ref b98)])) rfl hml rfl (argsL := [(.ref r5)]) (rest := [(.ref b98)]) (lenOf pd32 rfl) rfl rfl (W := 1) rfl (D d31_154)
  obtain ⟨rfl, M156, e156⟩ := Q156
  have N156 := N137.app M156
  have f157 := ((((((((F36_0.keep K46).keep K66).keep K75).keep K87).ext E98).wr W103).keep K121).keep K126)
  obtain ⟨T158, X158, e158, st158⟩ := castY X156 hx hZ hown (w_ hw 405 rfl) e156 (Ins.self f157) (g := (mkF m 159 #[vr r0, vr r1, vr r2, vi (((0 : Int32) + i7) + i10), vr b121_0, vr r3, un] [(.ref b36_0), (.ref b98)])) rfl rfl (D d31_159)
  have ne159 : b36_0 ≠ b2 := Exa.ne f157 f138 (by decide)
  have ne160 : b36_0 ≠ b19_0 := Exa.ne f157 f148 (by decide)
  have ne161 : b36_0 ≠ b46_0 := Exa.ne f157 f142 (by decide)
  have ne162 : b36_0 ≠ r0 := Exa.ne f157 f130 (by decide)
  have ne163 : b36_0 ≠ b121_0 := Exa.ne f157 f131 (by decide)
  have f164 := ((((((((F36_1.keep K46 (ninS ne159 nin0)).keep K66 (ninS ne160 nin0)).keep K75 nin0).keep K87 (ninS ne161 (ninS ne159 nin0))).ext E98).other W103 (Or.inl ne162)).keep K121 nin0).keep K126 (ninS ne163 nin0))
  obtain ⟨v165, T165, L165, X165, Q165, st165⟩ := kV (y := y62) (z := y62) X158 hx hZ hown (t68 hw SB0 b36_0 (O0.keep k126 hws) f164) f157 (nf_of (x := y62) (y' := y62) (args := #[]) (mvT hZ (w_ hw 410 rfl)) rfl) (w_ hw 407 rfl) (w_ hw 408 rfl) (w_ hw 410 rfl) (w_ hw 409 rfl) (w_ hw 341 rfl) (w_ hw 411 rfl) e158 (g := (mkF m 162 #[vr r0, vr r1, vr r2, vi (((0 : Int32) + i7) + i10), vr b121_0, vr r3, un] [(.ref b36_0), (.ref b98)])) rfl hml rfl (argsL := []) (rest := [(.ref b98)]) (lenOf pd13 rfl) rfl rfl (W := 1) rfl (D d31_162)
  obtain ⟨rfl, M165, e165⟩ := Q165
  have N165 := N156.app M165
  have f166 := q16.keep k126 nin_r3
  obtain ⟨v167, T167, L167, X167, Q167, st167⟩ := kG X165 hx hZ hown (t61 hw SB0 r3 r6 (O0.keep k126 hws) f166) f127 (w_ hw 367 rfl) (mvT hZ (w_ hw 369 rfl)) (iw8 hw) e165 (g := (mkF m 167 #[vr r0, vr r1, vr r2, vi (((0 : Int32) + i7) + i10), vr b121_0, vr r3, un] [(.ref r3), (.int 0), (.ref b98)])) rfl hml rfl (argsL := []) (rest := [(.int 0), (.ref b98)]) (lenOf pd29 rfl) rfl rfl (W := 2) rfl (D d31_167)
  obtain ⟨rfl, M167, e167⟩ := Q167
  have N167 := N165.app M167
  have f168 := q17.keep k126
  obtain ⟨T169, X169, e169, st169⟩ := castY X167 hx hZ hown (w_ hw 375 rfl) e167 (Ins.of_exa f168 (w_ hw 88 rfl)) (g := (mkF m 172 #[vr r0, vr r1, vr r2, vi (((0 : Int32) + i7) + i10), vr b121_0, vr r3, un] [(.ref r6), (.int 0), (.ref b98)])) rfl rfl (D d31_172)
  have f170 := q18.keep k126 nin_r6
  obtain ⟨v171, T171, L171, X171, Q171, st171⟩ := kG X169 hx hZ hown (t62 hw SB0 r6 i7 (O0.keep k126 hws) f170) f168 (w_ hw 376 rfl) (mvT hZ (w_ hw 378 rfl)) (iw9 hw) e169 (g := (mkF m 175 #[vr r0, vr r1, vr r2, vi (((0 : Int32) + i7) + i10), vr b121_0, vr r3, un] [(.ref r6), (.int 0), (.ref b98)])) rfl hml rfl (argsL := []) (rest := [(.int 0), (.ref b98)]) (lenOf pd13 rfl) rfl rfl (W := 2) rfl (D d31_175)
  obtain ⟨rfl, M171, e171⟩ := Q171
  have N171 := N167.app M171
  have f173 := (((B98.wr W103).keep K121).keep K126)
  have ne172 : b98 ≠ r0 := Exa.ne f173 f130 (by decide)
  have ne174 : b98 ≠ b121_0 := Exa.ne f173 f131 (by decide)
  have f175 := (((v98.other W103 ne172).keep K121 nin0).keep K126 (ninS ne174 nin0))
  obtain ⟨jl176, jh176⟩ := ix1_2 q23 q28
  obtain ⟨_, Ar176, S176, M176, -⟩ := id f175
  obtain ⟨T177, h177, X177, e177, W177, st177⟩ := stZ X171 hx hZ e171 Ar176 (j := (((0 : Int32) + i7) - (1 : Int32))) (AB.inb S176 jl176 jh176) (g := (mkF m 184 #[vr r0, vr r1, vr r2, vi (((0 : Int32) + i7) + i10), vr b121_0, vr r3, un] [(.int 1), (.int (((0 : Int32) + i7) - (1 : Int32))), (.ref b98)])) rfl rfl (D d31_184)
  have N177 := Fr.snoc X177 N171 (Nat.le_trans Z0 z98)
  have k177 := k126.wr W177 (Or.inr z98)
  have v177 : AB Z h177 b98 (((0 : Int32) + i7) + i10) (up (fun _ => 0) (((0 : Int32) + i7) - (1 : Int32)) (1 : Int32)) := AB.set f175 W177 jl176 jh176
  have f178 := (F126_0.other W177 (Or.inl (Ne.symm ne174)))
  have f179 := (f131.wr W177)
  obtain ⟨v180, T180, L180, X180, Q180, st180⟩ := kG X177 hx hZ hown (t47 hw SB0 b121_0 r4 (O0.keep k177 hws) f178) f179 (w_ hw 298 rfl) (mvT hZ (w_ hw 300 rfl)) (iw4 hw) e177 (g := (mkF m 119 #[vr r0, vr r1, vr r2, vi (((0 : Int32) + i7) + i10), vr b121_0, vr r3, un] [(.ref b121_0)])) rfl hml rfl (argsL := []) (rest := []) (lenOf pd11 rfl) rfl rfl (W := 0) rfl (D d31_119)
  obtain ⟨rfl, M180, e180⟩ := Q180
  have N180 := N177.app M180
  have f181 := (F126_1.other W177 (Or.inl (Ne.symm ne174)))
  have f183 := (((f104.keep K121).keep K126).wr W177)
  have ne182 : r1 ≠ b121_0 := Exa.ne f183 f179 (by decide)
  have f185 := (f173.wr W177)
  have ne184 : r1 ≠ b98 := Exa.ne f183 f185 (by decide)
  have f186 := ((f123.keep K126 (ninS ne182 nin0)).other W177 (Or.inl ne184))
  have f187 := (F126_2.other W177 (Or.inl (Ne.symm ne174)))
  have f188 := (F126_3.other W177 (Or.inl (Ne.symm ne174)))
  have f189 := (F126_4.other W177 (Or.inl (Ne.symm ne174)))
  have f190 := q19.keep k177 nin_r4
  have f191 := q20.keep k177
  obtain ⟨v192, T192, L192, X192, Q192, st192⟩ := kG X180 hx hZ hown (t89 hw SB0 b121_0 r4 r1 (2 : Int32) r3 (O0.keep k177 hws) f179 f178 f181 f186 f187 f188 f189 f190 f191 (Nat.le_trans Z0 z121_b121_0)) f179 (w_ hw 307 rfl) (mvT hZ (w_ hw 309 rfl)) (iw5 hw) e180 (g := (mkF m 129 #[vr r0, vr r1, vr r2, vi (((0 : Int32) + i7) + i10), vr b121_0, vr r3, un] [(.ref b121_0)])) rfl hml rfl (argsL := []) (rest := []) (lenOf pd29 rfl) rfl rfl (W := 0) rfl (D d31_129)
  obtain ⟨h192, e192⟩ : ∃ z, T192.heap = z := ⟨_, rfl⟩
  rw [e192] at Q192
  obtain ⟨rfl, M192, K192, F192_0, F192_1, F192_2, F192_3, F192_4⟩ := Q192
  have N192 := N180.app M192
  have k192 := k177.trans K192 (allS (Or.inr z121_b121_0) all0)
  have f193 := q20.keep k192
  obtain ⟨T194, X194, e194, st194⟩ := castY X192 hx hZ hown (w_ hw 328 rfl) e192 (Ins.of_exa f193 (w_ hw 329 rfl)) (g := (mkF m 134 #[vr r0, vr r1, vr r2, vi (((0 : Int32) + i7) + i10), vr b121_0, vr r3, un] [(.ref r4)])) rfl rfl (D d31_134)
  have f195 := ((f132.other W177 (Or.inl (Ne.symm ne172))).keep K192 (ninS ne129 nin0))
  obtain ⟨T196, X196, e196, st196⟩ := gF X194 hx hZ hown (w_ hw 385 rfl) Via.refl e194 f195 (g := (mkF m 140 #[vr r0, vr r1, vr r2, vi (((0 : Int32) + i7) + i10), vr b121_0, vr r4, un] [(.ref r0)])) rfl rfl (D d31_140)
  have f197 := ((f134.other W177 (Or.inl (Ne.symm ne172))).keep K192 (ninS ne129 nin0))
  obtain ⟨T198, X198, e198, st198⟩ := gF X196 hx hZ hown (w_ hw 225 rfl) Via.refl e196 f197 (g := (mkF m 144 #[vr r0, vr r1, vr r2, vi (((0 : Int32) + i7) + i10), vr b121_0, vr r4, un] [(.ref r0), (.ref b98)])) rfl rfl (D d31_144)
  have f199 := q21.keep k192 nin_r4
  obtain ⟨v200, T200, L200, X200, Q200, st200⟩ := kG X198 hx hZ hown (t51 hw SB0 r4 r8 (O0.keep k192 hws) f199) f193 (w_ hw 330 rfl) (mvT hZ (w_ hw 332 rfl)) (iw6 hw) e198 (g := (mkF m 149 #[vr r0, vr r1, vr r2, vi (((0 : Int32) + i7) + i10), vr b121_0, vr r4, un] [(.ref r4), (.ref b2), (.ref b98)])) rfl hml rfl (argsL := []) (rest := [(.ref b2), (.ref b98)]) (lenOf pd29 rfl) rfl rfl (W := 2) rfl (D d31_149)
  obtain ⟨rfl, M200, e200⟩ := Q200
  have N200 := N192.app M200
  have f201 := ((f138.wr W177).keep K192)
  have f203 := (f185.keep K192)
  have ne202 : b2 ≠ b98 := Exa.ne f201 f203 (by decide)
  have f204 := ((f140.other W177 (Or.inl ne202)).keep K192 (ninS ne139 nin0))
  have f206 := ((f142.wr W177).keep K192)
  have ne205 : b46_0 ≠ b98 := Exa.ne f206 f203 (by decide)
  have f207 := ((f143.other W177 ne205).keep K192 (ninS ne141 nin0))
  have f208 := q22.keep k192
  have f209 := q24.keep k192 nin_r8
  have f211 := ((((((F87_5.ext E98).wr W103).keep K121).keep K126).wr W177).keep K192)
  have f212 := ((f130.wr W177).keep K192)
  have ne210 : b87_0 ≠ r0 := Exa.ne f211 f212 (by decide)
  have f214 := (f179.keep K192)
  have ne213 : b87_0 ≠ b121_0 := Exa.ne f211 f214 (by decide)
  have ne215 : b87_0 ≠ b98 := Exa.ne f211 f203 (by decide)
  have f216 := ((((((F87_6.ext E98).other W103 (Or.inl ne210)).keep K121 nin0).keep K126 (ninS ne213 nin0)).other W177 (Or.inl ne215)).keep K192 (ninS ne213 nin0))
  have f217 := ((((((F87_7.ext E98).other W103 (Or.inl ne210)).keep K121 nin0).keep K126 (ninS ne213 nin0)).other W177 (Or.inl ne215)).keep K192 (ninS ne213 nin0))
  have f218 := ((((((F87_8.ext E98).other W103 (Or.inl ne210)).keep K121 nin0).keep K126 (ninS ne213 nin0)).other W177 (Or.inl ne215)).keep K192 (ninS ne213 nin0))
  obtain ⟨v219, T219, L219, X219, Q219, st219⟩ := kG X200 hx hZ hown (t97 hw SB0 b2 r8 b46_0 b46_1 b87_0 c46_2 b75_0 (O0.keep k192 hws) f201 f204 f207 f208 f209 f216 f217 f218) f201 (w_ hw 389 rfl) (mvT hZ (w_ hw 391 rfl)) (iw10 hw) e200 (g := (mkF m 154 #[vr r0, vr r1, vr r2, vi (((0 : Int32) + i7) + i10), vr b121_0, vr r4, un] [(.ref r8), (.ref b2), (.ref b98)])) rfl hml rfl (argsL := [(.ref r8)]) (rest := [(.ref b98)]) (lenOf pd32 rfl) rfl rfl (W := 1) rfl (D d31_154)
  obtain ⟨rfl, M219, e219⟩ := Q219
  have N219 := N200.app M219
  have f220 := (((((((F75_0.keep K87).ext E98).wr W103).keep K121).keep K126).wr W177).keep K192)
  obtain ⟨T221, X221, e221, st221⟩ := castY X219 hx hZ hown (w_ hw 405 rfl) e219 (Ins.self f220) (g := (mkF m 159 #[vr r0, vr r1, vr r2, vi (((0 : Int32) + i7) + i10), vr b121_0, vr r4, un] [(.ref b75_0), (.ref b98)])) rfl rfl (D d31_159)
  have ne222 : b75_0 ≠ b2 := Exa.ne f220 f201 (by decide)
  have ne223 : b75_0 ≠ b46_0 := Exa.ne f220 f206 (by decide)
  have ne224 : b75_0 ≠ r0 := Exa.ne f220 f212 (by decide)
  have ne225 : b75_0 ≠ b121_0 := Exa.ne f220 f214 (by decide)
  have ne226 : b75_0 ≠ b98 := Exa.ne f220 f203 (by decide)
  have f227 := (((((((F75_1.keep K87 (ninS ne223 (ninS ne222 nin0))).ext E98).other W103 (Or.inl ne224)).keep K121 nin0).keep K126 (ninS ne225 nin0)).other W177 (Or.inl ne226)).keep K192 (ninS ne225 nin0))
  obtain ⟨v228, T228, L228, X228, Q228, st228⟩ := kV (y := y62) (z := y62) X221 hx hZ hown (t98 hw SB0 b75_0 ((0 : Int32) + i7) (O0.keep k192 hws) f227) f220 (nf_of (x := y62) (y' := y62) (args := #[]) (mvT hZ (w_ hw 410 rfl)) rfl) (w_ hw 407 rfl) (w_ hw 408 rfl) (w_ hw 410 rfl) (w_ hw 409 rfl) (w_ hw 341 rfl) (w_ hw 411 rfl) e221 (g := (mkF m 162 #[vr r0, vr r1, vr r2, vi (((0 : Int32) + i7) + i10), vr b121_0, vr r4, un] [(.ref b75_0), (.ref b98)])) rfl hml rfl (argsL := []) (rest := [(.ref b98)]) (lenOf pd13 rfl) rfl rfl (W := 1) rfl (D d31_162)
  obtain ⟨rfl, M228, e228⟩ := Q228
  have N228 := N219.app M228
  have f229 := q25.keep k192 nin_r4
  obtain ⟨v230, T230, L230, X230, Q230, st230⟩ := kG X228 hx hZ hown (t61 hw SB0 r4 r9 (O0.keep k192 hws) f229) f193 (w_ hw 367 rfl) (mvT hZ (w_ hw 369 rfl)) (iw8 hw) e228 (g := (mkF m 167 #[vr r0, vr r1, vr r2, vi (((0 : Int32) + i7) + i10), vr b121_0, vr r4, un] [(.ref r4), (.int ((0 : Int32) + i7)), (.ref b98)])) rfl hml rfl (argsL := []) (rest := [(.int ((0 : Int32) + i7)), (.ref b98)]) (lenOf pd29 rfl) rfl rfl (W := 2) rfl (D d31_167)
  obtain ⟨rfl, M230, e230⟩ := Q230
  have N230 := N228.app M230
  have f231 := q26.keep k192
  obtain ⟨T232, X232, e232, st232⟩ := castY X230 hx hZ hown (w_ hw 375 rfl) e230 (Ins.of_exa f231 (w_ hw 88 rfl)) (g := (mkF m 172 #[vr r0, vr r1, vr r2, vi (((0 : Int32) + i7) + i10), vr b121_0, vr r4, un] [(.ref r9), (.int ((0 : Int32) + i7)), (.ref b98)])) rfl rfl (D d31_172)
  have f233 := q27.keep k192 nin_r9
  obtain ⟨v234, T234, L234, X234, Q234, st234⟩ := kG X232 hx hZ hown (t62 hw SB0 r9 i10 (O0.keep k192 hws) f233) f231 (w_ hw 376 rfl) (mvT hZ (w_ hw 378 rfl)) (iw9 hw) e232 (g := (mkF m 175 #[vr r0, vr r1, vr r2, vi (((0 : Int32) + i7) + i10), vr b121_0, vr r4, un] [(.ref r9), (.int ((0 : Int32) + i7)), (.ref b98)])) rfl hml rfl (argsL := []) (rest := [(.int ((0 : Int32) + i7)), (.ref b98)]) (lenOf pd13 rfl) rfl rfl (W := 2) rfl (D d31_175)
  obtain ⟨rfl, M234, e234⟩ := Q234
  have N234 := N230.app M234
  have f235 := (v177.keep K192 (ninS ne174 nin0))
  obtain ⟨jl236, jh236⟩ := ix2_2 q23 q28
  obtain ⟨_, Ar236, S236, M236, -⟩ := id f235
  obtain ⟨T237, h237, X237, e237, W237, st237⟩ := stZ X234 hx hZ e234 Ar236 (j := ((((0 : Int32) + i7) + i10) - (1 : Int32))) (AB.inb S236 jl236 jh236) (g := (mkF m 184 #[vr r0, vr r1, vr r2, vi (((0 : Int32) + i7) + i10), vr b121_0, vr r4, un] [(.int 1), (.int ((((0 : Int32) + i7) + i10) - (1 : Int32))), (.ref b98)])) rfl rfl (D d31_184)
  have N237 := Fr.snoc X237 N234 (Nat.le_trans Z0 z98)
  have k237 := k192.wr W237 (Or.inr z98)
  have v237 : AB Z h237 b98 (((0 : Int32) + i7) + i10) (up (up (fun _ => 0) (((0 : Int32) + i7) - (1 : Int32)) (1 : Int32)) ((((0 : Int32) + i7) + i10) - (1 : Int32)) (1 : Int32)) := AB.set f235 W237 jl236 jh236
  have f238 := (F192_0.other W237 (Or.inl (Ne.symm ne174)))
  have f239 := (f214.wr W237)
  obtain ⟨v240, T240, L240, X240, Q240, st240⟩ := kG X237 hx hZ hown (t63 hw SB0 b121_0 (O0.keep k237 hws) f238) f239 (w_ hw 298 rfl) (mvT hZ (w_ hw 300 rfl)) (iw4 hw) e237 (g := (mkF m 119 #[vr r0, vr r1, vr r2, vi (((0 : Int32) + i7) + i10), vr b121_0, vr r4, un] [(.ref b121_0)])) rfl hml rfl (argsL := []) (rest := []) (lenOf pd11 rfl) rfl rfl (W := 0) rfl (D d31_119)
  obtain ⟨rfl, M240, e240⟩ := Q240
  have N240 := N237.app M240
  have f241 := q30.keep k237 nin_r2
  have f242 := q29.keep k237
  obtain ⟨v243, T243, L243, X243, Q243, st243⟩ := kG X240 hx hZ hown (t62 hw SB0 r2 (0 : Int32) (O0.keep k237 hws) f241) f242 (w_ hw 376 rfl) (mvT hZ (w_ hw 378 rfl)) (iw9 hw) e240 (g := (mkF m 189 #[vr r0, vr r1, vr r2, vi (((0 : Int32) + i7) + i10), vr b121_0, vr r4, un] [(.ref r2)])) rfl hml rfl (argsL := []) (rest := []) (lenOf pd13 rfl) rfl rfl (W := 0) rfl (D d31_189)
  obtain ⟨rfl, M243, e243⟩ := Q243
  have N243 := N240.app M243
  obtain ⟨T244, h244, c244, X244, e244, E244, A244, B244, st244⟩ := newPE X243 hx hZ (w_ hw 414 rfl) e243 (g := (mkF m 194 #[vr r0, vr r1, vr r2, vi (((0 : Int32) + i7) + i10), vr b121_0, vr r4, un] [(.int 0)])) rfl (D d31_194) rfl (by decide) (cap := 0) (by decide) (by decide) (by decide) (by decide) (ad := "[I") (by decide)
  obtain ⟨b244, g244⟩ : ∃ z, z = h237.size := ⟨_, rfl⟩
  rw [← g244] at A244 B244 st244
  have z244 : h0.size ≤ b244 := Nat.le_trans k237.1 (Nat.le_of_eq g244.symm)
  have k244 := k237.ext E244
  have v244 : Arv Z h244 b244 c244 .int (0 : Int32) [] (.int 0) := (Arv.new A244 (by decide)).pad (pad_rep [] (.int 0) 0)
  have f245 := q30.keep k244 nin_r2
  have f246 := q29.keep k244
  obtain ⟨v247, T247, L247, X247, Q247, st247⟩ := kG X244 hx hZ hown (t62 hw SB0 r2 (0 : Int32) (O0.keep k244 hws) f245) f246 (w_ hw 376 rfl) (mvT hZ (w_ hw 378 rfl)) (iw9 hw) e244 (g := (mkF m 199 #[vr r0, vr r1, vr r2, vi (((0 : Int32) + i7) + i10), vr b244, vr r4, un] [(.ref r2)])) rfl hml rfl (argsL := []) (rest := []) (lenOf pd13 rfl) rfl rfl (W := 0) rfl (D d31_199)
  obtain ⟨rfl, M247, e247⟩ := Q247
  have N247 := N243.app M247
  obtain ⟨T248, h248, c248, X248, e248, E248, A248, B248, st248⟩ := newPE X247 hx hZ (w_ hw 414 rfl) e247 (g := (mkF m 204 #[vr r0, vr r1, vr r2, vi (((0 : Int32) + i7) + i10), vr b244, vr r4, un] [(.int 0)])) rfl (D d31_204) rfl (by decide) (cap := 0) (by decide) (by decide) (by decide) (by decide) (ad := "[I") (by decide)
  obtain ⟨b248, g248⟩ : ∃ z, z = h244.size := ⟨_, rfl⟩
  rw [← g248] at A248 B248 st248
  have z248 : h0.size ≤ b248 := Nat.le_trans k244.1 (Nat.le_of_eq g248.symm)
  have k248 := k244.ext E248
  have v248 : Arv Z h248 b248 c248 .int (0 : Int32) [] (.int 0) := (Arv.new A248 (by decide)).pad (pad_rep [] (.int 0) 0)
  have f249 := q30.keep k248 nin_r2
  have f250 := q29.keep k248
  obtain ⟨v251, T251, L251, X251, Q251, st251⟩ := kG X248 hx hZ hown (t62 hw SB0 r2 (0 : Int32) (O0.keep k248 hws) f249) f250 (w_ hw 376 rfl) (mvT hZ (w_ hw 378 rfl)) (iw9 hw) e248 (g := (mkF m 214 #[vr r0, vr r1, vr r2, vi (((0 : Int32) + i7) + i10), vr b244, vr b248, vi 0] [(.ref r2), (.int 0)])) rfl hml rfl (argsL := []) (rest := [(.int 0)]) (lenOf pd13 rfl) rfl rfl (W := 1) rfl (D d31_214)
  obtain ⟨rfl, M251, e251⟩ := Q251
  have N251 := N247.app M251
  obtain ⟨T252, h252, c252, X252, e252, E252, A252, B252, st252⟩ := newPE X251 hx hZ (w_ hw 414 rfl) e251 (g := (mkF m 278 #[vr r0, vr r1, vr r2, vi (((0 : Int32) + i7) + i10), vr b244, vr b248, vi 0] [(.int ((((0 : Int32) + i7) + i10) + (1 : Int32))), (.ref r0)])) rfl (D d31_278) rfl (bd_nn1 (bd2 q23 q28)) (cap := 13) (bd_cap1 (bd2 q23 q28)) (by decide) (by decide) (by decide) (ad := "[I") (by decide)
  obtain ⟨b252, g252⟩ : ∃ z, z = h248.size := ⟨_, rfl⟩
  rw [← g252] at A252 B252 st252
  have z252 : h0.size ≤ b252 := Nat.le_trans k248.1 (Nat.le_of_eq g252.symm)
  have k252 := k248.ext E252
  have v252 : Arv Z h252 b252 c252 .int ((((0 : Int32) + i7) + i10) + (1 : Int32)) [] (.int 0) := Arv.new A252 (bd_nn1 (bd2 q23 q28))
  have f253 := (((((((((((((((((((((q3.ext E2).keep K3 (ninS ne4 nin0)).other W8 (Or.inr (sn80 hw))).keep K17 (ninS (Ne.symm ne12) nin0)).keep K19 nin0).keep K24 (ninS ne27 nin0)).keep K36 nin0).keep K46 (ninS ne4 nin0)).keep K66 (ninS ne27 nin0)).keep K75 nin0).keep K87 (ninS ne99 (ninS ne4 nin0))).ext E98).other W103 (Or.inr (sn81 hw))).keep K121 nin0).keep K126 (ninS ne129 nin0)).other W177 (Or.inl (Ne.symm ne172))).keep K192 (ninS ne129 nin0)).other W237 (Or.inl (Ne.symm ne172))).ext E244).ext E248).ext E252)
  have f254 := ((((f212.wr W237).ext E244).ext E248).ext E252)
  obtain ⟨T255, h255, X255, e255, W255, st255⟩ := putF X252 hx hZ hown (host := "") (Or.inl (w_ hw 415 rfl)) Via.refl e252 f253 f254 (Or.inr ⟨(w_ hw 416 rfl), rfl, hnm⟩) (w_ hw 214 rfl) (ty := (.array .int)) (by decide) rfl rfl (g := (mkF m 280 #[vr r0, vr r1, vr r2, vi (((0 : Int32) + i7) + i10), vr b244, vr b248, vi 0] [(.ref b252), (.ref r0)])) rfl rfl (D d31_280)
  have N255 := Fr.snoc X255 N251 ge0
  have k255 := k252.wr W255 (Or.inl (List.mem_of_getElem? (i := 0) rfl))
  have v255 := f253.same W255
  have pre256 : ∀ t, SA p e below T255 m 289 #[vr r0, vr r1, vr r2, vi (((0 : Int32) + i7) + i10), vr b244, vr b248, vi 0] [(.ref r0), (.ref b244), (.ref b248), (.ref r0)] t → Steps p.tables e below E0 t := fun tt kk => pre0 tt (by
    show SA p e below s₁ m 0 #[vr r0, vr r1, vr r2, un, un, un, un] [] _
    refine XS.aloadN X0.here hx rfl (D d31_0) rfl rfl ?_
    refine st1 _ ?_
    refine XS.aloadN X1.here hx rfl (D d31_4) rfl rfl ?_
    refine st2 _ ?_
    refine XS.dup X2.here hx rfl (D d31_8) rfl rfl ?_
    refine st3 _ ?_
    refine st8 _ ?_
    refine XS.iconst X8.here hx rfl (D d31_15) ?_
    refine XS.istoreN X8.here hx rfl (D d31_16) rfl (l' := #[vr r0, vr r1, vr r2, vi 0, un, un, un]) rfl ?_
    refine XS.aloadN X8.here hx rfl (D d31_17) rfl rfl ?_
    refine st17 _ ?_
    refine st19 _ ?_
    refine XS.astore X19.here hx rfl (D d31_28) rfl rfl (l' := #[vr r0, vr r1, vr r2, vi 0, vr b19_0, un, un]) rfl ?_
    refine XS.aload X19.here hx rfl (D d31_30) rfl rfl ?_
    refine st20 _ ?_
    refine XS.ifNo X20.here hx rfl (D d31_37) rfl ((if0 _ _).trans (feq (by decide : ¬ ((1 : Int32) = (0 : Int32)))).1) ?_
    refine XS.aload X20.here hx rfl (D d31_40) rfl rfl ?_
    refine st24 _ ?_
    refine st26 _ ?_
    refine XS.astore X26.here hx rfl (D d31_50) rfl rfl (l' := #[vr r0, vr r1, vr r2, vi 0, vr b19_0, vr r3, un]) rfl ?_
    refine XS.aloadN X26.here hx rfl (D d31_52) rfl rfl ?_
    refine st31 _ ?_
    refine XS.aload X31.here hx rfl (D d31_56) rfl rfl ?_
    refine st33 _ ?_
    refine st35 _ ?_
    refine XS.iloadN X35.here hx rfl (D d31_66) rfl ?_
    refine st36 _ ?_
    refine st46 _ ?_
    refine XS.pop X46.here hx rfl (D d31_75) rfl rfl ?_
    refine XS.iloadN X46.here hx rfl (D d31_76) rfl ?_
    refine XS.aload X46.here hx rfl (D d31_77) rfl rfl ?_
    refine st49 _ ?_
    refine st51 _ ?_
    refine st53 _ ?_
    refine XS.iadd X53.here hx rfl (D d31_92) rfl ?_
    refine XS.istoreN X53.here hx rfl (D d31_93) rfl (l' := #[vr r0, vr r1, vr r2, vi ((0 : Int32) + i7), vr b19_0, vr r3, un]) rfl ?_
    refine XS.goto X53.here hx rfl (pc0 := 94) (pc' := 30) rfl (D d31_94) (by decide) (by decide) ?_
    refine XS.aload X53.here hx rfl (D d31_30) rfl rfl ?_
    refine st56 _ ?_
    refine XS.ifNo X56.here hx rfl (D d31_37) rfl ((if0 _ _).trans (feq (by decide : ¬ ((1 : Int32) = (0 : Int32)))).1) ?_
    refine XS.aload X56.here hx rfl (D d31_40) rfl rfl ?_
    refine st66 _ ?_
    refine st68 _ ?_
    refine XS.astore X68.here hx rfl (D d31_50) rfl rfl (l' := #[vr r0, vr r1, vr r2, vi ((0 : Int32) + i7), vr b19_0, vr r4, un]) rfl ?_
    refine XS.aloadN X68.here hx rfl (D d31_52) rfl rfl ?_
    refine st70 _ ?_
    refine XS.aload X70.here hx rfl (D d31_56) rfl rfl ?_
    refine st72 _ ?_
    refine st74 _ ?_
    refine XS.iloadN X74.here hx rfl (D d31_66) rfl ?_
    refine st75 _ ?_
    refine st87 _ ?_
    refine XS.pop X87.here hx rfl (D d31_75) rfl rfl ?_
    refine XS.iloadN X87.here hx rfl (D d31_76) rfl ?_
    refine XS.aload X87.here hx rfl (D d31_77) rfl rfl ?_
    refine st90 _ ?_
    refine st92 _ ?_
    refine st94 _ ?_
    refine XS.iadd X94.here hx rfl (D d31_92) rfl ?_
    refine XS.istoreN X94.here hx rfl (D d31_93) rfl (l' := #[vr r0, vr r1, vr r2, vi (((0 : Int32) + i7) + i10), vr b19_0, vr r4, un]) rfl ?_
    refine XS.goto X94.here hx rfl (pc0 := 94) (pc' := 30) rfl (D d31_94) (by decide) (by decide) ?_
    refine XS.aload X94.here hx rfl (D d31_30) rfl rfl ?_
    refine st97 _ ?_
    refine XS.ifYes X97.here hx rfl (pc0 := 37) (pc' := 97) rfl (D d31_37) rfl ((if0 _ _).trans (teq (by decide : ((0 : Int32) = (0 : Int32)))).1) (by decide) (by decide) ?_
    refine XS.aloadN X97.here hx rfl (D d31_97) rfl rfl ?_
    refine XS.iloadN X97.here hx rfl (D d31_98) rfl ?_
    refine st98 _ ?_
    refine st103 _ ?_
    refine XS.aloadN X103.here hx rfl (D d31_104) rfl rfl ?_
    refine st109 _ ?_
    refine st121 _ ?_
    refine XS.astore X121.here hx rfl (D d31_115) rfl rfl (l' := #[vr r0, vr r1, vr r2, vi (((0 : Int32) + i7) + i10), vr b121_0, vr r4, un]) rfl ?_
    refine XS.aload X121.here hx rfl (D d31_117) rfl rfl ?_
    refine st122 _ ?_
    refine XS.ifNo X122.here hx rfl (D d31_124) rfl ((if0 _ _).trans (feq (by decide : ¬ ((1 : Int32) = (0 : Int32)))).1) ?_
    refine XS.aload X122.here hx rfl (D d31_127) rfl rfl ?_
    refine st126 _ ?_
    refine st128 _ ?_
    refine XS.astore X128.here hx rfl (D d31_137) rfl rfl (l' := #[vr r0, vr r1, vr r2, vi (((0 : Int32) + i7) + i10), vr b121_0, vr r3, un]) rfl ?_
    refine XS.aloadN X128.here hx rfl (D d31_139) rfl rfl ?_
    refine st133 _ ?_
    refine XS.aloadN X133.here hx rfl (D d31_143) rfl rfl ?_
    refine st135 _ ?_
    refine XS.aload X135.here hx rfl (D d31_147) rfl rfl ?_
    refine st137 _ ?_
    refine st156 _ ?_
    refine st158 _ ?_
    refine st165 _ ?_
    refine XS.aload X165.here hx rfl (D d31_165) rfl rfl ?_
    refine st167 _ ?_
    refine st169 _ ?_
    refine st171 _ ?_
    refine XS.iadd X171.here hx rfl (D d31_180) rfl ?_
    refine XS.iconst X171.here hx rfl (D d31_181) ?_
    refine XS.isub X171.here hx rfl (D d31_182) rfl ?_
    refine XS.iconst X171.here hx rfl (D d31_183) ?_
    refine st177 _ ?_
    refine XS.goto X177.here hx rfl (pc0 := 185) (pc' := 117) rfl (D d31_185) (by decide) (by decide) ?_
    refine XS.aload X177.here hx rfl (D d31_117) rfl rfl ?_
    refine st180 _ ?_
    refine XS.ifNo X180.here hx rfl (D d31_124) rfl ((if0 _ _).trans (feq (by decide : ¬ ((1 : Int32) = (0 : Int32)))).1) ?_
    refine XS.aload X180.here hx rfl (D d31_127) rfl rfl ?_
    refine st192 _ ?_
    refine st194 _ ?_
    refine XS.astore X194.here hx rfl (D d31_137) rfl rfl (l' := #[vr r0, vr r1, vr r2, vi (((0 : Int32) + i7) + i10), vr b121_0, vr r4, un]) rfl ?_
    refine XS.aloadN X194.here hx rfl (D d31_139) rfl rfl ?_
    refine st196 _ ?_
    refine XS.aloadN X196.here hx rfl (D d31_143) rfl rfl ?_
    refine st198 _ ?_
    refine XS.aload X198.here hx rfl (D d31_147) rfl rfl ?_
    refine st200 _ ?_
    refine st219 _ ?_
    refine st221 _ ?_
    refine st228 _ ?_
    refine XS.aload X228.here hx rfl (D d31_165) rfl rfl ?_
    refine st230 _ ?_
    refine st232 _ ?_
    refine st234 _ ?_
    refine XS.iadd X234.here hx rfl (D d31_180) rfl ?_
    refine XS.iconst X234.here hx rfl (D d31_181) ?_
    refine XS.isub X234.here hx rfl (D d31_182) rfl ?_
    refine XS.iconst X234.here hx rfl (D d31_183) ?_
    refine st237 _ ?_
    refine XS.goto X237.here hx rfl (pc0 := 185) (pc' := 117) rfl (D d31_185) (by decide) (by decide) ?_
    refine XS.aload X237.here hx rfl (D d31_117) rfl rfl ?_
    refine st240 _ ?_
    refine XS.ifYes X240.here hx rfl (pc0 := 124) (pc' := 188) rfl (D d31_124) rfl ((if0 _ _).trans (teq (by decide : ((0 : Int32) = (0 : Int32)))).1) (by decide) (by decide) ?_
    refine XS.aloadN X240.here hx rfl (D d31_188) rfl rfl ?_
    refine st243 _ ?_
    refine st244 _ ?_
    refine XS.astore X244.here hx rfl (D d31_196) rfl rfl (l' := #[vr r0, vr r1, vr r2, vi (((0 : Int32) + i7) + i10), vr b244, vr r4, un]) rfl ?_
    refine XS.aloadN X244.here hx rfl (D d31_198) rfl rfl ?_
    refine st247 _ ?_
    refine st248 _ ?_
    refine XS.astore X248.here hx rfl (D d31_206) rfl rfl (l' := #[vr r0, vr r1, vr r2, vi (((0 : Int32) + i7) + i10), vr b244, vr b248, un]) rfl ?_
    refine XS.iconst X248.here hx rfl (D d31_208) ?_
    refine XS.istore X248.here hx rfl (D d31_209) rfl (l' := #[vr r0, vr r1, vr r2, vi (((0 : Int32) + i7) + i10), vr b244, vr b248, vi 0]) rfl ?_
    refine XS.iload X248.here hx rfl (D d31_211) rfl ?_
    refine XS.aloadN X248.here hx rfl (D d31_213) rfl rfl ?_
    refine st251 _ ?_
    refine XS.icmpYes X251.here hx rfl (pc0 := 219) (pc' := 274) rfl (D d31_219) rfl (flt (by decide : ¬ ((0 : Int32) < (0 : Int32)))).2.1 (by decide) (by decide) ?_
    refine XS.aloadN X251.here hx rfl (D d31_274) rfl rfl ?_
    refine XS.iloadN X251.here hx rfl (D d31_275) rfl ?_
    refine XS.iconst X251.here hx rfl (D d31_276) ?_
    refine XS.iadd X251.here hx rfl (D d31_277) rfl ?_
    refine st252 _ ?_
    refine st255 _ ?_
    refine XS.aloadN X255.here hx rfl (D d31_283) rfl rfl ?_
    refine XS.aload X255.here hx rfl (D d31_284) rfl rfl ?_
    refine XS.aload X255.here hx rfl (D d31_286) rfl rfl ?_
    refine XS.aloadN X255.here hx rfl (D d31_288) rfl rfl ?_
    exact kk)
  obtain ⟨T257, X257, e257, st257⟩ := gF X255 hx hZ hown (w_ hw 415 rfl) Via.refl e255 v255 (g := (mkF m 289 #[vr r0, vr r1, vr r2, vi (((0 : Int32) + i7) + i10), vr b244, vr b248, vi 0] [(.ref r0), (.ref b244), (.ref b248), (.ref r0)])) rfl rfl (D d31_289)
  have f259 := (((B244.ext E248).ext E252).wr W255)
  have f260 := (f254.wr W255)
  have ne258 : b244 ≠ r0 := Exa.ne f259 f260 (by decide)
  have f261 := (((v244.ext E248).ext E252).other W255 ne258)
  have f262 := (B252.wr W255)
  have ne263 : b252 ≠ r0 := Exa.ne f262 f260 (by decide)
  have f264 := (v252.other W255 ne263)
  have f266 := ((B248.ext E252).wr W255)
  have ne265 : b248 ≠ r0 := Exa.ne f266 f260 (by decide)
  have f267 := ((v248.ext E252).other W255 ne265)
  have ne268 : b248 ≠ b252 := Nat.ne_of_lt (Nat.lt_of_lt_of_le B248.lt (Nat.le_of_eq g252.symm))
  obtain ⟨v269, T269, L269, X269, Q269, st269⟩ := kS X257 hx hZ hown (t69 hw SB0 b248 b244 b252 c244 c252 ((((0 : Int32) + i7) + i10) + (1 : Int32)) c248 (O0.keep k255 hws) f261 f262 f264 (bd_suc (bd2 q23 q28)) f267 f266 ne268 (Nat.le_trans Z0 z252)) (w_ hw 417 rfl) (w_ hw 418 rfl) (w_ hw 215 rfl) (w_ hw 419 rfl) e257 (g := (mkF m 292 #[vr r0, vr r1, vr r2, vi (((0 : Int32) + i7) + i10), vr b244, vr b248, vi 0] [(.ref b252), (.ref b244), (.ref b248), (.ref r0)])) rfl hml rfl (argsL := [(.ref b248), (.ref b244), (.ref b252)]) (rest := [(.ref r0)]) (lenOf pd33 rfl) rfl rfl (W := 1) rfl (D d31_292)
  obtain ⟨h269, e269⟩ : ∃ z, T269.heap = z := ⟨_, rfl⟩
  rw [e269] at Q269
  obtain ⟨b269_0, c269_1, rfl, M269, K269, y269_0, F269_0, F269_1, F269_2⟩ := Q269
  have N269 := N255.app M269
  have z269_b269_0 := Nat.le_trans k255.1 y269_0
  have k269 := k255.trans K269 (allS (Or.inr z252) all0)
  have f270 := (((((((((((((((((((((((q4.ext E2).keep K3 (ninS ne4 nin0)).other W8 (Or.inr (sn82 hw))).keep K17 (ninS (Ne.symm ne12) nin0)).keep K19 nin0).keep K24 (ninS ne27 nin0)).keep K36 nin0).keep K46 (ninS ne4 nin0)).keep K66 (ninS ne27 nin0)).keep K75 nin0).keep K87 (ninS ne99 (ninS ne4 nin0))).ext E98).other W103 (Or.inr (sn83 hw))).keep K121 nin0).keep K126 (ninS ne129 nin0)).other W177 (Or.inl (Ne.symm ne172))).keep K192 (ninS ne129 nin0)).other W237 (Or.inl (Ne.symm ne172))).ext E244).ext E248).ext E252).other W255 (Or.inr (sn84 hw))).keep K269 (ninS (Ne.symm ne263) nin0))
  have f271 := (f260.keep K269)
  obtain ⟨T272, h272, X272, e272, W272, st272⟩ := putF X269 hx hZ hown (host := "") (Or.inl (w_ hw 429 rfl)) Via.refl e269 f270 f271 (Or.inr ⟨(w_ hw 430 rfl), rfl, hnm⟩) (w_ hw 214 rfl) (ty := (.array .int)) (by decide) rfl rfl (g := (mkF m 295 #[vr r0, vr r1, vr r2, vi (((0 : Int32) + i7) + i10), vr b244, vr b248, vi 0] [(.ref b269_0), (.ref r0)])) rfl rfl (D d31_295)
  have N272 := Fr.snoc X272 N269 ge0
  have k272 := k269.wr W272 (Or.inl (List.mem_of_getElem? (i := 0) rfl))
  have v272 := f270.same W272
  obtain ⟨T273, h273, c273, X273, e273, E273, A273, B273, st273⟩ := newPE X272 hx hZ (w_ hw 414 rfl) e272 (g := (mkF m 302 #[vr r0, vr r1, vr r2, vi (((0 : Int32) + i7) + i10), vr b244, vr b248, vi 0] [(.int ((((0 : Int32) + i7) + i10) + (1 : Int32))), (.ref r0)])) rfl (D d31_302) rfl (bd_nn1 (bd2 q23 q28)) (cap := 13) (bd_cap1 (bd2 q23 q28)) (by decide) (by decide) (by decide) (ad := "[I") (by decide)
  obtain ⟨b273, g273⟩ : ∃ z, z = h272.size := ⟨_, rfl⟩
  rw [← g273] at A273 B273 st273
  have z273 : h0.size ≤ b273 := Nat.le_trans k272.1 (Nat.le_of_eq g273.symm)
  have k273 := k272.ext E273
  have v273 : Arv Z h273 b273 c273 .int ((((0 : Int32) + i7) + i10) + (1 : Int32)) [] (.int 0) := Arv.new A273 (bd_nn1 (bd2 q23 q28))
  have f274 := (((((((((((((((((((((((((q5.ext E2).keep K3 (ninS ne4 nin0)).other W8 (Or.inr (sn85 hw))).keep K17 (ninS (Ne.symm ne12) nin0)).keep K19 nin0).keep K24 (ninS ne27 nin0)).keep K36 nin0).keep K46 (ninS ne4 nin0)).keep K66 (ninS ne27 nin0)).keep K75 nin0).keep K87 (ninS ne99 (ninS ne4 nin0))).ext E98).other W103 (Or.inr (sn86 hw))).keep K121 nin0).keep K126 (ninS ne129 nin0)).other W177 (Or.inl (Ne.symm ne172))).keep K192 (ninS ne129 nin0)).other W237 (Or.inl (Ne.symm ne172))).ext E244).ext E248).ext E252).other W255 (Or.inr (sn87 hw))).keep K269 (ninS (Ne.symm ne263) nin0)).other W272 (Or.inr (sn88 hw))).ext E273)
  have f275 := ((f271.wr W272).ext E273)
  obtain ⟨T276, h276, X276, e276, W276, st276⟩ := putF X273 hx hZ hown (host := "") (Or.inl (w_ hw 431 rfl)) Via.refl e273 f274 f275 (Or.inr ⟨(w_ hw 432 rfl), rfl, hnm⟩) (w_ hw 214 rfl) (ty := (.array .int)) (by decide) rfl rfl (g := (mkF m 304 #[vr r0, vr r1, vr r2, vi (((0 : Int32) + i7) + i10), vr b244, vr b248, vi 0] [(.ref b273), (.ref r0)])) rfl rfl (D d31_304)
  have N276 := Fr.snoc X276 N272 ge0
  have k276 := k273.wr W276 (Or.inl (List.mem_of_getElem? (i := 0) rfl))
  have v276 := f274.same W276
  obtain ⟨T277, X277, e277, st277⟩ := gF X276 hx hZ hown (w_ hw 431 rfl) Via.refl e276 v276 (g := (mkF m 313 #[vr r0, vr r1, vr r2, vi (((0 : Int32) + i7) + i10), vr b244, vr b248, vi 0] [(.ref r0), (.ref b248), (.ref b244), (.ref r0)])) rfl rfl (D d31_313)
  have f278 := ((((f267.keep K269 (ninS ne268 nin0)).other W272 ne265).ext E273).other W276 ne265)
  have f279 := (B273.wr W276)
  have f281 := (f275.wr W276)
  have ne280 : b273 ≠ r0 := Exa.ne f279 f281 (by decide)
  have f282 := (v273.other W276 ne280)
  have ne283 : b244 ≠ b252 := Nat.ne_of_lt (Nat.lt_of_lt_of_le (B244.ext E248).lt (Nat.le_of_eq g252.symm))
  have f284 := ((((f261.keep K269 (ninS ne283 nin0)).other W272 ne258).ext E273).other W276 ne258)
  have f285 := ((((f259.keep K269).wr W272).ext E273).wr W276)
  have ne286 : b244 ≠ b273 := Nat.ne_of_lt (Nat.lt_of_lt_of_le ((f259.keep K269).wr W272).lt (Nat.le_of_eq g273.symm))
  obtain ⟨v287, T287, L287, X287, Q287, st287⟩ := kS X277 hx hZ hown (t69 hw SB0 b244 b248 b273 c248 c273 ((((0 : Int32) + i7) + i10) + (1 : Int32)) c244 (O0.keep k276 hws) f278 f279 f282 (bd_suc (bd2 q23 q28)) f284 f285 ne286 (Nat.le_trans Z0 z273)) (w_ hw 417 rfl) (w_ hw 418 rfl) (w_ hw 215 rfl) (w_ hw 419 rfl) e277 (g := (mkF m 316 #[vr r0, vr r1, vr r2, vi (((0 : Int32) + i7) + i10), vr b244, vr b248, vi 0] [(.ref b273), (.ref b248), (.ref b244), (.ref r0)])) rfl hml rfl (argsL := [(.ref b244), (.ref b248), (.ref b273)]) (rest := [(.ref r0)]) (lenOf pd33 rfl) rfl rfl (W := 1) rfl (D d31_316)
  obtain ⟨h287, e287⟩ : ∃ z, T287.heap = z := ⟨_, rfl⟩
  rw [e287] at Q287
  obtain ⟨b287_0, c287_1, rfl, M287, K287, y287_0, F287_0, F287_1, F287_2⟩ := Q287
  have N287 := N276.app M287
  have z287_b287_0 := Nat.le_trans k276.1 y287_0
  have k287 := k276.trans K287 (allS (Or.inr z273) all0)
  have f288 := (((((((((((((((((((((((((((q6.ext E2).keep K3 (ninS ne4 nin0)).other W8 (Or.inr (sn89 hw))).keep K17 (ninS (Ne.symm ne12) nin0)).keep K19 nin0).keep K24 (ninS ne27 nin0)).keep K36 nin0).keep K46 (ninS ne4 nin0)).keep K66 (ninS ne27 nin0)).keep K75 nin0).keep K87 (ninS ne99 (ninS ne4 nin0))).ext E98).other W103 (Or.inr (sn90 hw))).keep K121 nin0).keep K126 (ninS ne129 nin0)).other W177 (Or.inl (Ne.symm ne172))).keep K192 (ninS ne129 nin0)).other W237 (Or.inl (Ne.symm ne172))).ext E244).ext E248).ext E252).other W255 (Or.inr (sn91 hw))).keep K269 (ninS (Ne.symm ne263) nin0)).other W272 (Or.inr (sn92 hw))).ext E273).other W276 (Or.inr (sn93 hw))).keep K287 (ninS (Ne.symm ne280) nin0))
  have f289 := (f281.keep K287)
  obtain ⟨T290, h290, X290, e290, W290, st290⟩ := putF X287 hx hZ hown (host := "") (Or.inl (w_ hw 433 rfl)) Via.refl e287 f288 f289 (Or.inr ⟨(w_ hw 434 rfl), rfl, hnm⟩) (w_ hw 214 rfl) (ty := (.array .int)) (by decide) rfl rfl (g := (mkF m 319 #[vr r0, vr r1, vr r2, vi (((0 : Int32) + i7) + i10), vr b244, vr b248, vi 0] [(.ref b287_0), (.ref r0)])) rfl rfl (D d31_319)
  have N290 := Fr.snoc X290 N287 ge0
  have k290 := k287.wr W290 (Or.inl (List.mem_of_getElem? (i := 0) rfl))
  have v290 := f288.same W290
  have f291 := (((((((((((f195.other W237 (Or.inl (Ne.symm ne172))).ext E244).ext E248).ext E252).other W255 (Or.inr (Ne.symm (sn81 hw)))).keep K269 (ninS (Ne.symm ne263) nin0)).other W272 (Or.inr (Ne.symm (sn83 hw)))).ext E273).other W276 (Or.inr (Ne.symm (sn86 hw)))).keep K287 (ninS (Ne.symm ne280) nin0)).other W290 (Or.inr (Ne.symm (sn90 hw))))
  have f292 := (((((((((((f203.wr W237).ext E244).ext E248).ext E252).wr W255).keep K269).wr W272).ext E273).wr W276).keep K287).wr W290)
  have f294 := ((((((f262.keep K269).wr W272).ext E273).wr W276).keep K287).wr W290)
  have ne293 : b98 ≠ b252 := Exa.ne f292 f294 (by decide)
  have f296 := ((f279.keep K287).wr W290)
  have ne295 : b98 ≠ b273 := Exa.ne f292 f296 (by decide)
  have f297 := ((((((((((v237.ext E244).ext E248).ext E252).other W255 ne172).keep K269 (ninS ne293 nin0)).other W272 ne172).ext E273).other W276 ne172).keep K287 (ninS ne295 nin0)).other W290 ne172)
  refine ⟨none, T290, _, _, _, X290, fun _ => rfl, (by rw [e290]; exact ⟨b98, rfl, N290, k290, z98, f291, f292, f297⟩), (by decide), (by decide), fun fs hr => pre256 _ ?_⟩
  show SA p e below T255 m 289 #[vr r0, vr r1, vr r2, vi (((0 : Int32) + i7) + i10), vr b244, vr b248, vi 0] [(.ref r0), (.ref b244), (.ref b248), (.ref r0)] _
  refine st257 _ ?_
  refine st269 _ ?_
  refine st272 _ ?_
  refine XS.aloadN X272.here hx rfl (D d31_298) rfl rfl ?_
  refine XS.iloadN X272.here hx rfl (D d31_299) rfl ?_
  refine XS.iconst X272.here hx rfl (D d31_300) ?_
  refine XS.iadd X272.here hx rfl (D d31_301) rfl ?_
  refine st273 _ ?_
  refine st276 _ ?_
  refine XS.aloadN X276.here hx rfl (D d31_307) rfl rfl ?_
  refine XS.aload X276.here hx rfl (D d31_308) rfl rfl ?_
  refine XS.aload X276.here hx rfl (D d31_310) rfl rfl ?_
  refine XS.aloadN X276.here hx rfl (D d31_312) rfl rfl ?_
  refine st277 _ ?_
  refine st287 _ ?_
  refine st290 _ ?_
  show SA p e below T290 m 322 #[vr r0, vr r1, vr r2, vi (((0 : Int32) + i7) + i10), vr b244, vr b248, vi 0] [] _
  exact X290.returnOut hx hrt (D d31_322) hr
/-- NextStateRelation.isLast#1 -/
theorem t100 (hw : HW a0 Z) (SB0 : SB Z cv de ca) (r0 : Addr) (i1 : Int32) (r2 : Addr) (i3 : Int32) (u4 : Int32 → Int32) (O0 : OL Z n0 h0) (q0 : P24 Z h0 r0 (.ref r2)) (q1 : AB Z h0 r2 i3 u4) (q2 : ¬ i1 < 0) (q3 : i1 < i3) (q4 : u4 i1 = (1 : Int32))  : CT l Z y66 B54 2 (some .boolean) ⟨0, 0, 0, 0⟩ #[(.ref r0), (.int i1)] h0 (QP0 (some (.int 1)) h0 n0) := by
  refine ct_intro ?_
  intro p e s m below meth c s₁ E0 hx D hml hown hnm hrt X0 e0 hZ hE
  have N0 := Fr.nil n0
  have pre0 := ctp #[vr r0, vi i1] hE
  obtain ⟨T1, X1, e1, st1⟩ := gF X0 hx hZ hown (w_ hw 385 rfl) Via.refl e0 q0 (g := (mkF m 1 #[vr r0, vi i1] [(.ref r0)])) rfl rfl (D d54_1)
  obtain ⟨_, Ar2, S2, M2, H2⟩ := id q1
  refine ⟨(some (.int 1)), T1, _, _, _, X1, (fun hh => by cases hh), (by rw [e1]; exact ⟨rfl, N0, rfl⟩), (by decide), (by decide), fun fs hr => pre0 _ ?_⟩
  show SA p e below s₁ m 0 #[vr r0, vi i1] [] _
  refine XS.aloadN X0.here hx rfl (D d54_0) rfl rfl ?_
  refine st1 _ ?_
  refine XS.iloadN X1.here hx rfl (D d54_4) rfl ?_
  refine X1.baloadBooleans hx (j := i1) (v := .int (1 : Int32)) (by rw [e1]; exact Ar2.1) (State.isArrayOf_alike hZ.alike Ar2.2.1) Ar2.2.2 (AB.inb S2 q2 q3) (AB.at H2 q2 q3 q4) (g := (mkF m 5 #[vr r0, vi i1] [(.int i1), (.ref r2)])) rfl rfl (D d54_5) _ ?_
  show SA p e below T1 m 6 #[vr r0, vi i1] [(.int 1)] _
  exact retN X1 hx (t := .boolean) hrt (by simp) (D d54_6) hr
/-- NextStateRelation.isFirst#2 -/
theorem t101 (hw : HW a0 Z) (SB0 : SB Z cv de ca) (r0 : Addr) (i1 : Int32) (r2 : Addr) (i3 : Int32) (u4 : Int32 → Int32) (O0 : OL Z n0 h0) (q0 : ¬ (i1 = (0 : Int32))) (q1 : E_8 Z h0 r0) (q2 : P24 Z h0 r0 (.ref r2)) (q3 : AB Z h0 r2 i3 u4) (q4 : ¬ (i1 - (1 : Int32)) < 0) (q5 : (i1 - (1 : Int32)) < i3) (q6 : u4 (i1 - (1 : Int32)) = (1 : Int32))  : CT l Z y65 B53 2 (some .boolean) ⟨1, 0, 0, 13⟩ #[(.ref r0), (.int i1)] h0 (QP0 (some (.int 1)) h0 n0) := by
  refine ct_intro ?_
  intro p e s m below meth c s₁ E0 hx D hml hown hnm hrt X0 e0 hZ hE
  have Z0 := O0.le
  have K0 := Keep.refl h0 []
  have hws : ∀ w ∈ ([] : List Addr), n0 ≤ w := all0
  have N0 := Fr.nil n0
  have pre0 := ctp #[vr r0, vi i1] hE
  obtain ⟨v1, T1, L1, X1, Q1, st1⟩ := kV (y := y66) (z := y66) X0 hx hZ hown (t100 hw SB0 r0 (i1 - (1 : Int32)) r2 i3 u4 (O0.keep K0 hws) q2 q3 q4 q5 q6) q1 (nf_of (x := y65) (y' := y65) (args := #[]) (mvT hZ (w_ hw 438 rfl)) rfl) (w_ hw 443 rfl) (w_ hw 444 rfl) (w_ hw 446 rfl) (w_ hw 445 rfl) (w_ hw 215 rfl) (w_ hw 447 rfl) e0 (g := (mkF m 8 #[vr r0, vi i1] [(.int (i1 - (1 : Int32))), (.ref r0)])) rfl hml rfl (argsL := [(.int (i1 - (1 : Int32)))]) (rest := []) (lenOf pd35 rfl) rfl rfl (W := 0) rfl (D d53_8)
  obtain ⟨rfl, M1, e1⟩ := Q1
  have N1 := N0.app M1
  refine ⟨(some (.int 1)), T1, _, _, _, X1, (fun hh => by cases hh), (by rw [e1]; exact ⟨rfl, N1, rfl⟩), (by decide), (by decide), fun fs hr => pre0 _ ?_⟩
  show SA p e below s₁ m 0 #[vr r0, vi i1] [] _
  refine XS.iloadN X0.here hx rfl (D d53_0) rfl ?_
  refine XS.ifNo X0.here hx rfl (D d53_1) rfl ((if0 _ _).trans (feq q0).1) ?_
  refine XS.aloadN X0.here hx rfl (D d53_4) rfl rfl ?_
  refine XS.iloadN X0.here hx rfl (D d53_5) rfl ?_
  refine XS.iconst X0.here hx rfl (D d53_6) ?_
  refine XS.isub X0.here hx rfl (D d53_7) rfl ?_
  refine st1 _ ?_
  refine XS.ifNo X1.here hx rfl (D d53_11) rfl ((if0 _ _).trans (feq (by decide : ¬ ((1 : Int32) = (0 : Int32)))).1) ?_
  refine XS.iconst X1.here hx rfl (D d53_14) ?_
  refine XS.goto X1.here hx rfl (pc0 := 15) (pc' := 19) rfl (D d53_15) (by decide) (by decide) ?_
  show SA p e below T1 m 19 #[vr r0, vi i1] [(.int 1)] _
  exact retN X1 hx (t := .boolean) hrt (by simp) (D d53_19) hr
/-- StringLatin1.canEncode#2 -/
theorem t102 (hw : HW a0 Z) (SB0 : SB Z cv de ca)  (O0 : OL Z n0 h0)   : CT l Z y3 B6 1 (some .boolean) ⟨0, 0, 0, 0⟩ #[(.int 99)] h0 (QP0 (some (.int 1)) h0 n0) := by
  refine ct_intro ?_
  intro p e s m below meth c s₁ E0 hx D hml hown hnm hrt X0 e0 hZ hE
  have N0 := Fr.nil n0
  have pre0 := ctp #[vi 99] hE
  refine ⟨(some (.int 1)), s₁, _, _, _, X0, (fun hh => by cases hh), (by rw [e0]; exact ⟨rfl, N0, rfl⟩), (by decide), (by decide), fun fs hr => pre0 _ ?_⟩
  show SA p e below s₁ m 0 #[vi 99] [] _
  refine XS.iloadN X0.here hx rfl (D d6_0) rfl ?_
  refine XS.sipush X0.here hx rfl (D d6_1) ?_
  refine XS.icmpNo X0.here hx rfl (D d6_4) rfl (flt (by decide : ¬ ((255 : Int32) < (99 : Int32)))).2.2.1 ?_
  refine XS.iconst X0.here hx rfl (D d6_7) ?_
  refine XS.goto X0.here hx rfl (pc0 := 8) (pc' := 12) rfl (D d6_8) (by decide) (by decide) ?_
  show SA p e below s₁ m 12 #[vi 99] [(.int 1)] _
  exact retN X0 hx (t := .boolean) hrt (by simp) (D d6_12) hr
def Q103 (Z : State) (cv : Int32) (de ca : Addr)  (h0 : Heap) (n0 : Nat) (v : Option Value) (h : Heap) (L : List Loc) : Prop := ∃ (b1 : Addr) (c1 : ClassId), v = (some (.ref b1)) ∧ Fr n0 L ∧ Keep h0 h [] ∧ h0.size ≤ b1 ∧ E_1 Z h b1 ∧ Arv Z h b1 c1 .byte (1 : Int32) [(.int 99)] (.int 0)
/-- StringLatin1.toBytes#2 -/
theorem t103 (hw : HW a0 Z) (SB0 : SB Z cv de ca)  (O0 : OL Z n0 h0)   : CT l Z y4 B7 1 (some (.array .byte)) ⟨0, 1, 1, 0⟩ #[(.int 99)] h0 (Q103 Z cv de ca  h0 n0) := by
  refine ct_intro ?_
  intro p e s m below meth c s₁ E0 hx D hml hown hnm hrt X0 e0 hZ hE
  have Z0 := O0.le
  have K0 := Keep.refl h0 []
  have hws : ∀ w ∈ ([] : List Addr), n0 ≤ w := all0
  have N0 := Fr.nil n0
  have pre0 := ctp #[vi 99] hE
  obtain ⟨T1, h1, c1, X1, e1, E1, A1, B1, st1⟩ := newPE X0 hx hZ (w_ hw 43 rfl) e0 (g := (mkF m 1 #[vi 99] [(.int 1)])) rfl (D d7_1) rfl (by decide) (cap := 1) (by decide) (by decide) (by decide) (by decide) (ad := "[B") (by decide)
  obtain ⟨b1, g1⟩ : ∃ z, z = h0.size := ⟨_, rfl⟩
  rw [← g1] at A1 B1 st1
  have z1 : h0.size ≤ b1 := Nat.le_trans K0.1 (Nat.le_of_eq g1.symm)
  have k1 := K0.ext E1
  have v1 : Arv Z h1 b1 c1 .byte (1 : Int32) [(.int 0)] (.int 0) := (Arv.new A1 (by decide)).pad (pad_rep [] (.int 0) 1)
  obtain ⟨_, Ar2, C2, S2, M2, H2, G2⟩ := id v1
  obtain ⟨T3, h3, X3, e3, W3, st3⟩ := stB X1 hx hZ e1 Ar2 (j := (0 : Int32)) (inb_of S2 ⟨by decide, by decide⟩) (g := (mkF m 7 #[vi 99] [(.int 99), (.int 0), (.ref b1), (.ref b1)])) rfl rfl (D d7_7)
  have N3 := Fr.snoc X3 N0 (Nat.le_trans Z0 z1)
  have k3 := k1.wr W3 (Or.inr z1)
  have v3 : Arv Z h3 b1 c1 .byte (1 : Int32) [(.int 99)] (.int 0) := Arv.set Ar2 C2 S2 M2 H2 G2 rfl W3 0 rfl (by show 0 < 1; decide)
  have f4 := (B1.wr W3)
  refine ⟨(some (.ref b1)), T3, _, _, _, X3, (fun hh => by cases hh), (by rw [e3]; exact ⟨b1, c1, rfl, N3, k3, z1, f4, v3⟩), (by decide), (by decide), fun fs hr => pre0 _ ?_⟩
  show SA p e below s₁ m 0 #[vi 99] [] _
  refine XS.iconst X0.here hx rfl (D d7_0) ?_
  refine st1 _ ?_
  refine XS.dup X1.here hx rfl (D d7_3) rfl rfl ?_
  refine XS.iconst X1.here hx rfl (D d7_4) ?_
  refine XS.iloadN X1.here hx rfl (D d7_5) rfl ?_
  refine XS.i2b X1.here hx rfl (D d7_6) rfl ?_
  refine st3 _ ?_
  show SA p e below T3 m 8 #[vi 99] [(.ref b1)] _
  exact retOut X3 hx hrt rfl (Or.inr (Or.inr (Or.inr (Or.inr ⟨rfl, rfl, rfl⟩)))) (D d7_8) hr
def Q104 (Z : State) (cv : Int32) (de ca : Addr)  (h0 : Heap) (n0 : Nat) (v : Option Value) (h : Heap) (L : List Loc) : Prop := ∃ (b3 b4_0 : Addr) (c4_1 : ClassId), v = (some (.ref b3)) ∧ Fr n0 L ∧ Keep h0 h [] ∧ h0.size ≤ b3 ∧ h0.size ≤ b4_0 ∧ E_2 Z h b3 ∧ P10 Z h b3 (.ref b4_0) ∧ P11 Z h b3 (.int 0) ∧ P12 Z h b3 (.int 0) ∧ P13 Z h b3 (.int 0) ∧ E_1 Z h b4_0 ∧ Arv Z h b4_0 c4_1 .byte (1 : Int32) [(.int 99)] (.int 0)
/-- String.valueOf#2 -/
theorem t104 (hw : HW a0 Z) (SB0 : SB Z cv de ca)  (O0 : OL Z n0 h0)   : CT l Z y6 B5 1 (some (.object "java/lang/String")) ⟨2, 2, 5, 27⟩ #[(.int 99)] h0 (Q104 Z cv de ca  h0 n0) := by
  refine ct_intro ?_
  intro p e s m below meth c s₁ E0 hx D hml hown hnm hrt X0 e0 hZ hE
  have Z0 := O0.le
  have K0 := Keep.refl h0 []
  have hws : ∀ w ∈ ([] : List Addr), n0 ≤ w := all0
  have N0 := Fr.nil n0
  have pre0 := ctp #[vi 99] hE
  obtain ⟨T1, X1, e1, st1⟩ := getS2 X0 hx hZ hown (host := "") (Or.inl (w_ hw 33 rfl)) Via.refl e0 (SB0.1.ext (O0.keep K0 hws).2) (g := (mkF m 0 #[vi 99] [])) rfl (D d5_0)
  obtain ⟨v2, T2, L2, X2, Q2, st2⟩ := kS X1 hx hZ hown (t102 hw SB0  (O0.keep K0 hws) ) (w_ hw 34 rfl) (w_ hw 35 rfl) (w_ hw 36 rfl) (w_ hw 37 rfl) e1 (g := (mkF m 7 #[vi 99] [(.int 99)])) rfl hml rfl (argsL := [(.int 99)]) (rest := []) (lenOf pd1 rfl) rfl rfl (W := 0) rfl (D d5_7)
  obtain ⟨rfl, M2, e2⟩ := Q2
  have N2 := N0.app M2
  obtain ⟨T3, h3, X3, e3, E3, A3, D3, -, st3⟩ := newO X2 hx hZ hown (w_ hw 38 rfl) (w_ hw 39 rfl) (w_ hw 31 rfl) e2 (g := (mkF m 13 #[vi 99] [])) rfl (D d5_13) (by decide) (by decide)
  obtain ⟨b3, g3⟩ : ∃ z, z = h0.size := ⟨_, rfl⟩
  rw [← g3] at A3 D3 st3
  have z3 : h0.size ≤ b3 := Nat.le_trans K0.1 (Nat.le_of_eq g3.symm)
  have k3 := K0.ext E3
  have F3_50 : P10 Z h3 b3 .null := D3 (Or.inr (w_ hw 50 rfl)) (ty := (.array .byte)) (by decide)
  have F3_52 : P11 Z h3 b3 (.int 0) := D3 (Or.inr (w_ hw 52 rfl)) (ty := .byte) (by decide)
  have F3_134 : P12 Z h3 b3 (.int 0) := D3 (Or.inl (w_ hw 134 rfl)) (ty := .int) (by decide)
  have F3_136 : P13 Z h3 b3 (.int 0) := D3 (Or.inl (w_ hw 136 rfl)) (ty := .boolean) (by decide)
  obtain ⟨v4, T4, L4, X4, Q4, st4⟩ := kS X3 hx hZ hown (t103 hw SB0  (O0.keep k3 hws) ) (w_ hw 40 rfl) (w_ hw 41 rfl) (w_ hw 36 rfl) (w_ hw 42 rfl) e3 (g := (mkF m 18 #[vi 99] [(.int 99), (.ref b3), (.ref b3)])) rfl hml rfl (argsL := [(.int 99)]) (rest := [(.ref b3), (.ref b3)]) (lenOf pd2 rfl) rfl rfl (W := 2) rfl (D d5_18)
  obtain ⟨h4, e4⟩ : ∃ z, T4.heap = z := ⟨_, rfl⟩
  rw [e4] at Q4
  obtain ⟨b4_0, c4_1, rfl, M4, K4, y4_0, F4_0, F4_1⟩ := Q4
  have N4 := N2.app M4
  have z4_b4_0 := Nat.le_trans k3.1 y4_0
  have k4 := k3.trans K4 all0
  have f5 := (A3.keep K4)
  have f6 := (F3_50.keep K4 nin0)
  have f7 := (F3_52.keep K4 nin0)
  have f8 := (F3_134.keep K4 nin0)
  have f9 := (F3_136.keep K4 nin0)
  obtain ⟨v10, T10, L10, X10, Q10, st10⟩ := kI X4 hx hZ hown (t6 hw SB0 b3 b4_0 (O0.keep k4 hws) f5 f6 f7 f8 f9 (Nat.le_trans Z0 z3)) rfl (w_ hw 44 rfl) (w_ hw 45 rfl) (w_ hw 31 rfl) (w_ hw 47 rfl) e4 (g := (mkF m 22 #[vi 99] [(.int 0), (.ref b4_0), (.ref b3), (.ref b3)])) rfl hml rfl (argsL := [(.ref b4_0), (.int 0)]) (rest := [(.ref b3)]) (lenOf pd3 rfl) rfl rfl (W := 1) rfl (D d5_22)
  obtain ⟨h10, e10⟩ : ∃ z, T10.heap = z := ⟨_, rfl⟩
  rw [e10] at Q10
  obtain ⟨rfl, M10, K10, F10_0, F10_1, F10_2, F10_3⟩ := Q10
  have N10 := N4.app M10
  have k10 := k4.trans K10 (allS (Or.inr z3) all0)
  have f11 := (f5.keep K10)
  have f12 := (F4_0.keep K10)
  have ne13 : b4_0 ≠ b3 := Exa.ne f12 f11 (by decide)
  have f14 := (F4_1.keep K10 (ninS ne13 nin0))
  refine ⟨(some (.ref b3)), T10, _, _, _, X10, (fun hh => by cases hh), (by rw [e10]; exact ⟨b3, b4_0, c4_1, rfl, N10, k10, z3, z4_b4_0, f11, F10_0, F10_1, F10_2, F10_3, f12, f14⟩), (by decide), (by decide), fun fs hr => pre0 _ ?_⟩
  show SA p e below s₁ m 0 #[vi 99] [] _
  refine st1 _ ?_
  refine XS.ifNo X1.here hx rfl (D d5_3) rfl ((if0 _ _).trans (feq SB0.2.1).1) ?_
  refine XS.iloadN X1.here hx rfl (D d5_6) rfl ?_
  refine st2 _ ?_
  refine XS.ifNo X2.here hx rfl (D d5_10) rfl ((if0 _ _).trans (feq (by decide : ¬ ((1 : Int32) = (0 : Int32)))).1) ?_
  refine st3 _ ?_
  refine XS.dup X3.here hx rfl (D d5_16) rfl rfl ?_
  refine XS.iloadN X3.here hx rfl (D d5_17) rfl ?_
  refine st4 _ ?_
  refine XS.iconst X4.here hx rfl (D d5_21) ?_
  refine st10 _ ?_
  show SA p e below T10 m 25 #[vi 99] [(.ref b3)] _
  exact retOut X10 hx hrt rfl (Or.inr (Or.inr (Or.inr (Or.inr ⟨rfl, rfl, rfl⟩)))) (D d5_25) hr
/-- StringLatin1.hashCode#2 -/
theorem t105 (hw : HW a0 Z) (SB0 : SB Z cv de ca) (r0 : Addr) (k1 : ClassId) (O0 : OL Z n0 h0) (q0 : Arv Z h0 r0 k1 .byte (1 : Int32) [(.int 99)] (.int 0))  : CT l Z y20 B22 1 (some .int) ⟨0, 0, 0, 0⟩ #[(.ref r0)] h0 (QP0 (some (.int 99)) h0 n0) := by
  refine ct_intro ?_
  intro p e s m below meth c s₁ E0 hx D hml hown hnm hrt X0 e0 hZ hE
  have N0 := Fr.nil n0
  have pre0 := ctp #[vr r0] hE
  obtain ⟨_, Ar1, -, S1, M1, -, -⟩ := id q0
  obtain ⟨_, Ar2, -, S2, M2, H2, -⟩ := id q0
  refine ⟨(some (.int 99)), s₁, _, _, _, X0, (fun hh => by cases hh), (by rw [e0]; exact ⟨rfl, N0, rfl⟩), (by decide), (by decide), fun fs hr => pre0 _ ?_⟩
  show SA p e below s₁ m 0 #[vr r0] [] _
  refine XS.aloadN X0.here hx rfl (D d22_0) rfl rfl ?_
  refine X0.arraylength hx (by rw [e0]; exact Ar1.1) (State.isArrayOf_alike hZ.alike Ar1.2.1) (g := (mkF m 1 #[vr r0] [(.ref r0)])) rfl rfl (D d22_1) _ ?_
  rw [len_of S1 M1]
  show SA p e below s₁ m 2 #[vr r0] [(.int 1)] _
  refine X0.lookupswitchHit hx (g := (mkF m 2 #[vr r0] [(.int 1)])) rfl rfl (D d22_2) (by decide) (a := 1) (off := 30) (by decide) (by show (0 : Int) ≤ ((2 : Nat) : Int) + 30; decide) _ ?_
  show SA p e below s₁ m 32 #[vr r0] [] _
  refine XS.aloadN X0.here hx rfl (D d22_32) rfl rfl ?_
  refine XS.iconst X0.here hx rfl (D d22_33) ?_
  refine X0.baloadBytes hx (j := (0 : Int32)) (v := (.int 99)) (by rw [e0]; exact Ar2.1) (State.isArrayOf_alike hZ.alike Ar2.2.1) Ar2.2.2 (inb_of S2 ⟨by decide, by decide⟩) (Has.at H2 (inb_of S2 ⟨by decide, by decide⟩) rfl) (g := (mkF m 34 #[vr r0] [(.int 0), (.ref r0)])) rfl rfl (D d22_34) _ ?_
  show SA p e below s₁ m 35 #[vr r0] [(.int 99)] _
  refine XS.sipush X0.here hx rfl (D d22_35) ?_
  refine XS.iand X0.here hx rfl (D d22_38) rfl ?_
  refine XS.goto X0.here hx rfl (pc0 := 39) (pc' := 51) rfl (D d22_39) (by decide) (by decide) ?_
  show SA p e below s₁ m 51 #[vr r0] [(.int 99)] _
  exact retOut X0 hx hrt rfl (Or.inl ⟨rfl, Or.inl rfl, _, rfl⟩) (D d22_51) hr
def Q106 (Z : State) (cv : Int32) (de ca : Addr) (r0 r1 : Addr) (k2 : ClassId) (h0 : Heap) (n0 : Nat) (v : Option Value) (h : Heap) (L : List Loc) : Prop := v = (some (.int 99)) ∧ Fr n0 L ∧ Keep h0 h [r0] ∧ P12 Z h r0 (.int 99) ∧ P13 Z h r0 (.int 0) ∧ P11 Z h r0 (.int 0) ∧ P10 Z h r0 (.ref r1)
/-- String.hashCode#4 -/
theorem t106 (hw : HW a0 Z) (SB0 : SB Z cv de ca) (r0 r1 : Addr) (k2 : ClassId) (O0 : OL Z n0 h0) (q0 : P12 Z h0 r0 (.int 0)) (q1 : P13 Z h0 r0 (.int 0)) (q2 : E_2 Z h0 r0) (q3 : P11 Z h0 r0 (.int 0)) (q4 : P10 Z h0 r0 (.ref r1)) (q5 : Arv Z h0 r1 k2 .byte (1 : Int32) [(.int 99)] (.int 0)) (ge0 : n0 ≤ r0) : CT l Z y19 B20 2 (some .int) ⟨1, 0, 0, 12⟩ #[(.ref r0)] h0 (Q106 Z cv de ca r0 r1 k2 h0 n0) := by
  refine ct_intro ?_
  intro p e s m below meth c s₁ E0 hx D hml hown hnm hrt X0 e0 hZ hE
  have Z0 := O0.le
  have K0 := Keep.refl h0 [r0]
  have hws : ∀ w ∈ ([r0] : List Addr), n0 ≤ w := (allS ge0 all0)
  have N0 := Fr.nil n0
  have pre0 := ctp #[vr r0, un] hE
  obtain ⟨T1, X1, e1, st1⟩ := gF X0 hx hZ hown (w_ hw 133 rfl) Via.refl e0 q0 (g := (mkF m 1 #[vr r0, un] [(.ref r0)])) rfl rfl (D d20_1)
  obtain ⟨T2, X2, e2, st2⟩ := gF X1 hx hZ hown (w_ hw 135 rfl) Via.refl e1 q1 (g := (mkF m 10 #[vr r0, vi 0] [(.ref r0)])) rfl rfl (D d20_10)
  obtain ⟨v3, T3, L3, X3, Q3, st3⟩ := kV (y := y17) (z := y17) X2 hx hZ hown (t26 hw SB0 r0 (O0.keep K0 hws) q3) q2 (nf_of (x := y18) (y' := y19) (args := #[]) (mvT hZ (w_ hw 130 rfl)) rfl) (w_ hw 137 rfl) (w_ hw 138 rfl) (w_ hw 140 rfl) (w_ hw 139 rfl) (w_ hw 31 rfl) (w_ hw 141 rfl) e2 (g := (mkF m 17 #[vr r0, vi 0] [(.ref r0)])) rfl hml rfl (argsL := []) (rest := []) (lenOf pd11 rfl) rfl rfl (W := 0) rfl (D d20_17)
  obtain ⟨rfl, M3, e3⟩ := Q3
  have N3 := N0.app M3
  obtain ⟨T4, X4, e4, st4⟩ := gF X3 hx hZ hown (w_ hw 49 rfl) Via.refl e3 q4 (g := (mkF m 24 #[vr r0, vi 0] [(.ref r0)])) rfl rfl (D d20_24)
  obtain ⟨v5, T5, L5, X5, Q5, st5⟩ := kS X4 hx hZ hown (t105 hw SB0 r1 k2 (O0.keep K0 hws) q5) (w_ hw 142 rfl) (w_ hw 143 rfl) (w_ hw 36 rfl) (w_ hw 144 rfl) e4 (g := (mkF m 27 #[vr r0, vi 0] [(.ref r1)])) rfl hml rfl (argsL := [(.ref r1)]) (rest := []) (lenOf pd12 rfl) rfl rfl (W := 0) rfl (D d20_27)
  obtain ⟨rfl, M5, e5⟩ := Q5
  have N5 := N3.app M5
  obtain ⟨T6, h6, X6, e6, W6, st6⟩ := putF X5 hx hZ hown (host := "") (Or.inl (w_ hw 133 rfl)) Via.refl e5 q0 q2 (Or.inl (w_ hw 134 rfl)) (w_ hw 39 rfl) (ty := .int) (by decide) rfl rfl (g := (mkF m 55 #[vr r0, vi 99] [(.int 99), (.ref r0)])) rfl rfl (D d20_55)
  have N6 := Fr.snoc X6 N5 ge0
  have k6 := K0.wr W6 (Or.inl (List.mem_of_getElem? (i := 0) rfl))
  have v6 := q0.same W6
  have f7 := (q1.other W6 (Or.inr (sn32 hw)))
  have f8 := (q3.other W6 (Or.inr (Ne.symm (sn26 hw))))
  have f9 := (q4.other W6 (Or.inr (Ne.symm (sn25 hw))))
  refine ⟨(some (.int 99)), T6, _, _, _, X6, (fun hh => by cases hh), (by rw [e6]; exact ⟨rfl, N6, k6, v6, f7, f8, f9⟩), (by decide), (by decide), fun fs hr => pre0 _ ?_⟩
  show SA p e below s₁ m 0 #[vr r0, un] [] _
  refine XS.aloadN X0.here hx rfl (D d20_0) rfl rfl ?_
  refine st1 _ ?_
  refine XS.istoreN X1.here hx rfl (D d20_4) rfl (l' := #[vr r0, vi 0]) rfl ?_
  refine XS.iloadN X1.here hx rfl (D d20_5) rfl ?_
  refine XS.ifNo X1.here hx rfl (D d20_6) rfl ((if0 _ _).trans (teq (by decide : ((0 : Int32) = (0 : Int32)))).2) ?_
  refine XS.aloadN X1.here hx rfl (D d20_9) rfl rfl ?_
  refine st2 _ ?_
  refine XS.ifNo X2.here hx rfl (D d20_13) rfl ((if0 _ _).trans (teq (by decide : ((0 : Int32) = (0 : Int32)))).2) ?_
  refine XS.aloadN X2.here hx rfl (D d20_16) rfl rfl ?_
  refine st3 _ ?_
  refine XS.ifNo X3.here hx rfl (D d20_20) rfl ((if0 _ _).trans (feq (by decide : ¬ ((1 : Int32) = (0 : Int32)))).1) ?_
  refine XS.aloadN X3.here hx rfl (D d20_23) rfl rfl ?_
  refine st4 _ ?_
  refine st5 _ ?_
  refine XS.goto X5.here hx rfl (pc0 := 30) (pc' := 40) rfl (D d20_30) (by decide) (by decide) ?_
  refine XS.istoreN X5.here hx rfl (D d20_40) rfl (l' := #[vr r0, vi 99]) rfl ?_
  refine XS.iloadN X5.here hx rfl (D d20_41) rfl ?_
  refine XS.ifYes X5.here hx rfl (pc0 := 42) (pc' := 53) rfl (D d20_42) rfl ((if0 _ _).trans (feq (by decide : ¬ ((99 : Int32) = (0 : Int32)))).2) (by decide) (by decide) ?_
  refine XS.aloadN X5.here hx rfl (D d20_53) rfl rfl ?_
  refine XS.iloadN X5.here hx rfl (D d20_54) rfl ?_
  refine st6 _ ?_
  refine XS.iloadN X6.here hx rfl (D d20_58) rfl ?_
  show SA p e below T6 m 59 #[vr r0, vi 99] [(.int 99)] _
  exact retOut X6 hx hrt rfl (Or.inl ⟨rfl, Or.inl rfl, _, rfl⟩) (D d20_59) hr
def Q107 (Z : State) (cv : Int32) (de ca : Addr) (r0 r1 : Addr) (k2 : ClassId) (h0 : Heap) (n0 : Nat) (v : Option Value) (h : Heap) (L : List Loc) : Prop := v = (some (.int 99)) ∧ Fr n0 L ∧ Keep h0 h [r0] ∧ P12 Z h r0 (.int 99) ∧ P13 Z h r0 (.int 0) ∧ P11 Z h r0 (.int 0) ∧ P10 Z h r0 (.ref r1)
/-- HashMap.hash#4 -/
theorem t107 (hw : HW a0 Z) (SB0 : SB Z cv de ca) (r0 r1 : Addr) (k2 : ClassId) (O0 : OL Z n0 h0) (q0 : E_2 Z h0 r0) (q1 : P12 Z h0 r0 (.int 0)) (q2 : P13 Z h0 r0 (.int 0)) (q3 : P11 Z h0 r0 (.int 0)) (q4 : P10 Z h0 r0 (.ref r1)) (q5 : Arv Z h0 r1 k2 .byte (1 : Int32) [(.int 99)] (.int 0)) (ge0 : n0 ≤ r0) : CT l Z y23 B19 2 (some .int) ⟨2, 0, 0, 25⟩ #[(.ref r0)] h0 (Q107 Z cv de ca r0 r1 k2 h0 n0) := by
  refine ct_intro ?_
  intro p e s m below meth c s₁ E0 hx D hml hown hnm hrt X0 e0 hZ hE
  have Z0 := O0.le
  have K0 := Keep.refl h0 [r0]
  have hws : ∀ w ∈ ([r0] : List Addr), n0 ≤ w := (allS ge0 all0)
  have N0 := Fr.nil n0
  have pre0 := ctp #[vr r0, un] hE
  obtain ⟨v1, T1, L1, X1, Q1, st1⟩ := kV (y := y18) (z := y19) X0 hx hZ hown (t106 hw SB0 r0 r1 k2 (O0.keep K0 hws) q1 q2 q0 q3 q4 q5 ge0) q0 (nf_of (x := y21) (y' := y22) (args := #[]) (mvT hZ (w_ hw 424 rfl)) rfl) (w_ hw 127 rfl) (w_ hw 128 rfl) (w_ hw 130 rfl) (w_ hw 131 rfl) (w_ hw 31 rfl) (w_ hw 132 rfl) e0 (g := (mkF m 9 #[vr r0, un] [(.ref r0)])) rfl hml rfl (argsL := []) (rest := []) (lenOf pd13 rfl) rfl rfl (W := 0) rfl (D d19_9)
  obtain ⟨h1, e1⟩ : ∃ z, T1.heap = z := ⟨_, rfl⟩
  rw [e1] at Q1
  obtain ⟨rfl, M1, K1, F1_0, F1_1, F1_2, F1_3⟩ := Q1
  have N1 := N0.app M1
  have k1 := K0.trans K1 (allS (Or.inl (List.mem_of_getElem? (i := 0) rfl)) all0)
  refine ⟨(some (.int 99)), T1, _, _, _, X1, (fun hh => by cases hh), (by rw [e1]; exact ⟨rfl, N1, k1, F1_0, F1_1, F1_2, F1_3⟩), (by decide), (by decide), fun fs hr => pre0 _ ?_⟩
  show SA p e below s₁ m 0 #[vr r0, un] [] _
  refine XS.aloadN X0.here hx rfl (D d19_0) rfl rfl ?_
  refine XS.ifnonnullYes X0.here hx rfl (pc0 := 1) (pc' := 8) rfl (D d19_1) rfl (by decide) (by decide) ?_
  refine XS.aloadN X0.here hx rfl (D d19_8) rfl rfl ?_
  refine st1 _ ?_
  refine XS.dup X1.here hx rfl (D d19_12) rfl rfl ?_
  refine XS.istoreN X1.here hx rfl (D d19_13) rfl (l' := #[vr r0, vi 99]) rfl ?_
  refine XS.iloadN X1.here hx rfl (D d19_14) rfl ?_
  refine XS.bipush X1.here hx rfl (D d19_15) ?_
  refine XS.iushr X1.here hx rfl (D d19_17) rfl ?_
  refine XS.ixor X1.here hx rfl (D d19_18) rfl ?_
  show SA p e below T1 m 19 #[vr r0, vi 99] [(.int 99)] _
  exact retOut X1 hx hrt rfl (Or.inl ⟨rfl, Or.inl rfl, _, rfl⟩) (D d19_19) hr
def Q108 (Z : State) (cv : Int32) (de ca : Addr) (r0 r1 r2 r3 r4 : Addr) (i5 : Int32) (r6 r7 r8 r9 : Addr) (h0 : Heap) (n0 : Nat) (v : Option Value) (h : Heap) (L : List Loc) : Prop := v = none ∧ Fr n0 L ∧ Keep h0 h [r0, r1, r2] ∧ P1 Z h r0 (.int 0) ∧ P5 Z h r0 (.ref r1) ∧ P3 Z h r0 (.ref r3) ∧ P4 Z h r0 (.int 12) ∧ P2 Z h r0 (.int 0) ∧ P6 Z h r0 (.ref r4) ∧ P7 Z h r0 (.int 2) ∧ P8 Z h r0 (.int 2) ∧ P9 Z h r0 .null ∧ P17 Z h r1 (.int i5) ∧ P18 Z h r1 (.ref r6) ∧ P19 Z h r1 (.ref r7) ∧ P21 Z h r1 .null ∧ P17 Z h r2 (.int 98) ∧ P18 Z h r2 (.ref r8) ∧ P19 Z h r2 (.ref r9) ∧ P21 Z h r2 (.ref r1)
/-- LinkedHashMap.linkNodeAtEnd#2 -/
theorem t108 (hw : HW a0 Z) (SB0 : SB Z cv de ca) (r0 r1 r2 r3 r4 : Addr) (i5 : Int32) (r6 r7 r8 r9 : Addr) (O0 : OL Z n0 h0) (q0 : P1 Z h0 r0 (.int 0)) (q1 : P5 Z h0 r0 (.ref r2)) (q2 : E_0 Z h0 r0) (q3 : P3 Z h0 r0 (.ref r3)) (q4 : P4 Z h0 r0 (.int 12)) (q5 : P2 Z h0 r0 (.int 0)) (q6 : P6 Z h0 r0 (.ref r4)) (q7 : P7 Z h0 r0 (.int 2)) (q8 : P8 Z h0 r0 (.int 2)) (q9 : P9 Z h0 r0 .null) (q10 : E_6 Z h0 r1) (q11 : P17 Z h0 r1 (.int i5)) (q12 : P18 Z h0 r1 (.ref r6)) (q13 : P19 Z h0 r1 (.ref r7)) (q14 : P21 Z h0 r1 .null) (q15 : P22 Z h0 r1 .null) (q16 : E_6 Z h0 r2) (q17 : P17 Z h0 r2 (.int 98)) (q18 : P18 Z h0 r2 (.ref r8)) (q19 : P19 Z h0 r2 (.ref r9)) (q20 : P21 Z h0 r2 .null) (q21 : r2 ≠ r1) (ge0 : n0 ≤ r0) (ge1 : n0 ≤ r1) (ge2 : n0 ≤ r2) : CT l Z y29 B28 3 none ⟨0, 0, 0, 0⟩ #[(.ref r0), (.ref r1)] h0 (Q108 Z cv de ca r0 r1 r2 r3 r4 i5 r6 r7 r8 r9 h0 n0) := by
  refine ct_intro ?_
  intro p e s m below meth c s₁ E0 hx D hml hown hnm hrt X0 e0 hZ hE
  have Z0 := O0.le
  have K0 := Keep.refl h0 [r0, r1, r2]
  have hws : ∀ w ∈ ([r0, r1, r2] : List Addr), n0 ≤ w := (allS ge0 (allS ge1 (allS ge2 all0)))
  have N0 := Fr.nil n0
  have pre0 := ctp #[vr r0, vr r1, un] hE
  obtain ⟨T1, X1, e1, st1⟩ := gF X0 hx hZ hown (w_ hw 25 rfl) Via.refl e0 q0 (g := (mkF m 1 #[vr r0, vr r1, un] [(.ref r0)])) rfl rfl (D d28_1)
  obtain ⟨T2, X2, e2, st2⟩ := gF X1 hx hZ hown (w_ hw 194 rfl) Via.refl e1 q1 (g := (mkF m 44 #[vr r0, vr r1, un] [(.ref r0)])) rfl rfl (D d28_44)
  obtain ⟨T3, h3, X3, e3, W3, st3⟩ := putF X2 hx hZ hown (host := "") (Or.inl (w_ hw 194 rfl)) Via.refl e2 q1 q2 (Or.inl (w_ hw 195 rfl)) (w_ hw 2 rfl) (ty := (.object "java/util/LinkedHashMap$Entry")) (by decide) rfl rfl (g := (mkF m 50 #[vr r0, vr r1, vr r2] [(.ref r1), (.ref r0)])) rfl rfl (D d28_50)
  have N3 := Fr.snoc X3 N0 ge0
  have k3 := K0.wr W3 (Or.inl (List.mem_of_getElem? (i := 0) rfl))
  have v3 := q1.same W3
  have f5 := (q10.wr W3)
  have f6 := (q2.wr W3)
  have ne4 : r1 ≠ r0 := Exa.ne f5 f6 (by decide)
  have f7 := (q15.other W3 (Or.inl ne4))
  obtain ⟨T8, h8, X8, e8, W8, st8⟩ := putF X3 hx hZ hown (host := "") (Or.inl (w_ hw 440 rfl)) Via.refl e3 f7 f5 (Or.inl (w_ hw 441 rfl)) (w_ hw 168 rfl) (ty := (.object "java/util/LinkedHashMap$Entry")) (by decide) rfl rfl (g := (mkF m 67 #[vr r0, vr r1, vr r2] [(.ref r2), (.ref r1)])) rfl rfl (D d28_67)
  have N8 := Fr.snoc X8 N3 ge1
  have k8 := k3.wr W8 (Or.inl (List.mem_of_getElem? (i := 1) rfl))
  have v8 := f7.same W8
  have f10 := ((q16.wr W3).wr W8)
  have f11 := (f6.wr W8)
  have ne9 : r2 ≠ r0 := Exa.ne f10 f11 (by decide)
  have f13 := ((q20.other W3 (Or.inl ne9)).other W8 (Or.inl q21))
  obtain ⟨T14, h14, X14, e14, W14, st14⟩ := putF X8 hx hZ hown (host := "") (Or.inl (w_ hw 442 rfl)) Via.refl e8 f13 f10 (Or.inl (w_ hw 327 rfl)) (w_ hw 168 rfl) (ty := (.object "java/util/LinkedHashMap$Entry")) (by decide) rfl rfl (g := (mkF m 72 #[vr r0, vr r1, vr r2] [(.ref r1), (.ref r2)])) rfl rfl (D d28_72)
  have N14 := Fr.snoc X14 N8 ge2
  have k14 := k8.wr W14 (Or.inl (List.mem_of_getElem? (i := 2) rfl))
  have v14 := f13.same W14
  have f15 := (((q0.other W3 (Or.inr (Ne.symm (sn14 hw)))).other W8 (Or.inl (Ne.symm ne4))).other W14 (Or.inl (Ne.symm ne9)))
  have f16 := ((v3.other W8 (Or.inl (Ne.symm ne4))).other W14 (Or.inl (Ne.symm ne9)))
  have f17 := (((q3.other W3 (Or.inr (Ne.symm (sn35 hw)))).other W8 (Or.inl (Ne.symm ne4))).other W14 (Or.inl (Ne.symm ne9)))
  have f18 := (((q4.other W3 (Or.inr (Ne.symm (sn34 hw)))).other W8 (Or.inl (Ne.symm ne4))).other W14 (Or.inl (Ne.symm ne9)))
  have f19 := (((q5.other W3 (Or.inr (Ne.symm (sn15 hw)))).other W8 (Or.inl (Ne.symm ne4))).other W14 (Or.inl (Ne.symm ne9)))
  have f20 := (((q6.other W3 (Or.inr (sn58 hw))).other W8 (Or.inl (Ne.symm ne4))).other W14 (Or.inl (Ne.symm ne9)))
  have f21 := (((q7.other W3 (Or.inr (sn59 hw))).other W8 (Or.inl (Ne.symm ne4))).other W14 (Or.inl (Ne.symm ne9)))
  have f22 := (((q8.other W3 (Or.inr (sn61 hw))).other W8 (Or.inl (Ne.symm ne4))).other W14 (Or.inl (Ne.symm ne9)))
  have f23 := (((q9.other W3 (Or.inr (sn63 hw))).other W8 (Or.inl (Ne.symm ne4))).other W14 (Or.inl (Ne.symm ne9)))
  have f24 := (((q11.other W3 (Or.inl ne4)).other W8 (Or.inr (Ne.symm (sn54 hw)))).other W14 (Or.inl (Ne.symm q21)))
  have f25 := (((q12.other W3 (Or.inl ne4)).other W8 (Or.inr (Ne.symm (sn55 hw)))).other W14 (Or.inl (Ne.symm q21)))
  have f26 := (((q13.other W3 (Or.inl ne4)).other W8 (Or.inr (Ne.symm (sn56 hw)))).other W14 (Or.inl (Ne.symm q21)))
  have f27 := (((q14.other W3 (Or.inl ne4)).other W8 (Or.inr (sn94 hw))).other W14 (Or.inl (Ne.symm q21)))
  have f28 := (((q17.other W3 (Or.inl ne9)).other W8 (Or.inl q21)).other W14 (Or.inr (Ne.symm (sn50 hw))))
  have f29 := (((q18.other W3 (Or.inl ne9)).other W8 (Or.inl q21)).other W14 (Or.inr (Ne.symm (sn51 hw))))
  have f30 := (((q19.other W3 (Or.inl ne9)).other W8 (Or.inl q21)).other W14 (Or.inr (Ne.symm (sn52 hw))))
  refine ⟨none, T14, _, _, _, X14, fun _ => rfl, (by rw [e14]; exact ⟨rfl, N14, k14, f15, f16, f17, f18, f19, f20, f21, f22, f23, f24, f25, f26, f27, f28, f29, f30, v14⟩), (by decide), (by decide), fun fs hr => pre0 _ ?_⟩
  show SA p e below s₁ m 0 #[vr r0, vr r1, un] [] _
  refine XS.aloadN X0.here hx rfl (D d28_0) rfl rfl ?_
  refine st1 _ ?_
  refine XS.iconst X1.here hx rfl (D d28_4) ?_
  refine XS.icmpYes X1.here hx rfl (pc0 := 5) (pc' := 43) rfl (D d28_5) rfl (feq (by decide : ¬ ((0 : Int32) = (1 : Int32)))).2 (by decide) (by decide) ?_
  refine XS.aloadN X1.here hx rfl (D d28_43) rfl rfl ?_
  refine st2 _ ?_
  refine XS.astoreN X2.here hx rfl (D d28_47) rfl rfl (l' := #[vr r0, vr r1, vr r2]) rfl ?_
  refine XS.aloadN X2.here hx rfl (D d28_48) rfl rfl ?_
  refine XS.aloadN X2.here hx rfl (D d28_49) rfl rfl ?_
  refine st3 _ ?_
  refine XS.aloadN X3.here hx rfl (D d28_53) rfl rfl ?_
  refine XS.ifnonnullYes X3.here hx rfl (pc0 := 54) (pc' := 65) rfl (D d28_54) rfl (by decide) (by decide) ?_
  refine XS.aloadN X3.here hx rfl (D d28_65) rfl rfl ?_
  refine XS.aloadN X3.here hx rfl (D d28_66) rfl rfl ?_
  refine st8 _ ?_
  refine XS.aloadN X8.here hx rfl (D d28_70) rfl rfl ?_
  refine XS.aloadN X8.here hx rfl (D d28_71) rfl rfl ?_
  refine st14 _ ?_
  show SA p e below T14 m 75 #[vr r0, vr r1, vr r2] [] _
  exact X14.returnOut hx hrt (D d28_75) hr
def Q109 (Z : State) (cv : Int32) (de ca : Addr) (r0 : Addr) (i1 : Int32) (r2 r3 r4 r5 r6 r7 r8 : Addr) (h0 : Heap) (n0 : Nat) (v : Option Value) (h : Heap) (L : List Loc) : Prop := ∃ (b1 : Addr), v = (some (.ref b1)) ∧ Fr n0 L ∧ Keep h0 h [r0, r4] ∧ h0.size ≤ b1 ∧ P1 Z h r0 (.int 0) ∧ P5 Z h r0 (.ref b1) ∧ P3 Z h r0 (.ref r5) ∧ P4 Z h r0 (.int 12) ∧ P2 Z h r0 (.int 0) ∧ P6 Z h r0 (.ref r6) ∧ P7 Z h r0 (.int 2) ∧ P8 Z h r0 (.int 2) ∧ P9 Z h r0 .null ∧ P17 Z h r4 (.int 98) ∧ P18 Z h r4 (.ref r7) ∧ P19 Z h r4 (.ref r8) ∧ P21 Z h r4 (.ref b1) ∧ E_6 Z h b1 ∧ P17 Z h b1 (.int i1) ∧ P18 Z h b1 (.ref r2) ∧ P19 Z h b1 (.ref r3) ∧ P21 Z h b1 .null
/-- LinkedHashMap.newNode#2 -/
theorem t109 (hw : HW a0 Z) (SB0 : SB Z cv de ca) (r0 : Addr) (i1 : Int32) (r2 r3 r4 r5 r6 r7 r8 : Addr) (O0 : OL Z n0 h0) (q0 : E_0 Z h0 r0) (q1 : P1 Z h0 r0 (.int 0)) (q2 : P5 Z h0 r0 (.ref r4)) (q3 : P3 Z h0 r0 (.ref r5)) (q4 : P4 Z h0 r0 (.int 12)) (q5 : P2 Z h0 r0 (.int 0)) (q6 : P6 Z h0 r0 (.ref r6)) (q7 : P7 Z h0 r0 (.int 2)) (q8 : P8 Z h0 r0 (.int 2)) (q9 : P9 Z h0 r0 .null) (q10 : E_6 Z h0 r4) (q11 : P17 Z h0 r4 (.int 98)) (q12 : P18 Z h0 r4 (.ref r7)) (q13 : P19 Z h0 r4 (.ref r8)) (q14 : P21 Z h0 r4 .null) (ge0 : n0 ≤ r0) (ge1 : n0 ≤ r4) : CT l Z y31 B25 6 (some (.object "java/util/HashMap$Node")) ⟨3, 1, 6, 45⟩ #[(.ref r0), (.int i1), (.ref r2), (.ref r3), .null] h0 (Q109 Z cv de ca r0 i1 r2 r3 r4 r5 r6 r7 r8 h0 n0) := by
  refine ct_intro ?_
  intro p e s m below meth c s₁ E0 hx D hml hown hnm hrt X0 e0 hZ hE
  have Z0 := O0.le
  have K0 := Keep.refl h0 [r0, r4]
  have hws : ∀ w ∈ ([r0, r4] : List Addr), n0 ≤ w := (allS ge0 (allS ge1 all0))
  have N0 := Fr.nil n0
  have pre0 := ctp #[vr r0, vi i1, vr r2, vr r3, .val .null, un] hE
  obtain ⟨T1, h1, X1, e1, E1, A1, D1, -, st1⟩ := newO X0 hx hZ hown (w_ hw 167 rfl) (w_ hw 168 rfl) (w_ hw 169 rfl) e0 (g := (mkF m 0 #[vr r0, vi i1, vr r2, vr r3, .val .null, un] [])) rfl (D d25_0) (by decide) (by decide)
  obtain ⟨b1, g1⟩ : ∃ z, z = h0.size := ⟨_, rfl⟩
  rw [← g1] at A1 D1 st1
  have z1 : h0.size ≤ b1 := Nat.le_trans K0.1 (Nat.le_of_eq g1.symm)
  have k1 := K0.ext E1
  have F1_182 : P17 Z h1 b1 (.int 0) := D1 (Or.inr (w_ hw 182 rfl)) (ty := .int) (by decide)
  have F1_184 : P18 Z h1 b1 .null := D1 (Or.inr (w_ hw 184 rfl)) (ty := (.object "java/lang/Object")) (by decide)
  have F1_186 : P19 Z h1 b1 .null := D1 (Or.inl (w_ hw 186 rfl)) (ty := (.object "java/lang/Object")) (by decide)
  have F1_188 : P20 Z h1 b1 .null := D1 (Or.inl (w_ hw 188 rfl)) (ty := (.object "java/util/HashMap$Node")) (by decide)
  have F1_327 : P21 Z h1 b1 .null := D1 (Or.inl (w_ hw 327 rfl)) (ty := (.object "java/util/LinkedHashMap$Entry")) (by decide)
  have F1_441 : P22 Z h1 b1 .null := D1 (Or.inl (w_ hw 441 rfl)) (ty := (.object "java/util/LinkedHashMap$Entry")) (by decide)
  obtain ⟨v2, T2, L2, X2, Q2, st2⟩ := kI X1 hx hZ hown (t32 hw SB0 b1 i1 r2 r3 (O0.keep k1 hws) A1 F1_182 F1_184 F1_186 F1_188 F1_327 F1_441 (Nat.le_trans Z0 z1)) rfl (w_ hw 170 rfl) (w_ hw 171 rfl) (w_ hw 169 rfl) (w_ hw 173 rfl) e1 (g := (mkF m 9 #[vr r0, vi i1, vr r2, vr r3, .val .null, un] [.null, (.ref r3), (.ref r2), (.int i1), (.ref b1), (.ref b1)])) rfl hml rfl (argsL := [(.int i1), (.ref r2), (.ref r3), .null]) (rest := [(.ref b1)]) (lenOf pd16 rfl) rfl rfl (W := 1) rfl (D d25_9)
  obtain ⟨h2, e2⟩ : ∃ z, T2.heap = z := ⟨_, rfl⟩
  rw [e2] at Q2
  obtain ⟨rfl, M2, K2, F2_0, F2_1, F2_2, F2_3, F2_4⟩ := Q2
  have N2 := N0.app M2
  have k2 := k1.trans K2 (allS (Or.inr z1) all0)
  have f4 := ((q0.ext E1).keep K2)
  have f5 := (A1.keep K2)
  have ne3 : r0 ≠ b1 := Exa.ne f4 f5 (by decide)
  have f6 := ((q1.ext E1).keep K2 (ninS ne3 nin0))
  have f7 := ((q2.ext E1).keep K2 (ninS ne3 nin0))
  have f8 := ((q3.ext E1).keep K2 (ninS ne3 nin0))
  have f9 := ((q4.ext E1).keep K2 (ninS ne3 nin0))
  have f10 := ((q5.ext E1).keep K2 (ninS ne3 nin0))
  have f11 := ((q6.ext E1).keep K2 (ninS ne3 nin0))
  have f12 := ((q7.ext E1).keep K2 (ninS ne3 nin0))
  have f13 := ((q8.ext E1).keep K2 (ninS ne3 nin0))
  have f14 := ((q9.ext E1).keep K2 (ninS ne3 nin0))
  have f15 := ((q10.ext E1).keep K2)
  have ne16 : r4 ≠ b1 := Nat.ne_of_lt (Nat.lt_of_lt_of_le q10.lt (Nat.le_of_eq g1.symm))
  have f17 := ((q11.ext E1).keep K2 (ninS ne16 nin0))
  have f18 := ((q12.ext E1).keep K2 (ninS ne16 nin0))
  have f19 := ((q13.ext E1).keep K2 (ninS ne16 nin0))
  have f20 := ((q14.ext E1).keep K2 (ninS ne16 nin0))
  obtain ⟨v21, T21, L21, X21, Q21, st21⟩ := kP (y := y29) (z := y30) (z' := y31) X2 hx hZ hown (t108 hw SB0 r0 b1 r4 r5 r6 i1 r2 r3 r7 r8 (O0.keep k2 hws) f6 f7 f4 f8 f9 f10 f11 f12 f13 f14 f5 F2_0 F2_1 F2_2 F2_3 F2_4 f15 f17 f18 f19 f20 ne16 ge0 (Nat.le_trans Z0 z1) ge1) f4 (w_ hw 189 rfl) (w_ hw 190 rfl) (w_ hw 191 rfl) (w_ hw 164 rfl) rfl (w_ hw 3 rfl) (w_ hw 193 rfl) e2 (g := (mkF m 17 #[vr r0, vi i1, vr r2, vr r3, .val .null, vr b1] [(.ref b1), (.ref r0)])) rfl hml rfl (argsL := [(.ref b1)]) (rest := []) (lenOf pd17 rfl) rfl rfl (W := 0) rfl (D d25_17)
  obtain ⟨h21, e21⟩ : ∃ z, T21.heap = z := ⟨_, rfl⟩
  rw [e21] at Q21
  obtain ⟨rfl, M21, K21, F21_0, F21_1, F21_2, F21_3, F21_4, F21_5, F21_6, F21_7, F21_8, F21_9, F21_10, F21_11, F21_12, F21_13, F21_14, F21_15, F21_16⟩ := Q21
  have N21 := N2.app M21
  have k21 := k2.trans K21 (allS (Or.inl (List.mem_of_getElem? (i := 0) rfl)) (allS (Or.inr z1) (allS (Or.inl (List.mem_of_getElem? (i := 1) rfl)) all0)))
  have f22 := (f5.keep K21)
  refine ⟨(some (.ref b1)), T21, _, _, _, X21, (fun hh => by cases hh), (by rw [e21]; exact ⟨b1, rfl, N21, k21, z1, F21_0, F21_1, F21_2, F21_3, F21_4, F21_5, F21_6, F21_7, F21_8, F21_13, F21_14, F21_15, F21_16, f22, F21_9, F21_10, F21_11, F21_12⟩), (by decide), (by decide), fun fs hr => pre0 _ ?_⟩
  show SA p e below s₁ m 0 #[vr r0, vi i1, vr r2, vr r3, .val .null, un] [] _
  refine st1 _ ?_
  refine XS.dup X1.here hx rfl (D d25_3) rfl rfl ?_
  refine XS.iloadN X1.here hx rfl (D d25_4) rfl ?_
  refine XS.aloadN X1.here hx rfl (D d25_5) rfl rfl ?_
  refine XS.aloadN X1.here hx rfl (D d25_6) rfl rfl ?_
  refine XS.aload X1.here hx rfl (D d25_7) rfl rfl ?_
  refine st2 _ ?_
  refine XS.astore X2.here hx rfl (D d25_12) rfl rfl (l' := #[vr r0, vi i1, vr r2, vr r3, .val .null, vr b1]) rfl ?_
  refine XS.aloadN X2.here hx rfl (D d25_14) rfl rfl ?_
  refine XS.aload X2.here hx rfl (D d25_15) rfl rfl ?_
  refine st21 _ ?_
  refine XS.aload X21.here hx rfl (D d25_20) rfl rfl ?_
  show SA p e below T21 m 22 #[vr r0, vi i1, vr r2, vr r3, .val .null, vr b1] [(.ref b1)] _
  exact retOut X21 hx hrt rfl (Or.inr (Or.inr (Or.inr (Or.inr ⟨rfl, rfl, rfl⟩)))) (D d25_22) hr
def Q110 (Z : State) (cv : Int32) (de ca : Addr) (r0 r1 r2 r3 r4 r5 : Addr) (k6 : ClassId) (r7 r8 : Addr) (h0 : Heap) (n0 : Nat) (v : Option Value) (h : Heap) (L : List Loc) : Prop := ∃ (b4_0 : Addr), v = (some .null) ∧ Fr n0 L ∧ Keep h0 h [r0, r5, r3] ∧ h0.size ≤ b4_0 ∧ P1 Z h r0 (.int 0) ∧ P5 Z h r0 (.ref b4_0) ∧ P3 Z h r0 (.ref r3) ∧ P4 Z h r0 (.int 12) ∧ P2 Z h r0 (.int 0) ∧ P6 Z h r0 (.ref r4) ∧ P7 Z h r0 (.int 3) ∧ P8 Z h r0 (.int 3) ∧ P9 Z h r0 .null ∧ P17 Z h r5 (.int 98) ∧ P18 Z h r5 (.ref r7) ∧ P19 Z h r5 (.ref r8) ∧ P21 Z h r5 (.ref b4_0) ∧ Arv Z h r3 k6 (.object "java/util/HashMap$Node") (16 : Int32) [.null, (.ref r4), (.ref r5), (.ref b4_0), .null, .null, .null, .null, .null, .null, .null, .null, .null, .null, .null, .null] .null ∧ E_6 Z h b4_0 ∧ P17 Z h b4_0 (.int 99) ∧ P18 Z h b4_0 (.ref r1) ∧ P19 Z h b4_0 (.ref r2) ∧ P21 Z h b4_0 .null
/-- HashMap.putVal#4 -/
theorem t110 (hw : HW a0 Z) (SB0 : SB Z cv de ca) (r0 r1 r2 r3 r4 r5 : Addr) (k6 : ClassId) (r7 r8 : Addr) (O0 : OL Z n0 h0) (q0 : P3 Z h0 r0 (.ref r3)) (q1 : Arv Z h0 r3 k6 (.object "java/util/HashMap$Node") (16 : Int32) [.null, (.ref r4), (.ref r5), .null, .null, .null, .null, .null, .null, .null, .null, .null, .null, .null, .null, .null] .null) (q2 : E_0 Z h0 r0) (q3 : P1 Z h0 r0 (.int 0)) (q4 : P5 Z h0 r0 (.ref r5)) (q5 : P4 Z h0 r0 (.int 12)) (q6 : P2 Z h0 r0 (.int 0)) (q7 : P6 Z h0 r0 (.ref r4)) (q8 : P7 Z h0 r0 (.int 2)) (q9 : P8 Z h0 r0 (.int 2)) (q10 : P9 Z h0 r0 .null) (q11 : E_6 Z h0 r5) (q12 : P17 Z h0 r5 (.int 98)) (q13 : P18 Z h0 r5 (.ref r7)) (q14 : P19 Z h0 r5 (.ref r8)) (q15 : P21 Z h0 r5 .null) (q16 : E_5 Z h0 r3) (q17 : Ovr Z k6 "java/util/HashMap$Node") (ge0 : n0 ≤ r0) (ge1 : n0 ≤ r5) (ge2 : n0 ≤ r3) : CT l Z y35 B23 13 (some (.object "java/lang/Object")) ⟨4, 1, 6, 64⟩ #[(.ref r0), (.int 99), (.ref r1), (.ref r2), (.int 0), (.int 1)] h0 (Q110 Z cv de ca r0 r1 r2 r3 r4 r5 k6 r7 r8 h0 n0) := by
  refine ct_intro ?_
  intro p e s m below meth c s₁ E0 hx D hml hown hnm hrt X0 e0 hZ hE
  have Z0 := O0.le
  have K0 := Keep.refl h0 [r0, r5, r3]
  have hws : ∀ w ∈ ([r0, r5, r3] : List Addr), n0 ≤ w := (allS ge0 (allS ge1 (allS ge2 all0)))
  have N0 := Fr.nil n0
  have pre0 := ctp #[vr r0, vi 99, vr r1, vr r2, vi 0, vi 1, un, un, un, un, un, un, un] hE
  obtain ⟨T1, X1, e1, st1⟩ := gF X0 hx hZ hown (w_ hw 150 rfl) Via.refl e0 q0 (g := (mkF m 1 #[vr r0, vi 99, vr r1, vr r2, vi 0, vi 1, un, un, un, un, un, un, un] [(.ref r0)])) rfl rfl (D d23_1)
  obtain ⟨_, Ar2, -, S2, M2, -, -⟩ := id q1
  obtain ⟨_, Ar3, -, S3, M3, H3, -⟩ := id q1
  obtain ⟨v4, T4, L4, X4, Q4, st4⟩ := kV (y := y30) (z := y31) X1 hx hZ hown (t109 hw SB0 r0 (99 : Int32) r1 r2 r5 r3 r4 r7 r8 (O0.keep K0 hws) q2 q3 q4 q0 q5 q6 q7 q8 q9 q10 q11 q12 q13 q14 q15 ge0 ge1) q2 (nf_of (x := y25) (y' := y26) (args := #[]) (mvT hZ (w_ hw 118 rfl)) rfl) (w_ hw 161 rfl) (w_ hw 162 rfl) (w_ hw 164 rfl) (w_ hw 165 rfl) (w_ hw 3 rfl) (w_ hw 166 rfl) e1 (g := (mkF m 56 #[vr r0, vi 99, vr r1, vr r2, vi 0, vi 1, vr r3, .val .null, vi 16, vi 3, un, un, un] [.null, (.ref r2), (.ref r1), (.int 99), (.ref r0), (.int 3), (.ref r3)])) rfl hml rfl (argsL := [(.int 99), (.ref r1), (.ref r2), .null]) (rest := [(.int 3), (.ref r3)]) (lenOf pd18 rfl) rfl rfl (W := 2) rfl (D d23_56)
  obtain ⟨h4, e4⟩ : ∃ z, T4.heap = z := ⟨_, rfl⟩
  rw [e4] at Q4
  obtain ⟨b4_0, rfl, M4, K4, y4_0, F4_0, F4_1, F4_2, F4_3, F4_4, F4_5, F4_6, F4_7, F4_8, F4_9, F4_10, F4_11, F4_12, F4_13, F4_14, F4_15, F4_16, F4_17⟩ := Q4
  have N4 := N0.app M4
  have z4_b4_0 := Nat.le_trans K0.1 y4_0
  have k4 := K0.trans K4 (allS (Or.inl (List.mem_of_getElem? (i := 0) rfl)) (allS (Or.inl (List.mem_of_getElem? (i := 1) rfl)) all0))
  have f6 := (q16.keep K4)
  have f7 := (q11.keep K4)
  have ne5 : r3 ≠ r5 := Exa.ne f6 f7 (by decide)
  have f9 := (q2.keep K4)
  have ne8 : r3 ≠ r0 := Exa.ne f6 f9 (by decide)
  have f10 := (q1.keep K4 (ninS ne8 (ninS ne5 nin0)))
  obtain ⟨_, Ar11, C11, S11, M11, H11, G11⟩ := id f10
  obtain ⟨T12, h12, X12, e12, W12, st12⟩ := stR X4 hx hZ e4 Ar11 (j := (3 : Int32)) (inb_of S11 ⟨by decide, by decide⟩) rfl (Sto.ofV Ar11 C11 q17 (Ins.of_exa F4_13 (w_ hw 177 rfl))) (g := (mkF m 59 #[vr r0, vi 99, vr r1, vr r2, vi 0, vi 1, vr r3, .val .null, vi 16, vi 3, un, un, un] [(.ref b4_0), (.int 3), (.ref r3)])) rfl rfl (D d23_59)
  have N12 := Fr.snoc X12 N4 ge2
  have k12 := k4.wr W12 (Or.inl (List.mem_of_getElem? (i := 2) rfl))
  have v12 : Arv Z h12 r3 k6 (.object "java/util/HashMap$Node") (16 : Int32) [.null, (.ref r4), (.ref r5), (.ref b4_0), .null, .null, .null, .null, .null, .null, .null, .null, .null, .null, .null, .null] .null := Arv.set Ar11 C11 S11 M11 H11 G11 rfl W12 3 rfl (by show 3 < 16; decide)
  have f13 := (F4_6.other W12 (Or.inl (Ne.symm ne8)))
  obtain ⟨T14, X14, e14, st14⟩ := gF X12 hx hZ hown (w_ hw 198 rfl) Via.refl e12 f13 (g := (mkF m 261 #[vr r0, vi 99, vr r1, vr r2, vi 0, vi 1, vr r3, .val .null, vi 16, vi 3, un, un, un] [(.ref r0), (.ref r0)])) rfl rfl (D d23_261)
  have f15 := (f9.wr W12)
  obtain ⟨T16, h16, X16, e16, W16, st16⟩ := putF X14 hx hZ hown (host := "") (Or.inl (w_ hw 198 rfl)) Via.refl e14 f13 f15 (Or.inl (w_ hw 199 rfl)) (w_ hw 2 rfl) (ty := .int) (by decide) rfl rfl (g := (mkF m 266 #[vr r0, vi 99, vr r1, vr r2, vi 0, vi 1, vr r3, .val .null, vi 16, vi 3, un, un, un] [(.int 3), (.ref r0)])) rfl rfl (D d23_266)
  have N16 := Fr.snoc X16 N12 ge0
  have k16 := k12.wr W16 (Or.inl (List.mem_of_getElem? (i := 0) rfl))
  have v16 := f13.same W16
  have f17 := ((F4_7.other W12 (Or.inl (Ne.symm ne8))).other W16 (Or.inr (sn65 hw)))
  obtain ⟨T18, X18, e18, st18⟩ := gF X16 hx hZ hown (w_ hw 200 rfl) Via.refl e16 f17 (g := (mkF m 271 #[vr r0, vi 99, vr r1, vr r2, vi 0, vi 1, vr r3, .val .null, vi 16, vi 3, un, un, un] [(.ref r0), (.ref r0)])) rfl rfl (D d23_271)
  have f19 := (f15.wr W16)
  obtain ⟨T20, h20, X20, e20, W20, st20⟩ := putF X18 hx hZ hown (host := "") (Or.inl (w_ hw 200 rfl)) Via.refl e18 f17 f19 (Or.inl (w_ hw 201 rfl)) (w_ hw 2 rfl) (ty := .int) (by decide) rfl rfl (g := (mkF m 277 #[vr r0, vi 99, vr r1, vr r2, vi 0, vi 1, vr r3, .val .null, vi 16, vi 3, un, un, un] [(.int 3), (.ref r0), (.int 3)])) rfl rfl (D d23_277)
  have N20 := Fr.snoc X20 N16 ge0
  have k20 := k16.wr W20 (Or.inl (List.mem_of_getElem? (i := 0) rfl))
  have v20 := f17.same W20
  have f21 := (((F4_3.other W12 (Or.inl (Ne.symm ne8))).other W16 (Or.inr (Ne.symm (sn38 hw)))).other W20 (Or.inr (Ne.symm (sn40 hw))))
  obtain ⟨T22, X22, e22, st22⟩ := gF X20 hx hZ hown (w_ hw 157 rfl) Via.refl e20 f21 (g := (mkF m 281 #[vr r0, vi 99, vr r1, vr r2, vi 0, vi 1, vr r3, .val .null, vi 16, vi 3, un, un, un] [(.ref r0), (.int 3)])) rfl rfl (D d23_281)
  have f23 := (((F4_5.other W12 (Or.inl (Ne.symm ne8))).other W16 (Or.inr (Ne.symm (sn60 hw)))).other W20 (Or.inr (Ne.symm (sn62 hw))))
  have f24 := (f19.wr W20)
  obtain ⟨v25, T25, L25, X25, Q25, st25⟩ := kV (y := y34) (z := y33) X22 hx hZ hown (t36 hw SB0 r0 r4 (O0.keep k20 hws) f23 f24) f24 (nf_of (x := y25) (y' := y26) (args := #[]) (mvT hZ (w_ hw 118 rfl)) rfl) (w_ hw 202 rfl) (w_ hw 203 rfl) (w_ hw 205 rfl) (w_ hw 206 rfl) (w_ hw 3 rfl) (w_ hw 207 rfl) e22 (g := (mkF m 295 #[vr r0, vi 99, vr r1, vr r2, vi 0, vi 1, vr r3, .val .null, vi 16, vi 3, un, un, un] [(.int 1), (.ref r0)])) rfl hml rfl (argsL := [(.int 1)]) (rest := []) (lenOf pd20 rfl) rfl rfl (W := 0) rfl (D d23_295)
  obtain ⟨rfl, M25, e25⟩ := Q25
  have N25 := N20.app M25
  have f26 := (((F4_0.other W12 (Or.inl (Ne.symm ne8))).other W16 (Or.inr (Ne.symm (sn18 hw)))).other W20 (Or.inr (Ne.symm (sn20 hw))))
  have f27 := (((F4_1.other W12 (Or.inl (Ne.symm ne8))).other W16 (Or.inr (Ne.symm (sn59 hw)))).other W20 (Or.inr (Ne.symm (sn61 hw))))
  have f28 := (((F4_2.other W12 (Or.inl (Ne.symm ne8))).other W16 (Or.inr (Ne.symm (sn39 hw)))).other W20 (Or.inr (Ne.symm (sn41 hw))))
  have f29 := (((F4_4.other W12 (Or.inl (Ne.symm ne8))).other W16 (Or.inr (Ne.symm (sn19 hw)))).other W20 (Or.inr (Ne.symm (sn21 hw))))
  have f30 := (v16.other W20 (Or.inr (Ne.symm (sn65 hw))))
  have f31 := (((F4_8.other W12 (Or.inl (Ne.symm ne8))).other W16 (Or.inr (sn66 hw))).other W20 (Or.inr (sn67 hw)))
  have f33 := (((f7.wr W12).wr W16).wr W20)
  have ne32 : r5 ≠ r0 := Exa.ne f33 f24 (by decide)
  have f34 := (((F4_9.other W12 (Or.inl (Ne.symm ne5))).other W16 (Or.inl ne32)).other W20 (Or.inl ne32))
  have f35 := (((F4_10.other W12 (Or.inl (Ne.symm ne5))).other W16 (Or.inl ne32)).other W20 (Or.inl ne32))
  have f36 := (((F4_11.other W12 (Or.inl (Ne.symm ne5))).other W16 (Or.inl ne32)).other W20 (Or.inl ne32))
  have f37 := (((F4_12.other W12 (Or.inl (Ne.symm ne5))).other W16 (Or.inl ne32)).other W20 (Or.inl ne32))
  have f38 := ((v12.other W16 ne8).other W20 ne8)
  have f39 := (((F4_13.wr W12).wr W16).wr W20)
  have f41 := (((f6.wr W12).wr W16).wr W20)
  have ne40 : b4_0 ≠ r3 := Exa.ne f39 f41 (by decide)
  have ne42 : b4_0 ≠ r0 := Exa.ne f39 f24 (by decide)
  have f43 := (((F4_14.other W12 (Or.inl ne40)).other W16 (Or.inl ne42)).other W20 (Or.inl ne42))
  have f44 := (((F4_15.other W12 (Or.inl ne40)).other W16 (Or.inl ne42)).other W20 (Or.inl ne42))
  have f45 := (((F4_16.other W12 (Or.inl ne40)).other W16 (Or.inl ne42)).other W20 (Or.inl ne42))
  have f46 := (((F4_17.other W12 (Or.inl ne40)).other W16 (Or.inl ne42)).other W20 (Or.inl ne42))
  refine ⟨(some .null), T25, _, _, _, X25, (fun hh => by cases hh), (by rw [e25]; exact ⟨b4_0, rfl, N25, k20, z4_b4_0, f26, f27, f28, f21, f29, f23, f30, v20, f31, f34, f35, f36, f37, f38, f39, f43, f44, f45, f46⟩), (by decide), (by decide), fun fs hr => pre0 _ ?_⟩
  show SA p e below s₁ m 0 #[vr r0, vi 99, vr r1, vr r2, vi 0, vi 1, un, un, un, un, un, un, un] [] _
  refine XS.aloadN X0.here hx rfl (D d23_0) rfl rfl ?_
  refine st1 _ ?_
  refine XS.dup X1.here hx rfl (D d23_4) rfl rfl ?_
  refine XS.astore X1.here hx rfl (D d23_5) rfl rfl (l' := #[vr r0, vi 99, vr r1, vr r2, vi 0, vi 1, vr r3, un, un, un, un, un, un]) rfl ?_
  refine XS.ifnullNo X1.here hx rfl (D d23_7) rfl ?_
  refine XS.aload X1.here hx rfl (D d23_10) rfl rfl ?_
  refine X1.arraylength hx (by rw [e1]; exact Ar2.1) (State.isArrayOf_alike hZ.alike Ar2.2.1) (g := (mkF m 12 #[vr r0, vi 99, vr r1, vr r2, vi 0, vi 1, vr r3, un, un, un, un, un, un] [(.ref r3)])) rfl rfl (D d23_12) _ ?_
  rw [len_of S2 M2]
  show SA p e below T1 m 13 #[vr r0, vi 99, vr r1, vr r2, vi 0, vi 1, vr r3, un, un, un, un, un, un] [(.int 16)] _
  refine XS.dup X1.here hx rfl (D d23_13) rfl rfl ?_
  refine XS.istore X1.here hx rfl (D d23_14) rfl (l' := #[vr r0, vi 99, vr r1, vr r2, vi 0, vi 1, vr r3, un, vi 16, un, un, un, un]) rfl ?_
  refine XS.ifYes X1.here hx rfl (pc0 := 16) (pc' := 29) rfl (D d23_16) rfl ((if0 _ _).trans (feq (by decide : ¬ ((16 : Int32) = (0 : Int32)))).2) (by decide) (by decide) ?_
  refine XS.aload X1.here hx rfl (D d23_29) rfl rfl ?_
  refine XS.iload X1.here hx rfl (D d23_31) rfl ?_
  refine XS.iconst X1.here hx rfl (D d23_33) ?_
  refine XS.isub X1.here hx rfl (D d23_34) rfl ?_
  refine XS.iloadN X1.here hx rfl (D d23_35) rfl ?_
  refine XS.iand X1.here hx rfl (D d23_36) rfl ?_
  refine XS.dup X1.here hx rfl (D d23_37) rfl rfl ?_
  refine XS.istore X1.here hx rfl (D d23_38) rfl (l' := #[vr r0, vi 99, vr r1, vr r2, vi 0, vi 1, vr r3, un, vi 16, vi 3, un, un, un]) rfl ?_
  refine X1.aaload hx (j := (3 : Int32)) (v := .null) (by rw [e1]; exact Ar3.1) (State.isArrayOf_alike hZ.alike Ar3.2.1) rfl Ar3.2.2 (inb_of S3 ⟨by decide, by decide⟩) (Has.at H3 (inb_of S3 ⟨by decide, by decide⟩) rfl) (g := (mkF m 40 #[vr r0, vi 99, vr r1, vr r2, vi 0, vi 1, vr r3, un, vi 16, vi 3, un, un, un] [(.int 3), (.ref r3)])) rfl rfl (D d23_40) _ ?_
  show SA p e below T1 m 41 #[vr r0, vi 99, vr r1, vr r2, vi 0, vi 1, vr r3, un, vi 16, vi 3, un, un, un] [.null] _
  refine XS.dup X1.here hx rfl (D d23_41) rfl rfl ?_
  refine XS.astore X1.here hx rfl (D d23_42) rfl rfl (l' := #[vr r0, vi 99, vr r1, vr r2, vi 0, vi 1, vr r3, .val .null, vi 16, vi 3, un, un, un]) rfl ?_
  refine XS.ifnonnullNo X1.here hx rfl (D d23_44) rfl ?_
  refine XS.aload X1.here hx rfl (D d23_47) rfl rfl ?_
  refine XS.iload X1.here hx rfl (D d23_49) rfl ?_
  refine XS.aloadN X1.here hx rfl (D d23_51) rfl rfl ?_
  refine XS.iloadN X1.here hx rfl (D d23_52) rfl ?_
  refine XS.aloadN X1.here hx rfl (D d23_53) rfl rfl ?_
  refine XS.aloadN X1.here hx rfl (D d23_54) rfl rfl ?_
  refine XS.aconstNull X1.here hx rfl (D d23_55) ?_
  refine st4 _ ?_
  refine st12 _ ?_
  refine XS.goto X12.here hx rfl (pc0 := 60) (pc' := 259) rfl (D d23_60) (by decide) (by decide) ?_
  refine XS.aloadN X12.here hx rfl (D d23_259) rfl rfl ?_
  refine XS.dup X12.here hx rfl (D d23_260) rfl rfl ?_
  refine st14 _ ?_
  refine XS.iconst X14.here hx rfl (D d23_264) ?_
  refine XS.iadd X14.here hx rfl (D d23_265) rfl ?_
  refine st16 _ ?_
  refine XS.aloadN X16.here hx rfl (D d23_269) rfl rfl ?_
  refine XS.dup X16.here hx rfl (D d23_270) rfl rfl ?_
  refine st18 _ ?_
  refine XS.iconst X18.here hx rfl (D d23_274) ?_
  refine XS.iadd X18.here hx rfl (D d23_275) rfl ?_
  refine XS.dupX1 X18.here hx rfl (D d23_276) rfl rfl rfl ?_
  refine st20 _ ?_
  refine XS.aloadN X20.here hx rfl (D d23_280) rfl rfl ?_
  refine st22 _ ?_
  refine XS.icmpYes X22.here hx rfl (pc0 := 284) (pc' := 292) rfl (D d23_284) rfl (flt (by decide : ¬ ((12 : Int32) < (3 : Int32)))).2.2.2 (by decide) (by decide) ?_
  refine XS.aloadN X22.here hx rfl (D d23_292) rfl rfl ?_
  refine XS.iload X22.here hx rfl (D d23_293) rfl ?_
  refine st25 _ ?_
  refine XS.aconstNull X25.here hx rfl (D d23_298) ?_
  show SA p e below T25 m 299 #[vr r0, vi 99, vr r1, vr r2, vi 0, vi 1, vr r3, .val .null, vi 16, vi 3, un, un, un] [.null] _
  exact retOut X25 hx hrt rfl (Or.inr (Or.inr (Or.inr (Or.inr ⟨rfl, rfl, rfl⟩)))) (D d23_299) hr
def Q111 (Z : State) (cv : Int32) (de ca : Addr) (r0 r1 r2 r3 : Addr) (k4 : ClassId) (r5 r6 r7 : Addr) (k8 : ClassId) (r9 r10 : Addr) (h0 : Heap) (n0 : Nat) (v : Option Value) (h : Heap) (L : List Loc) : Prop := ∃ (b23_0 : Addr), v = (some .null) ∧ Fr n0 L ∧ Keep h0 h [r1, r0, r7, r5] ∧ h0.size ≤ b23_0 ∧ P12 Z h r1 (.int 99) ∧ P13 Z h r1 (.int 0) ∧ P11 Z h r1 (.int 0) ∧ P10 Z h r1 (.ref r3) ∧ P1 Z h r0 (.int 0) ∧ P5 Z h r0 (.ref b23_0) ∧ P3 Z h r0 (.ref r5) ∧ P4 Z h r0 (.int 12) ∧ P2 Z h r0 (.int 0) ∧ P6 Z h r0 (.ref r6) ∧ P7 Z h r0 (.int 3) ∧ P8 Z h r0 (.int 3) ∧ P9 Z h r0 .null ∧ P17 Z h r7 (.int 98) ∧ P18 Z h r7 (.ref r9) ∧ P19 Z h r7 (.ref r10) ∧ P21 Z h r7 (.ref b23_0) ∧ Arv Z h r5 k8 (.object "java/util/HashMap$Node") (16 : Int32) [.null, (.ref r6), (.ref r7), (.ref b23_0), .null, .null, .null, .null, .null, .null, .null, .null, .null, .null, .null, .null] .null ∧ E_6 Z h b23_0 ∧ P17 Z h b23_0 (.int 99) ∧ P18 Z h b23_0 (.ref r1) ∧ P19 Z h b23_0 (.ref r2) ∧ P21 Z h b23_0 .null
/-- HashMap.put#4 -/
theorem t111 (hw : HW a0 Z) (SB0 : SB Z cv de ca) (r0 r1 r2 r3 : Addr) (k4 : ClassId) (r5 r6 r7 : Addr) (k8 : ClassId) (r9 r10 : Addr) (O0 : OL Z n0 h0) (q0 : E_2 Z h0 r1) (q1 : P12 Z h0 r1 (.int 0)) (q2 : P13 Z h0 r1 (.int 0)) (q3 : P11 Z h0 r1 (.int 0)) (q4 : P10 Z h0 r1 (.ref r3)) (q5 : Arv Z h0 r3 k4 .byte (1 : Int32) [(.int 99)] (.int 0)) (q6 : E_0 Z h0 r0) (q7 : P3 Z h0 r0 (.ref r5)) (q8 : Arv Z h0 r5 k8 (.object "java/util/HashMap$Node") (16 : Int32) [.null, (.ref r6), (.ref r7), .null, .null, .null, .null, .null, .null, .null, .null, .null, .null, .null, .null, .null] .null) (q9 : P1 Z h0 r0 (.int 0)) (q10 : P5 Z h0 r0 (.ref r7)) (q11 : P4 Z h0 r0 (.int 12)) (q12 : P2 Z h0 r0 (.int 0)) (q13 : P6 Z h0 r0 (.ref r6)) (q14 : P7 Z h0 r0 (.int 2)) (q15 : P8 Z h0 r0 (.int 2)) (q16 : P9 Z h0 r0 .null) (q17 : E_6 Z h0 r7) (q18 : P17 Z h0 r7 (.int 98)) (q19 : P18 Z h0 r7 (.ref r9)) (q20 : P19 Z h0 r7 (.ref r10)) (q21 : P21 Z h0 r7 .null) (q22 : E_5 Z h0 r5) (q23 : Ovr Z k8 "java/util/HashMap$Node") (ge0 : n0 ≤ r1) (ge1 : n0 ≤ r0) (ge2 : n0 ≤ r7) (ge3 : n0 ≤ r5) : CT l Z y26 B18 3 (some (.object "java/lang/Object")) ⟨5, 1, 6, 88⟩ #[(.ref r0), (.ref r1), (.ref r2)] h0 (Q111 Z cv de ca r0 r1 r2 r3 k4 r5 r6 r7 k8 r9 r10 h0 n0) := by
  refine ct_intro ?_
  intro p e s m below meth c s₁ E0 hx D hml hown hnm hrt X0 e0 hZ hE
  have Z0 := O0.le
  have K0 := Keep.refl h0 [r1, r0, r7, r5]
  have hws : ∀ w ∈ ([r1, r0, r7, r5] : List Addr), n0 ≤ w := (allS ge0 (allS ge1 (allS ge2 (allS ge3 all0))))
  have N0 := Fr.nil n0
  have pre0 := ctp #[vr r0, vr r1, vr r2] hE
  obtain ⟨v1, T1, L1, X1, Q1, st1⟩ := kS X0 hx hZ hown (t107 hw SB0 r1 r3 k4 (O0.keep K0 hws) q0 q1 q2 q3 q4 q5 ge0) (w_ hw 124 rfl) (w_ hw 125 rfl) (w_ hw 11 rfl) (w_ hw 126 rfl) e0 (g := (mkF m 2 #[vr r0, vr r1, vr r2] [(.ref r1), (.ref r0)])) rfl hml rfl (argsL := [(.ref r1)]) (rest := [(.ref r0)]) (lenOf pd14 rfl) rfl rfl (W := 1) rfl (D d18_2)
  obtain ⟨h1, e1⟩ : ∃ z, T1.heap = z := ⟨_, rfl⟩
  rw [e1] at Q1
  obtain ⟨rfl, M1, K1, F1_0, F1_1, F1_2, F1_3⟩ := Q1
  have N1 := N0.app M1
  have k1 := K0.trans K1 (allS (Or.inl (List.mem_of_getElem? (i := 0) rfl)) all0)
  have f3 := (q6.keep K1)
  have f4 := (q0.keep K1)
  have ne2 : r0 ≠ r1 := Exa.ne f3 f4 (by decide)
  have f5 := (q7.keep K1 (ninS ne2 nin0))
  have f7 := (q22.keep K1)
  have ne6 : r5 ≠ r1 := Exa.ne f7 f4 (by decide)
  have f8 := (q8.keep K1 (ninS ne6 nin0))
  have f9 := (q9.keep K1 (ninS ne2 nin0))
  have f10 := (q10.keep K1 (ninS ne2 nin0))
  have f11 := (q11.keep K1 (ninS ne2 nin0))
  have f12 := (q12.keep K1 (ninS ne2 nin0))
  have f13 := (q13.keep K1 (ninS ne2 nin0))
  have f14 := (q14.keep K1 (ninS ne2 nin0))
  have f15 := (q15.keep K1 (ninS ne2 nin0))
  have f16 := (q16.keep K1 (ninS ne2 nin0))
  have f17 := (q17.keep K1)
  have ne18 : r7 ≠ r1 := Exa.ne f17 f4 (by decide)
  have f19 := (q18.keep K1 (ninS ne18 nin0))
  have f20 := (q19.keep K1 (ninS ne18 nin0))
  have f21 := (q20.keep K1 (ninS ne18 nin0))
  have f22 := (q21.keep K1 (ninS ne18 nin0))
  obtain ⟨v23, T23, L23, X23, Q23, st23⟩ := kV (y := y35) (z := y35) X1 hx hZ hown (t110 hw SB0 r0 r1 r2 r5 r6 r7 k8 r9 r10 (O0.keep k1 hws) f5 f8 f3 f9 f10 f11 f12 f13 f14 f15 f16 f17 f19 f20 f21 f22 f7 q23 ge1 ge2 ge3) f3 (nf_of (x := y25) (y' := y26) (args := #[]) (mvT hZ (w_ hw 118 rfl)) rfl) (w_ hw 145 rfl) (w_ hw 146 rfl) (w_ hw 148 rfl) (w_ hw 147 rfl) (w_ hw 11 rfl) (w_ hw 149 rfl) e1 (g := (mkF m 9 #[vr r0, vr r1, vr r2] [(.int 1), (.int 0), (.ref r2), (.ref r1), (.int 99), (.ref r0)])) rfl hml rfl (argsL := [(.int 99), (.ref r1), (.ref r2), (.int 0), (.int 1)]) (rest := []) (lenOf pd21 rfl) rfl rfl (W := 0) rfl (D d18_9)
  obtain ⟨h23, e23⟩ : ∃ z, T23.heap = z := ⟨_, rfl⟩
  rw [e23] at Q23
  obtain ⟨b23_0, rfl, M23, K23, y23_0, F23_0, F23_1, F23_2, F23_3, F23_4, F23_5, F23_6, F23_7, F23_8, F23_9, F23_10, F23_11, F23_12, F23_13, F23_14, F23_15, F23_16, F23_17, F23_18⟩ := Q23
  have N23 := N1.app M23
  have z23_b23_0 := Nat.le_trans k1.1 y23_0
  have k23 := k1.trans K23 (allS (Or.inl (List.mem_of_getElem? (i := 1) rfl)) (allS (Or.inl (List.mem_of_getElem? (i := 2) rfl)) (allS (Or.inl (List.mem_of_getElem? (i := 3) rfl)) all0)))
  have f24 := (F1_0.keep K23 (ninS (Ne.symm ne2) (ninS (Ne.symm ne18) (ninS (Ne.symm ne6) nin0))))
  have f25 := (F1_1.keep K23 (ninS (Ne.symm ne2) (ninS (Ne.symm ne18) (ninS (Ne.symm ne6) nin0))))
  have f26 := (F1_2.keep K23 (ninS (Ne.symm ne2) (ninS (Ne.symm ne18) (ninS (Ne.symm ne6) nin0))))
  have f27 := (F1_3.keep K23 (ninS (Ne.symm ne2) (ninS (Ne.symm ne18) (ninS (Ne.symm ne6) nin0))))
  refine ⟨(some .null), T23, _, _, _, X23, (fun hh => by cases hh), (by rw [e23]; exact ⟨b23_0, rfl, N23, k23, z23_b23_0, f24, f25, f26, f27, F23_0, F23_1, F23_2, F23_3, F23_4, F23_5, F23_6, F23_7, F23_8, F23_9, F23_10, F23_11, F23_12, F23_13, F23_14, F23_15, F23_16, F23_17, F23_18⟩), (by decide), (by decide), fun fs hr => pre0 _ ?_⟩
  show SA p e below s₁ m 0 #[vr r0, vr r1, vr r2] [] _
  refine XS.aloadN X0.here hx rfl (D d18_0) rfl rfl ?_
  refine XS.aloadN X0.here hx rfl (D d18_1) rfl rfl ?_
  refine st1 _ ?_
  refine XS.aloadN X1.here hx rfl (D d18_5) rfl rfl ?_
  refine XS.aloadN X1.here hx rfl (D d18_6) rfl rfl ?_
  refine XS.iconst X1.here hx rfl (D d18_7) ?_
  refine XS.iconst X1.here hx rfl (D d18_8) ?_
  refine st23 _ ?_
  show SA p e below T23 m 12 #[vr r0, vr r1, vr r2] [.null] _
  exact retOut X23 hx hrt rfl (Or.inr (Or.inr (Or.inr (Or.inr ⟨rfl, rfl, rfl⟩)))) (D d18_12) hr
def Q112 (Z : State) (cv : Int32) (de ca : Addr) (r0 r1 r2 : Addr) (i3 : Int32) (r4 r5 : Addr) (h0 : Heap) (n0 : Nat) (v : Option Value) (h : Heap) (L : List Loc) : Prop := v = (some (.ref r1)) ∧ Fr n0 L ∧ Keep h0 h [r0] ∧ P33 Z h r0 (.ref r5) ∧ P31 Z h r0 (.ref r2) ∧ P34 Z h r0 (.int i3) ∧ P32 Z h r0 (.int 0) ∧ P35 Z h r0 (.ref r1)
/-- LinkedHashMap$LinkedHashIterator.nextNode#3 -/
theorem t112 (hw : HW a0 Z) (SB0 : SB Z cv de ca) (r0 r1 r2 : Addr) (i3 : Int32) (r4 r5 : Addr) (O0 : OL Z n0 h0) (q0 : P33 Z h0 r0 (.ref r1)) (q1 : P31 Z h0 r0 (.ref r2)) (q2 : P7 Z h0 r2 (.int i3)) (q3 : P34 Z h0 r0 (.int i3)) (q4 : E_10 Z h0 r0) (q5 : P32 Z h0 r0 (.int 0)) (q6 : P35 Z h0 r0 (.ref r4)) (q7 : P21 Z h0 r1 (.ref r5)) (q8 : E_6 Z h0 r1) (ge0 : n0 ≤ r0) : CT l Z y47 B42 2 (some (.object "java/util/LinkedHashMap$Entry")) ⟨0, 0, 0, 0⟩ #[(.ref r0)] h0 (Q112 Z cv de ca r0 r1 r2 i3 r4 r5 h0 n0) := by
  refine ct_intro ?_
  intro p e s m below meth c s₁ E0 hx D hml hown hnm hrt X0 e0 hZ hE
  have Z0 := O0.le
  have K0 := Keep.refl h0 [r0]
  have hws : ∀ w ∈ ([r0] : List Addr), n0 ≤ w := (allS ge0 all0)
  have N0 := Fr.nil n0
  have pre0 := ctp #[vr r0, un] hE
  have nin_r1 : r1 ∉ ([r0] : List Addr) := (ninS (Exa.ne q8 q4 (by decide)) nin0)
  obtain ⟨T1, X1, e1, st1⟩ := gF X0 hx hZ hown (w_ hw 290 rfl) Via.refl e0 q0 (g := (mkF m 1 #[vr r0, un] [(.ref r0)])) rfl rfl (D d42_1)
  obtain ⟨T2, X2, e2, st2⟩ := gF X1 hx hZ hown (w_ hw 284 rfl) Via.refl e1 q1 (g := (mkF m 6 #[vr r0, vr r1] [(.ref r0)])) rfl rfl (D d42_6)
  obtain ⟨T3, X3, e3, st3⟩ := gF X2 hx hZ hown (w_ hw 292 rfl) (Via.of (w_ hw 293 rfl)) e2 q2 (g := (mkF m 9 #[vr r0, vr r1] [(.ref r2)])) rfl rfl (D d42_9)
  obtain ⟨T4, X4, e4, st4⟩ := gF X3 hx hZ hown (w_ hw 294 rfl) Via.refl e3 q3 (g := (mkF m 13 #[vr r0, vr r1] [(.ref r0), (.int i3)])) rfl rfl (D d42_13)
  obtain ⟨T5, h5, X5, e5, W5, st5⟩ := putF X4 hx hZ hown (host := "") (Or.inl (w_ hw 296 rfl)) Via.refl e4 q6 q4 (Or.inl (w_ hw 297 rfl)) (w_ hw 272 rfl) (ty := (.object "java/util/LinkedHashMap$Entry")) (by decide) rfl rfl (g := (mkF m 41 #[vr r0, vr r1] [(.ref r1), (.ref r0)])) rfl rfl (D d42_41)
  have N5 := Fr.snoc X5 N0 ge0
  have k5 := K0.wr W5 (Or.inl (List.mem_of_getElem? (i := 0) rfl))
  have v5 := q6.same W5
  have f6 := (q5.other W5 (Or.inr (Ne.symm (sn76 hw))))
  obtain ⟨T7, X7, e7, st7⟩ := gF X5 hx hZ hown (w_ hw 287 rfl) Via.refl e5 f6 (g := (mkF m 46 #[vr r0, vr r1] [(.ref r0), (.ref r0)])) rfl rfl (D d42_46)
  have f8 := q7.keep k5 nin_r1
  obtain ⟨T9, X9, e9, st9⟩ := gF X7 hx hZ hown (w_ hw 326 rfl) Via.refl e7 f8 (g := (mkF m 60 #[vr r0, vr r1] [(.ref r1), (.ref r0)])) rfl rfl (D d42_60)
  have f10 := (q0.other W5 (Or.inr (Ne.symm (sn77 hw))))
  have f11 := (q4.wr W5)
  obtain ⟨T12, h12, X12, e12, W12, st12⟩ := putF X9 hx hZ hown (host := "") (Or.inl (w_ hw 290 rfl)) Via.refl e9 f10 f11 (Or.inl (w_ hw 291 rfl)) (w_ hw 272 rfl) (ty := (.object "java/util/LinkedHashMap$Entry")) (by decide) rfl rfl (g := (mkF m 63 #[vr r0, vr r1] [(.ref r5), (.ref r0)])) rfl rfl (D d42_63)
  have N12 := Fr.snoc X12 N5 ge0
  have k12 := k5.wr W12 (Or.inl (List.mem_of_getElem? (i := 0) rfl))
  have v12 := f10.same W12
  have f13 := ((q1.other W5 (Or.inr (Ne.symm (sn75 hw)))).other W12 (Or.inr (Ne.symm (sn70 hw))))
  have f14 := ((q3.other W5 (Or.inr (Ne.symm (sn78 hw)))).other W12 (Or.inr (sn74 hw)))
  have f15 := (f6.other W12 (Or.inr (Ne.symm (sn71 hw))))
  have f16 := (v5.other W12 (Or.inr (sn77 hw)))
  refine ⟨(some (.ref r1)), T12, _, _, _, X12, (fun hh => by cases hh), (by rw [e12]; exact ⟨rfl, N12, k12, v12, f13, f14, f15, f16⟩), (by decide), (by decide), fun fs hr => pre0 _ ?_⟩
  show SA p e below s₁ m 0 #[vr r0, un] [] _
  refine XS.aloadN X0.here hx rfl (D d42_0) rfl rfl ?_
  refine st1 _ ?_
  refine XS.astoreN X1.here hx rfl (D d42_4) rfl rfl (l' := #[vr r0, vr r1]) rfl ?_
  refine XS.aloadN X1.here hx rfl (D d42_5) rfl rfl ?_
  refine st2 _ ?_
  refine st3 _ ?_
  refine XS.aloadN X3.here hx rfl (D d42_12) rfl rfl ?_
  refine st4 _ ?_
  refine XS.icmpYes X4.here hx rfl (pc0 := 16) (pc' := 27) rfl (D d42_16) rfl (teq rfl).1 (by decide) (by decide) ?_
  refine XS.aloadN X4.here hx rfl (D d42_27) rfl rfl ?_
  refine XS.ifnonnullYes X4.here hx rfl (pc0 := 28) (pc' := 39) rfl (D d42_28) rfl (by decide) (by decide) ?_
  refine XS.aloadN X4.here hx rfl (D d42_39) rfl rfl ?_
  refine XS.aloadN X4.here hx rfl (D d42_40) rfl rfl ?_
  refine st5 _ ?_
  refine XS.aloadN X5.here hx rfl (D d42_44) rfl rfl ?_
  refine XS.aloadN X5.here hx rfl (D d42_45) rfl rfl ?_
  refine st7 _ ?_
  refine XS.ifYes X7.here hx rfl (pc0 := 49) (pc' := 59) rfl (D d42_49) rfl ((if0 _ _).trans (teq (by decide : ((0 : Int32) = (0 : Int32)))).1) (by decide) (by decide) ?_
  refine XS.aloadN X7.here hx rfl (D d42_59) rfl rfl ?_
  refine st9 _ ?_
  refine st12 _ ?_
  refine XS.aloadN X12.here hx rfl (D d42_66) rfl rfl ?_
  show SA p e below T12 m 67 #[vr r0, vr r1] [(.ref r1)] _
  exact retOut X12 hx hrt rfl (Or.inr (Or.inr (Or.inr (Or.inr ⟨rfl, rfl, rfl⟩)))) (D d42_67) hr
def Q113 (Z : State) (cv : Int32) (de ca : Addr) (r0 r1 r2 : Addr) (i3 : Int32) (r4 r5 : Addr) (h0 : Heap) (n0 : Nat) (v : Option Value) (h : Heap) (L : List Loc) : Prop := v = (some (.ref r1)) ∧ Fr n0 L ∧ Keep h0 h [r0] ∧ P33 Z h r0 (.ref r5) ∧ P31 Z h r0 (.ref r2) ∧ P34 Z h r0 (.int i3) ∧ P32 Z h r0 (.int 0) ∧ P35 Z h r0 (.ref r1)
/-- LinkedHashMap$LinkedEntryIterator.next#3 -/
theorem t113 (hw : HW a0 Z) (SB0 : SB Z cv de ca) (r0 r1 r2 : Addr) (i3 : Int32) (r4 r5 : Addr) (O0 : OL Z n0 h0) (q0 : E_10 Z h0 r0) (q1 : P33 Z h0 r0 (.ref r1)) (q2 : P31 Z h0 r0 (.ref r2)) (q3 : P7 Z h0 r2 (.int i3)) (q4 : P34 Z h0 r0 (.int i3)) (q5 : P32 Z h0 r0 (.int 0)) (q6 : P35 Z h0 r0 (.ref r4)) (q7 : P21 Z h0 r1 (.ref r5)) (q8 : E_6 Z h0 r1) (ge0 : n0 ≤ r0) : CT l Z y49 B41 1 (some (.object "java/util/Map$Entry")) ⟨1, 0, 0, 13⟩ #[(.ref r0)] h0 (Q113 Z cv de ca r0 r1 r2 i3 r4 r5 h0 n0) := by
  refine ct_intro ?_
  intro p e s m below meth c s₁ E0 hx D hml hown hnm hrt X0 e0 hZ hE
  have Z0 := O0.le
  have K0 := Keep.refl h0 [r0]
  have hws : ∀ w ∈ ([r0] : List Addr), n0 ≤ w := (allS ge0 all0)
  have N0 := Fr.nil n0
  have pre0 := ctp #[vr r0] hE
  obtain ⟨v1, T1, L1, X1, Q1, st1⟩ := kU (x := y48) (y := y47) (owner := "java/util/LinkedHashMap$LinkedHashIterator") X0 hx hZ hown (t112 hw SB0 r0 r1 r2 i3 r4 r5 (O0.keep K0 hws) q1 q2 q3 q4 q0 q5 q6 q7 q8 ge0) q0 (w_ hw 320 rfl) (w_ hw 321 rfl) (w_ hw 322 rfl) (w_ hw 324 rfl) (w_ hw 323 rfl) (w_ hw 282 rfl) (w_ hw 325 rfl) e0 (g := (mkF m 1 #[vr r0] [(.ref r0)])) rfl hml rfl (argsL := []) (rest := []) (lenOf pd27 rfl) rfl rfl (W := 0) rfl (D d41_1)
  obtain ⟨h1, e1⟩ : ∃ z, T1.heap = z := ⟨_, rfl⟩
  rw [e1] at Q1
  obtain ⟨rfl, M1, K1, F1_0, F1_1, F1_2, F1_3, F1_4⟩ := Q1
  have N1 := N0.app M1
  have k1 := K0.trans K1 (allS (Or.inl (List.mem_of_getElem? (i := 0) rfl)) all0)
  refine ⟨(some (.ref r1)), T1, _, _, _, X1, (fun hh => by cases hh), (by rw [e1]; exact ⟨rfl, N1, k1, F1_0, F1_1, F1_2, F1_3, F1_4⟩), (by decide), (by decide), fun fs hr => pre0 _ ?_⟩
  show SA p e below s₁ m 0 #[vr r0] [] _
  refine XS.aloadN X0.here hx rfl (D d41_0) rfl rfl ?_
  refine st1 _ ?_
  show SA p e below T1 m 4 #[vr r0] [(.ref r1)] _
  exact retOut X1 hx hrt rfl (Or.inr (Or.inr (Or.inr (Or.inr ⟨rfl, rfl, rfl⟩)))) (D d41_4) hr
def Q114 (Z : State) (cv : Int32) (de ca : Addr) (r0 r1 r2 : Addr) (i3 : Int32) (r4 r5 : Addr) (h0 : Heap) (n0 : Nat) (v : Option Value) (h : Heap) (L : List Loc) : Prop := v = (some (.ref r1)) ∧ Fr n0 L ∧ Keep h0 h [r0] ∧ P33 Z h r0 (.ref r5) ∧ P31 Z h r0 (.ref r2) ∧ P34 Z h r0 (.int i3) ∧ P32 Z h r0 (.int 0) ∧ P35 Z h r0 (.ref r1)
/-- LinkedHashMap$LinkedEntryIterator.next#3 -/
theorem t114 (hw : HW a0 Z) (SB0 : SB Z cv de ca) (r0 r1 r2 : Addr) (i3 : Int32) (r4 r5 : Addr) (O0 : OL Z n0 h0) (q0 : E_10 Z h0 r0) (q1 : P33 Z h0 r0 (.ref r1)) (q2 : P31 Z h0 r0 (.ref r2)) (q3 : P7 Z h0 r2 (.int i3)) (q4 : P34 Z h0 r0 (.int i3)) (q5 : P32 Z h0 r0 (.int 0)) (q6 : P35 Z h0 r0 (.ref r4)) (q7 : P21 Z h0 r1 (.ref r5)) (q8 : E_6 Z h0 r1) (ge0 : n0 ≤ r0) : CT l Z y51 B40 1 (some (.object "java/lang/Object")) ⟨2, 0, 0, 25⟩ #[(.ref r0)] h0 (Q114 Z cv de ca r0 r1 r2 i3 r4 r5 h0 n0) := by
  refine ct_intro ?_
  intro p e s m below meth c s₁ E0 hx D hml hown hnm hrt X0 e0 hZ hE
  have Z0 := O0.le
  have K0 := Keep.refl h0 [r0]
  have hws : ∀ w ∈ ([r0] : List Addr), n0 ≤ w := (allS ge0 all0)
  have N0 := Fr.nil n0
  have pre0 := ctp #[vr r0] hE
  obtain ⟨v1, T1, L1, X1, Q1, st1⟩ := kV (y := y49) (z := y49) X0 hx hZ hown (t113 hw SB0 r0 r1 r2 i3 r4 r5 (O0.keep K0 hws) q0 q1 q2 q3 q4 q5 q6 q7 q8 ge0) q0 (nf_of (x := y50) (y' := y51) (args := #[]) (mvT hZ (w_ hw 310 rfl)) rfl) (w_ hw 315 rfl) (w_ hw 316 rfl) (w_ hw 318 rfl) (w_ hw 317 rfl) (w_ hw 273 rfl) (w_ hw 319 rfl) e0 (g := (mkF m 1 #[vr r0] [(.ref r0)])) rfl hml rfl (argsL := []) (rest := []) (lenOf pd28 rfl) rfl rfl (W := 0) rfl (D d40_1)
  obtain ⟨h1, e1⟩ : ∃ z, T1.heap = z := ⟨_, rfl⟩
  rw [e1] at Q1
  obtain ⟨rfl, M1, K1, F1_0, F1_1, F1_2, F1_3, F1_4⟩ := Q1
  have N1 := N0.app M1
  have k1 := K0.trans K1 (allS (Or.inl (List.mem_of_getElem? (i := 0) rfl)) all0)
  refine ⟨(some (.ref r1)), T1, _, _, _, X1, (fun hh => by cases hh), (by rw [e1]; exact ⟨rfl, N1, k1, F1_0, F1_1, F1_2, F1_3, F1_4⟩), (by decide), (by decide), fun fs hr => pre0 _ ?_⟩
  show SA p e below s₁ m 0 #[vr r0] [] _
  refine XS.aloadN X0.here hx rfl (D d40_0) rfl rfl ?_
  refine st1 _ ?_
  show SA p e below T1 m 4 #[vr r0] [(.ref r1)] _
  exact retOut X1 hx hrt rfl (Or.inr (Or.inr (Or.inr (Or.inr ⟨rfl, rfl, rfl⟩)))) (D d40_4) hr
/-- String.hashCode#5 -/
theorem t115 (hw : HW a0 Z) (SB0 : SB Z cv de ca) (r0 : Addr) (O0 : OL Z n0 h0) (q0 : P12 Z h0 r0 (.int 99))  : CT l Z y19 B20 2 (some .int) ⟨0, 0, 0, 0⟩ #[(.ref r0)] h0 (QP0 (some (.int 99)) h0 n0) := by
  refine ct_intro ?_
  intro p e s m below meth c s₁ E0 hx D hml hown hnm hrt X0 e0 hZ hE
  have N0 := Fr.nil n0
  have pre0 := ctp #[vr r0, un] hE
  obtain ⟨T1, X1, e1, st1⟩ := gF X0 hx hZ hown (w_ hw 133 rfl) Via.refl e0 q0 (g := (mkF m 1 #[vr r0, un] [(.ref r0)])) rfl rfl (D d20_1)
  refine ⟨(some (.int 99)), T1, _, _, _, X1, (fun hh => by cases hh), (by rw [e1]; exact ⟨rfl, N0, rfl⟩), (by decide), (by decide), fun fs hr => pre0 _ ?_⟩
  show SA p e below s₁ m 0 #[vr r0, un] [] _
  refine XS.aloadN X0.here hx rfl (D d20_0) rfl rfl ?_
  refine st1 _ ?_
  refine XS.istoreN X1.here hx rfl (D d20_4) rfl (l' := #[vr r0, vi 99]) rfl ?_
  refine XS.iloadN X1.here hx rfl (D d20_5) rfl ?_
  refine XS.ifYes X1.here hx rfl (pc0 := 6) (pc' := 58) rfl (D d20_6) rfl ((if0 _ _).trans (feq (by decide : ¬ ((99 : Int32) = (0 : Int32)))).2) (by decide) (by decide) ?_
  refine XS.iloadN X1.here hx rfl (D d20_58) rfl ?_
  show SA p e below T1 m 59 #[vr r0, vi 99] [(.int 99)] _
  exact retOut X1 hx hrt rfl (Or.inl ⟨rfl, Or.inl rfl, _, rfl⟩) (D d20_59) hr
/-- HashMap.hash#5 -/
theorem t116 (hw : HW a0 Z) (SB0 : SB Z cv de ca) (r0 : Addr) (O0 : OL Z n0 h0) (q0 : E_2 Z h0 r0) (q1 : P12 Z h0 r0 (.int 99))  : CT l Z y23 B19 2 (some .int) ⟨1, 0, 0, 13⟩ #[(.ref r0)] h0 (QP0 (some (.int 99)) h0 n0) := by
  refine ct_intro ?_
  intro p e s m below meth c s₁ E0 hx D hml hown hnm hrt X0 e0 hZ hE
  have Z0 := O0.le
  have K0 := Keep.refl h0 []
  have hws : ∀ w ∈ ([] : List Addr), n0 ≤ w := all0
  have N0 := Fr.nil n0
  have pre0 := ctp #[vr r0, un] hE
  obtain ⟨v1, T1, L1, X1, Q1, st1⟩ := kV (y := y18) (z := y19) X0 hx hZ hown (t115 hw SB0 r0 (O0.keep K0 hws) q1) q0 (nf_of (x := y21) (y' := y22) (args := #[]) (mvT hZ (w_ hw 424 rfl)) rfl) (w_ hw 127 rfl) (w_ hw 128 rfl) (w_ hw 130 rfl) (w_ hw 131 rfl) (w_ hw 31 rfl) (w_ hw 132 rfl) e0 (g := (mkF m 9 #[vr r0, un] [(.ref r0)])) rfl hml rfl (argsL := []) (rest := []) (lenOf pd13 rfl) rfl rfl (W := 0) rfl (D d19_9)
  obtain ⟨rfl, M1, e1⟩ := Q1
  have N1 := N0.app M1
  refine ⟨(some (.int 99)), T1, _, _, _, X1, (fun hh => by cases hh), (by rw [e1]; exact ⟨rfl, N1, rfl⟩), (by decide), (by decide), fun fs hr => pre0 _ ?_⟩
  show SA p e below s₁ m 0 #[vr r0, un] [] _
  refine XS.aloadN X0.here hx rfl (D d19_0) rfl rfl ?_
  refine XS.ifnonnullYes X0.here hx rfl (pc0 := 1) (pc' := 8) rfl (D d19_1) rfl (by decide) (by decide) ?_
  refine XS.aloadN X0.here hx rfl (D d19_8) rfl rfl ?_
  refine st1 _ ?_
  refine XS.dup X1.here hx rfl (D d19_12) rfl rfl ?_
  refine XS.istoreN X1.here hx rfl (D d19_13) rfl (l' := #[vr r0, vi 99]) rfl ?_
  refine XS.iloadN X1.here hx rfl (D d19_14) rfl ?_
  refine XS.bipush X1.here hx rfl (D d19_15) ?_
  refine XS.iushr X1.here hx rfl (D d19_17) rfl ?_
  refine XS.ixor X1.here hx rfl (D d19_18) rfl ?_
  show SA p e below T1 m 19 #[vr r0, vi 99] [(.int 99)] _
  exact retOut X1 hx hrt rfl (Or.inl ⟨rfl, Or.inl rfl, _, rfl⟩) (D d19_19) hr
def Q117 (Z : State) (cv : Int32) (de ca : Addr) (r0 r1 r2 r3 r4 r5 : Addr) (k6 : ClassId) (h0 : Heap) (n0 : Nat) (v : Option Value) (h : Heap) (L : List Loc) : Prop := ∃ (b4_0 : Addr), v = (some .null) ∧ Fr n0 L ∧ Keep h0 h [r3, r0] ∧ h0.size ≤ b4_0 ∧ Arv Z h r3 k6 (.object "java/util/HashMap$Node") (16 : Int32) [.null, (.ref r4), (.ref r5), (.ref b4_0), .null, .null, .null, .null, .null, .null, .null, .null, .null, .null, .null, .null] .null ∧ P3 Z h r0 (.ref r3) ∧ P7 Z h r0 (.int 3) ∧ P4 Z h r0 (.int 12) ∧ P8 Z h r0 (.int 3) ∧ E_12 Z h b4_0 ∧ P17 Z h b4_0 (.int 99) ∧ P18 Z h b4_0 (.ref r1) ∧ P19 Z h b4_0 (.ref r2)
/-- HashMap.putVal#5 -/
theorem t117 (hw : HW a0 Z) (SB0 : SB Z cv de ca) (r0 r1 r2 r3 r4 r5 : Addr) (k6 : ClassId) (O0 : OL Z n0 h0) (q0 : P3 Z h0 r0 (.ref r3)) (q1 : Arv Z h0 r3 k6 (.object "java/util/HashMap$Node") (16 : Int32) [.null, (.ref r4), (.ref r5), .null, .null, .null, .null, .null, .null, .null, .null, .null, .null, .null, .null, .null] .null) (q2 : E_7 Z h0 r0) (q3 : E_5 Z h0 r3) (q4 : Ovr Z k6 "java/util/HashMap$Node") (q5 : P7 Z h0 r0 (.int 2)) (q6 : P4 Z h0 r0 (.int 12)) (q7 : P8 Z h0 r0 (.int 2)) (ge0 : n0 ≤ r3) (ge1 : n0 ≤ r0) : CT l Z y35 B23 13 (some (.object "java/lang/Object")) ⟨3, 1, 4, 47⟩ #[(.ref r0), (.int 99), (.ref r1), (.ref r2), (.int 0), (.int 1)] h0 (Q117 Z cv de ca r0 r1 r2 r3 r4 r5 k6 h0 n0) := by
  refine ct_intro ?_
  intro p e s m below meth c s₁ E0 hx D hml hown hnm hrt X0 e0 hZ hE
  have Z0 := O0.le
  have K0 := Keep.refl h0 [r3, r0]
  have hws : ∀ w ∈ ([r3, r0] : List Addr), n0 ≤ w := (allS ge0 (allS ge1 all0))
  have N0 := Fr.nil n0
  have pre0 := ctp #[vr r0, vi 99, vr r1, vr r2, vi 0, vi 1, un, un, un, un, un, un, un] hE
  obtain ⟨T1, X1, e1, st1⟩ := gF X0 hx hZ hown (w_ hw 150 rfl) Via.refl e0 q0 (g := (mkF m 1 #[vr r0, vi 99, vr r1, vr r2, vi 0, vi 1, un, un, un, un, un, un, un] [(.ref r0)])) rfl rfl (D d23_1)
  obtain ⟨_, Ar2, -, S2, M2, -, -⟩ := id q1
  obtain ⟨_, Ar3, -, S3, M3, H3, -⟩ := id q1
  obtain ⟨v4, T4, L4, X4, Q4, st4⟩ := kV (y := y30) (z := y30) X1 hx hZ hown (t57 hw SB0 r0 (99 : Int32) r1 r2 (O0.keep K0 hws) ) q2 (nf_of (x := y25) (y' := y26) (args := #[]) (mvT hZ (w_ hw 118 rfl)) rfl) (w_ hw 161 rfl) (w_ hw 162 rfl) (w_ hw 354 rfl) (w_ hw 163 rfl) (w_ hw 11 rfl) (w_ hw 355 rfl) e1 (g := (mkF m 56 #[vr r0, vi 99, vr r1, vr r2, vi 0, vi 1, vr r3, .val .null, vi 16, vi 3, un, un, un] [.null, (.ref r2), (.ref r1), (.int 99), (.ref r0), (.int 3), (.ref r3)])) rfl hml rfl (argsL := [(.int 99), (.ref r1), (.ref r2), .null]) (rest := [(.int 3), (.ref r3)]) (lenOf pd18 rfl) rfl rfl (W := 2) rfl (D d23_56)
  obtain ⟨h4, e4⟩ : ∃ z, T4.heap = z := ⟨_, rfl⟩
  rw [e4] at Q4
  obtain ⟨b4_0, rfl, M4, K4, y4_0, F4_0, F4_1, F4_2, F4_3⟩ := Q4
  have N4 := N0.app M4
  have z4_b4_0 := Nat.le_trans K0.1 y4_0
  have k4 := K0.trans K4 all0
  have f5 := (q1.keep K4 nin0)
  obtain ⟨_, Ar6, C6, S6, M6, H6, G6⟩ := id f5
  obtain ⟨T7, h7, X7, e7, W7, st7⟩ := stR X4 hx hZ e4 Ar6 (j := (3 : Int32)) (inb_of S6 ⟨by decide, by decide⟩) rfl (Sto.ofV Ar6 C6 q4 (Ins.self F4_0)) (g := (mkF m 59 #[vr r0, vi 99, vr r1, vr r2, vi 0, vi 1, vr r3, .val .null, vi 16, vi 3, un, un, un] [(.ref b4_0), (.int 3), (.ref r3)])) rfl rfl (D d23_59)
  have N7 := Fr.snoc X7 N4 ge0
  have k7 := k4.wr W7 (Or.inl (List.mem_of_getElem? (i := 0) rfl))
  have v7 : Arv Z h7 r3 k6 (.object "java/util/HashMap$Node") (16 : Int32) [.null, (.ref r4), (.ref r5), (.ref b4_0), .null, .null, .null, .null, .null, .null, .null, .null, .null, .null, .null, .null] .null := Arv.set Ar6 C6 S6 M6 H6 G6 rfl W7 3 rfl (by show 3 < 16; decide)
  have f9 := q2.keep k7
  have f10 := ((q3.keep K4).wr W7)
  have ne8 : r0 ≠ r3 := Exa.ne f9 f10 (by decide)
  have f11 := ((q5.keep K4 nin0).other W7 (Or.inl ne8))
  obtain ⟨T12, X12, e12, st12⟩ := gF X7 hx hZ hown (w_ hw 198 rfl) Via.refl e7 f11 (g := (mkF m 261 #[vr r0, vi 99, vr r1, vr r2, vi 0, vi 1, vr r3, .val .null, vi 16, vi 3, un, un, un] [(.ref r0), (.ref r0)])) rfl rfl (D d23_261)
  obtain ⟨T13, h13, X13, e13, W13, st13⟩ := putF X12 hx hZ hown (host := "") (Or.inl (w_ hw 198 rfl)) Via.refl e12 f11 f9 (Or.inl (w_ hw 363 rfl)) (w_ hw 221 rfl) (ty := .int) (by decide) rfl rfl (g := (mkF m 266 #[vr r0, vi 99, vr r1, vr r2, vi 0, vi 1, vr r3, .val .null, vi 16, vi 3, un, un, un] [(.int 3), (.ref r0)])) rfl rfl (D d23_266)
  have N13 := Fr.snoc X13 N7 ge1
  have k13 := k7.wr W13 (Or.inl (List.mem_of_getElem? (i := 1) rfl))
  have v13 := f11.same W13
  have f14 := (((q7.keep K4 nin0).other W7 (Or.inl ne8)).other W13 (Or.inr (sn65 hw)))
  obtain ⟨T15, X15, e15, st15⟩ := gF X13 hx hZ hown (w_ hw 200 rfl) Via.refl e13 f14 (g := (mkF m 271 #[vr r0, vi 99, vr r1, vr r2, vi 0, vi 1, vr r3, .val .null, vi 16, vi 3, un, un, un] [(.ref r0), (.ref r0)])) rfl rfl (D d23_271)
  have f16 := (f9.wr W13)
  obtain ⟨T17, h17, X17, e17, W17, st17⟩ := putF X15 hx hZ hown (host := "") (Or.inl (w_ hw 200 rfl)) Via.refl e15 f14 f16 (Or.inl (w_ hw 364 rfl)) (w_ hw 221 rfl) (ty := .int) (by decide) rfl rfl (g := (mkF m 277 #[vr r0, vi 99, vr r1, vr r2, vi 0, vi 1, vr r3, .val .null, vi 16, vi 3, un, un, un] [(.int 3), (.ref r0), (.int 3)])) rfl rfl (D d23_277)
  have N17 := Fr.snoc X17 N13 ge1
  have k17 := k13.wr W17 (Or.inl (List.mem_of_getElem? (i := 1) rfl))
  have v17 := f14.same W17
  have f18 := ((((q6.keep K4 nin0).other W7 (Or.inl ne8)).other W13 (Or.inr (Ne.symm (sn38 hw)))).other W17 (Or.inr (Ne.symm (sn40 hw))))
  obtain ⟨T19, X19, e19, st19⟩ := gF X17 hx hZ hown (w_ hw 157 rfl) Via.refl e17 f18 (g := (mkF m 281 #[vr r0, vi 99, vr r1, vr r2, vi 0, vi 1, vr r3, .val .null, vi 16, vi 3, un, un, un] [(.ref r0), (.int 3)])) rfl rfl (D d23_281)
  have f20 := (f16.wr W17)
  obtain ⟨v21, T21, L21, X21, Q21, st21⟩ := kV (y := y34) (z := y34) X19 hx hZ hown (t58 hw SB0 r0 (O0.keep k17 hws) ) f20 (nf_of (x := y25) (y' := y26) (args := #[]) (mvT hZ (w_ hw 118 rfl)) rfl) (w_ hw 202 rfl) (w_ hw 203 rfl) (w_ hw 365 rfl) (w_ hw 204 rfl) (w_ hw 11 rfl) (w_ hw 366 rfl) e19 (g := (mkF m 295 #[vr r0, vi 99, vr r1, vr r2, vi 0, vi 1, vr r3, .val .null, vi 16, vi 3, un, un, un] [(.int 1), (.ref r0)])) rfl hml rfl (argsL := [(.int 1)]) (rest := []) (lenOf pd20 rfl) rfl rfl (W := 0) rfl (D d23_295)
  obtain ⟨rfl, M21, e21⟩ := Q21
  have N21 := N17.app M21
  have f22 := ((v7.other W13 (Ne.symm ne8)).other W17 (Ne.symm ne8))
  have f23 := ((((q0.keep K4 nin0).other W7 (Or.inl ne8)).other W13 (Or.inr (Ne.symm (sn39 hw)))).other W17 (Or.inr (Ne.symm (sn41 hw))))
  have f24 := (v13.other W17 (Or.inr (Ne.symm (sn65 hw))))
  have f25 := (((F4_0.wr W7).wr W13).wr W17)
  have f27 := ((f10.wr W13).wr W17)
  have ne26 : b4_0 ≠ r3 := Exa.ne f25 f27 (by decide)
  have ne28 : b4_0 ≠ r0 := Exa.ne f25 f20 (by decide)
  have f29 := (((F4_1.other W7 (Or.inl ne26)).other W13 (Or.inl ne28)).other W17 (Or.inl ne28))
  have f30 := (((F4_2.other W7 (Or.inl ne26)).other W13 (Or.inl ne28)).other W17 (Or.inl ne28))
  have f31 := (((F4_3.other W7 (Or.inl ne26)).other W13 (Or.inl ne28)).other W17 (Or.inl ne28))
  refine ⟨(some .null), T21, _, _, _, X21, (fun hh => by cases hh), (by rw [e21]; exact ⟨b4_0, rfl, N21, k17, z4_b4_0, f22, f23, f24, f18, v17, f25, f29, f30, f31⟩), (by decide), (by decide), fun fs hr => pre0 _ ?_⟩
  show SA p e below s₁ m 0 #[vr r0, vi 99, vr r1, vr r2, vi 0, vi 1, un, un, un, un, un, un, un] [] _
  refine XS.aloadN X0.here hx rfl (D d23_0) rfl rfl ?_
  refine st1 _ ?_
  refine XS.dup X1.here hx rfl (D d23_4) rfl rfl ?_
  refine XS.astore X1.here hx rfl (D d23_5) rfl rfl (l' := #[vr r0, vi 99, vr r1, vr r2, vi 0, vi 1, vr r3, un, un, un, un, un, un]) rfl ?_
  refine XS.ifnullNo X1.here hx rfl (D d23_7) rfl ?_
  refine XS.aload X1.here hx rfl (D d23_10) rfl rfl ?_
  refine X1.arraylength hx (by rw [e1]; exact Ar2.1) (State.isArrayOf_alike hZ.alike Ar2.2.1) (g := (mkF m 12 #[vr r0, vi 99, vr r1, vr r2, vi 0, vi 1, vr r3, un, un, un, un, un, un] [(.ref r3)])) rfl rfl (D d23_12) _ ?_
  rw [len_of S2 M2]
  show SA p e below T1 m 13 #[vr r0, vi 99, vr r1, vr r2, vi 0, vi 1, vr r3, un, un, un, un, un, un] [(.int 16)] _
  refine XS.dup X1.here hx rfl (D d23_13) rfl rfl ?_
  refine XS.istore X1.here hx rfl (D d23_14) rfl (l' := #[vr r0, vi 99, vr r1, vr r2, vi 0, vi 1, vr r3, un, vi 16, un, un, un, un]) rfl ?_
  refine XS.ifYes X1.here hx rfl (pc0 := 16) (pc' := 29) rfl (D d23_16) rfl ((if0 _ _).trans (feq (by decide : ¬ ((16 : Int32) = (0 : Int32)))).2) (by decide) (by decide) ?_
  refine XS.aload X1.here hx rfl (D d23_29) rfl rfl ?_
  refine XS.iload X1.here hx rfl (D d23_31) rfl ?_
  refine XS.iconst X1.here hx rfl (D d23_33) ?_
  refine XS.isub X1.here hx rfl (D d23_34) rfl ?_
  refine XS.iloadN X1.here hx rfl (D d23_35) rfl ?_
  refine XS.iand X1.here hx rfl (D d23_36) rfl ?_
  refine XS.dup X1.here hx rfl (D d23_37) rfl rfl ?_
  refine XS.istore X1.here hx rfl (D d23_38) rfl (l' := #[vr r0, vi 99, vr r1, vr r2, vi 0, vi 1, vr r3, un, vi 16, vi 3, un, un, un]) rfl ?_
  refine X1.aaload hx (j := (3 : Int32)) (v := .null) (by rw [e1]; exact Ar3.1) (State.isArrayOf_alike hZ.alike Ar3.2.1) rfl Ar3.2.2 (inb_of S3 ⟨by decide, by decide⟩) (Has.at H3 (inb_of S3 ⟨by decide, by decide⟩) rfl) (g := (mkF m 40 #[vr r0, vi 99, vr r1, vr r2, vi 0, vi 1, vr r3, un, vi 16, vi 3, un, un, un] [(.int 3), (.ref r3)])) rfl rfl (D d23_40) _ ?_
  show SA p e below T1 m 41 #[vr r0, vi 99, vr r1, vr r2, vi 0, vi 1, vr r3, un, vi 16, vi 3, un, un, un] [.null] _
  refine XS.dup X1.here hx rfl (D d23_41) rfl rfl ?_
  refine XS.astore X1.here hx rfl (D d23_42) rfl rfl (l' := #[vr r0, vi 99, vr r1, vr r2, vi 0, vi 1, vr r3, .val .null, vi 16, vi 3, un, un, un]) rfl ?_
  refine XS.ifnonnullNo X1.here hx rfl (D d23_44) rfl ?_
  refine XS.aload X1.here hx rfl (D d23_47) rfl rfl ?_
  refine XS.iload X1.here hx rfl (D d23_49) rfl ?_
  refine XS.aloadN X1.here hx rfl (D d23_51) rfl rfl ?_
  refine XS.iloadN X1.here hx rfl (D d23_52) rfl ?_
  refine XS.aloadN X1.here hx rfl (D d23_53) rfl rfl ?_
  refine XS.aloadN X1.here hx rfl (D d23_54) rfl rfl ?_
  refine XS.aconstNull X1.here hx rfl (D d23_55) ?_
  refine st4 _ ?_
  refine st7 _ ?_
  refine XS.goto X7.here hx rfl (pc0 := 60) (pc' := 259) rfl (D d23_60) (by decide) (by decide) ?_
  refine XS.aloadN X7.here hx rfl (D d23_259) rfl rfl ?_
  refine XS.dup X7.here hx rfl (D d23_260) rfl rfl ?_
  refine st12 _ ?_
  refine XS.iconst X12.here hx rfl (D d23_264) ?_
  refine XS.iadd X12.here hx rfl (D d23_265) rfl ?_
  refine st13 _ ?_
  refine XS.aloadN X13.here hx rfl (D d23_269) rfl rfl ?_
  refine XS.dup X13.here hx rfl (D d23_270) rfl rfl ?_
  refine st15 _ ?_
  refine XS.iconst X15.here hx rfl (D d23_274) ?_
  refine XS.iadd X15.here hx rfl (D d23_275) rfl ?_
  refine XS.dupX1 X15.here hx rfl (D d23_276) rfl rfl rfl ?_
  refine st17 _ ?_
  refine XS.aloadN X17.here hx rfl (D d23_280) rfl rfl ?_
  refine st19 _ ?_
  refine XS.icmpYes X19.here hx rfl (pc0 := 284) (pc' := 292) rfl (D d23_284) rfl (flt (by decide : ¬ ((12 : Int32) < (3 : Int32)))).2.2.2 (by decide) (by decide) ?_
  refine XS.aloadN X19.here hx rfl (D d23_292) rfl rfl ?_
  refine XS.iload X19.here hx rfl (D d23_293) rfl ?_
  refine st21 _ ?_
  refine XS.aconstNull X21.here hx rfl (D d23_298) ?_
  show SA p e below T21 m 299 #[vr r0, vi 99, vr r1, vr r2, vi 0, vi 1, vr r3, .val .null, vi 16, vi 3, un, un, un] [.null] _
  exact retOut X21 hx hrt rfl (Or.inr (Or.inr (Or.inr (Or.inr ⟨rfl, rfl, rfl⟩)))) (D d23_299) hr
def Q118 (Z : State) (cv : Int32) (de ca : Addr) (r0 r1 r2 r3 r4 r5 : Addr) (k6 : ClassId) (h0 : Heap) (n0 : Nat) (v : Option Value) (h : Heap) (L : List Loc) : Prop := ∃ (b2_0 : Addr), v = (some .null) ∧ Fr n0 L ∧ Keep h0 h [r3, r0] ∧ h0.size ≤ b2_0 ∧ Arv Z h r3 k6 (.object "java/util/HashMap$Node") (16 : Int32) [.null, (.ref r4), (.ref r5), (.ref b2_0), .null, .null, .null, .null, .null, .null, .null, .null, .null, .null, .null, .null] .null ∧ P3 Z h r0 (.ref r3) ∧ P7 Z h r0 (.int 3) ∧ P4 Z h r0 (.int 12) ∧ P8 Z h r0 (.int 3) ∧ E_12 Z h b2_0 ∧ P17 Z h b2_0 (.int 99) ∧ P18 Z h b2_0 (.ref r1) ∧ P19 Z h b2_0 (.ref r2)
/-- HashMap.put#5 -/
theorem t118 (hw : HW a0 Z) (SB0 : SB Z cv de ca) (r0 r1 r2 r3 r4 r5 : Addr) (k6 : ClassId) (O0 : OL Z n0 h0) (q0 : E_2 Z h0 r1) (q1 : P12 Z h0 r1 (.int 99)) (q2 : E_7 Z h0 r0) (q3 : P3 Z h0 r0 (.ref r3)) (q4 : Arv Z h0 r3 k6 (.object "java/util/HashMap$Node") (16 : Int32) [.null, (.ref r4), (.ref r5), .null, .null, .null, .null, .null, .null, .null, .null, .null, .null, .null, .null, .null] .null) (q5 : E_5 Z h0 r3) (q6 : Ovr Z k6 "java/util/HashMap$Node") (q7 : P7 Z h0 r0 (.int 2)) (q8 : P4 Z h0 r0 (.int 12)) (q9 : P8 Z h0 r0 (.int 2)) (ge0 : n0 ≤ r3) (ge1 : n0 ≤ r0) : CT l Z y26 B18 3 (some (.object "java/lang/Object")) ⟨4, 1, 4, 71⟩ #[(.ref r0), (.ref r1), (.ref r2)] h0 (Q118 Z cv de ca r0 r1 r2 r3 r4 r5 k6 h0 n0) := by
  refine ct_intro ?_
  intro p e s m below meth c s₁ E0 hx D hml hown hnm hrt X0 e0 hZ hE
  have Z0 := O0.le
  have K0 := Keep.refl h0 [r3, r0]
  have hws : ∀ w ∈ ([r3, r0] : List Addr), n0 ≤ w := (allS ge0 (allS ge1 all0))
  have N0 := Fr.nil n0
  have pre0 := ctp #[vr r0, vr r1, vr r2] hE
  obtain ⟨v1, T1, L1, X1, Q1, st1⟩ := kS X0 hx hZ hown (t116 hw SB0 r1 (O0.keep K0 hws) q0 q1) (w_ hw 124 rfl) (w_ hw 125 rfl) (w_ hw 11 rfl) (w_ hw 126 rfl) e0 (g := (mkF m 2 #[vr r0, vr r1, vr r2] [(.ref r1), (.ref r0)])) rfl hml rfl (argsL := [(.ref r1)]) (rest := [(.ref r0)]) (lenOf pd14 rfl) rfl rfl (W := 1) rfl (D d18_2)
  obtain ⟨rfl, M1, e1⟩ := Q1
  have N1 := N0.app M1
  obtain ⟨v2, T2, L2, X2, Q2, st2⟩ := kV (y := y35) (z := y35) X1 hx hZ hown (t117 hw SB0 r0 r1 r2 r3 r4 r5 k6 (O0.keep K0 hws) q3 q4 q2 q5 q6 q7 q8 q9 ge0 ge1) q2 (nf_of (x := y25) (y' := y26) (args := #[]) (mvT hZ (w_ hw 118 rfl)) rfl) (w_ hw 145 rfl) (w_ hw 146 rfl) (w_ hw 350 rfl) (w_ hw 147 rfl) (w_ hw 11 rfl) (w_ hw 149 rfl) e1 (g := (mkF m 9 #[vr r0, vr r1, vr r2] [(.int 1), (.int 0), (.ref r2), (.ref r1), (.int 99), (.ref r0)])) rfl hml rfl (argsL := [(.int 99), (.ref r1), (.ref r2), (.int 0), (.int 1)]) (rest := []) (lenOf pd21 rfl) rfl rfl (W := 0) rfl (D d18_9)
  obtain ⟨h2, e2⟩ : ∃ z, T2.heap = z := ⟨_, rfl⟩
  rw [e2] at Q2
  obtain ⟨b2_0, rfl, M2, K2, y2_0, F2_0, F2_1, F2_2, F2_3, F2_4, F2_5, F2_6, F2_7, F2_8⟩ := Q2
  have N2 := N1.app M2
  have z2_b2_0 := Nat.le_trans K0.1 y2_0
  have k2 := K0.trans K2 (allS (Or.inl (List.mem_of_getElem? (i := 0) rfl)) (allS (Or.inl (List.mem_of_getElem? (i := 1) rfl)) all0))
  refine ⟨(some .null), T2, _, _, _, X2, (fun hh => by cases hh), (by rw [e2]; exact ⟨b2_0, rfl, N2, k2, z2_b2_0, F2_0, F2_1, F2_2, F2_3, F2_4, F2_5, F2_6, F2_7, F2_8⟩), (by decide), (by decide), fun fs hr => pre0 _ ?_⟩
  show SA p e below s₁ m 0 #[vr r0, vr r1, vr r2] [] _
  refine XS.aloadN X0.here hx rfl (D d18_0) rfl rfl ?_
  refine XS.aloadN X0.here hx rfl (D d18_1) rfl rfl ?_
  refine st1 _ ?_
  refine XS.aloadN X1.here hx rfl (D d18_5) rfl rfl ?_
  refine XS.aloadN X1.here hx rfl (D d18_6) rfl rfl ?_
  refine XS.iconst X1.here hx rfl (D d18_7) ?_
  refine XS.iconst X1.here hx rfl (D d18_8) ?_
  refine st2 _ ?_
  show SA p e below T2 m 12 #[vr r0, vr r1, vr r2] [.null] _
  exact retOut X2 hx hrt rfl (Or.inr (Or.inr (Or.inr (Or.inr ⟨rfl, rfl, rfl⟩)))) (D d18_12) hr
/-- HashMap.getNode#3 -/
theorem t119 (hw : HW a0 Z) (SB0 : SB Z cv de ca) (r0 r1 r2 r3 r4 r5 : Addr) (k6 : ClassId) (O0 : OL Z n0 h0) (q0 : P3 Z h0 r0 (.ref r2)) (q1 : Arv Z h0 r2 k6 (.object "java/util/HashMap$Node") (16 : Int32) [.null, (.ref r3), (.ref r4), (.ref r5), .null, .null, .null, .null, .null, .null, .null, .null, .null, .null, .null, .null] .null) (q2 : E_2 Z h0 r1) (q3 : P12 Z h0 r1 (.int 97)) (q4 : P17 Z h0 r3 (.int 97)) (q5 : P18 Z h0 r3 (.ref r1))  : CT l Z y59 B50 8 (some (.object "java/util/HashMap$Node")) ⟨2, 0, 0, 28⟩ #[(.ref r0), (.ref r1)] h0 (QP0 (some (.ref r3)) h0 n0) := by
  refine ct_intro ?_
  intro p e s m below meth c s₁ E0 hx D hml hown hnm hrt X0 e0 hZ hE
  have Z0 := O0.le
  have K0 := Keep.refl h0 []
  have hws : ∀ w ∈ ([] : List Addr), n0 ≤ w := all0
  have N0 := Fr.nil n0
  have pre0 := ctp #[vr r0, vr r1, un, un, un, un, un, un] hE
  obtain ⟨T1, X1, e1, st1⟩ := gF X0 hx hZ hown (w_ hw 150 rfl) Via.refl e0 q0 (g := (mkF m 1 #[vr r0, vr r1, un, un, un, un, un, un] [(.ref r0)])) rfl rfl (D d50_1)
  obtain ⟨_, Ar2, -, S2, M2, -, -⟩ := id q1
  obtain ⟨v3, T3, L3, X3, Q3, st3⟩ := kS X1 hx hZ hown (t54 hw SB0 r1 (O0.keep K0 hws) q2 q3) (w_ hw 124 rfl) (w_ hw 125 rfl) (w_ hw 11 rfl) (w_ hw 126 rfl) e1 (g := (mkF m 23 #[vr r0, vr r1, vr r2, un, un, vi 16, un, un] [(.ref r1), (.int 15), (.ref r2)])) rfl hml rfl (argsL := [(.ref r1)]) (rest := [(.int 15), (.ref r2)]) (lenOf pd14 rfl) rfl rfl (W := 2) rfl (D d50_23)
  obtain ⟨rfl, M3, e3⟩ := Q3
  have N3 := N0.app M3
  obtain ⟨_, Ar4, -, S4, M4, H4, -⟩ := id q1
  obtain ⟨T5, X5, e5, st5⟩ := gF X3 hx hZ hown (w_ hw 402 rfl) Via.refl e3 q4 (g := (mkF m 37 #[vr r0, vr r1, vr r2, vr r3, un, vi 16, vi 97, un] [(.ref r3)])) rfl rfl (D d50_37)
  obtain ⟨T6, X6, e6, st6⟩ := gF X5 hx hZ hown (w_ hw 403 rfl) Via.refl e5 q5 (g := (mkF m 46 #[vr r0, vr r1, vr r2, vr r3, un, vi 16, vi 97, un] [(.ref r3)])) rfl rfl (D d50_46)
  refine ⟨(some (.ref r3)), T6, _, _, _, X6, (fun hh => by cases hh), (by rw [e6]; exact ⟨rfl, N3, rfl⟩), (by decide), (by decide), fun fs hr => pre0 _ ?_⟩
  show SA p e below s₁ m 0 #[vr r0, vr r1, un, un, un, un, un, un] [] _
  refine XS.aloadN X0.here hx rfl (D d50_0) rfl rfl ?_
  refine st1 _ ?_
  refine XS.dup X1.here hx rfl (D d50_4) rfl rfl ?_
  refine XS.astoreN X1.here hx rfl (D d50_5) rfl rfl (l' := #[vr r0, vr r1, vr r2, un, un, un, un, un]) rfl ?_
  refine XS.ifnullNo X1.here hx rfl (D d50_6) rfl ?_
  refine XS.aloadN X1.here hx rfl (D d50_9) rfl rfl ?_
  refine X1.arraylength hx (by rw [e1]; exact Ar2.1) (State.isArrayOf_alike hZ.alike Ar2.2.1) (g := (mkF m 10 #[vr r0, vr r1, vr r2, un, un, un, un, un] [(.ref r2)])) rfl rfl (D d50_10) _ ?_
  rw [len_of S2 M2]
  show SA p e below T1 m 11 #[vr r0, vr r1, vr r2, un, un, un, un, un] [(.int 16)] _
  refine XS.dup X1.here hx rfl (D d50_11) rfl rfl ?_
  refine XS.istore X1.here hx rfl (D d50_12) rfl (l' := #[vr r0, vr r1, vr r2, un, un, vi 16, un, un]) rfl ?_
  refine XS.ifNo X1.here hx rfl (D d50_14) rfl ((if0 _ _).trans (tlt (by decide : ((0 : Int32) < (16 : Int32)))).2.2.2) ?_
  refine XS.aloadN X1.here hx rfl (D d50_17) rfl rfl ?_
  refine XS.iload X1.here hx rfl (D d50_18) rfl ?_
  refine XS.iconst X1.here hx rfl (D d50_20) ?_
  refine XS.isub X1.here hx rfl (D d50_21) rfl ?_
  refine XS.aloadN X1.here hx rfl (D d50_22) rfl rfl ?_
  refine st3 _ ?_
  refine XS.dup X3.here hx rfl (D d50_26) rfl rfl ?_
  refine XS.istore X3.here hx rfl (D d50_27) rfl (l' := #[vr r0, vr r1, vr r2, un, un, vi 16, vi 97, un]) rfl ?_
  refine XS.iand X3.here hx rfl (D d50_29) rfl ?_
  refine X3.aaload hx (j := (1 : Int32)) (v := (.ref r3)) (by rw [e3]; exact Ar4.1) (State.isArrayOf_alike hZ.alike Ar4.2.1) rfl Ar4.2.2 (inb_of S4 ⟨by decide, by decide⟩) (Has.at H4 (inb_of S4 ⟨by decide, by decide⟩) rfl) (g := (mkF m 30 #[vr r0, vr r1, vr r2, un, un, vi 16, vi 97, un] [(.int 1), (.ref r2)])) rfl rfl (D d50_30) _ ?_
  show SA p e below T3 m 31 #[vr r0, vr r1, vr r2, un, un, vi 16, vi 97, un] [(.ref r3)] _
  refine XS.dup X3.here hx rfl (D d50_31) rfl rfl ?_
  refine XS.astoreN X3.here hx rfl (D d50_32) rfl rfl (l' := #[vr r0, vr r1, vr r2, vr r3, un, vi 16, vi 97, un]) rfl ?_
  refine XS.ifnullNo X3.here hx rfl (D d50_33) rfl ?_
  refine XS.aloadN X3.here hx rfl (D d50_36) rfl rfl ?_
  refine st5 _ ?_
  refine XS.iload X5.here hx rfl (D d50_40) rfl ?_
  refine XS.icmpNo X5.here hx rfl (D d50_42) rfl (teq (by decide : ((97 : Int32) = (97 : Int32)))).2 ?_
  refine XS.aloadN X5.here hx rfl (D d50_45) rfl rfl ?_
  refine st6 _ ?_
  refine XS.dup X6.here hx rfl (D d50_49) rfl rfl ?_
  refine XS.astore X6.here hx rfl (D d50_50) rfl rfl (l' := #[vr r0, vr r1, vr r2, vr r3, un, vi 16, vi 97, vr r1]) rfl ?_
  refine XS.aloadN X6.here hx rfl (D d50_52) rfl rfl ?_
  refine Jvm.RoadKit.acmp (g := (mkF m 53 #[vr r0, vr r1, vr r2, vr r3, un, vi 16, vi 97, vr r1] [(.ref r1), (.ref r1)])) X6 hx rfl rfl rfl (pc0 := 53) (pc' := 69) (same := true) rfl (D d50_53) rfl (decide_eq_true rfl) (by decide) (by decide) ?_
  show SA p e below T6 m 69 #[vr r0, vr r1, vr r2, vr r3, un, vi 16, vi 97, vr r1] [] _
  refine XS.aloadN X6.here hx rfl (D d50_69) rfl rfl ?_
  show SA p e below T6 m 70 #[vr r0, vr r1, vr r2, vr r3, un, vi 16, vi 97, vr r1] [(.ref r3)] _
  exact retOut X6 hx hrt rfl (Or.inr (Or.inr (Or.inr (Or.inr ⟨rfl, rfl, rfl⟩)))) (D d50_70) hr
/-- HashMap.get#3 -/
theorem t120 (hw : HW a0 Z) (SB0 : SB Z cv de ca) (r0 r1 r2 r3 r4 r5 : Addr) (k6 : ClassId) (r7 : Addr) (O0 : OL Z n0 h0) (q0 : E_7 Z h0 r0) (q1 : P3 Z h0 r0 (.ref r2)) (q2 : Arv Z h0 r2 k6 (.object "java/util/HashMap$Node") (16 : Int32) [.null, (.ref r3), (.ref r4), (.ref r5), .null, .null, .null, .null, .null, .null, .null, .null, .null, .null, .null, .null] .null) (q3 : E_2 Z h0 r1) (q4 : P12 Z h0 r1 (.int 97)) (q5 : P17 Z h0 r3 (.int 97)) (q6 : P18 Z h0 r3 (.ref r1)) (q7 : P19 Z h0 r3 (.ref r7))  : CT l Z y60 B49 3 (some (.object "java/lang/Object")) ⟨3, 0, 0, 47⟩ #[(.ref r0), (.ref r1)] h0 (QP0 (some (.ref r7)) h0 n0) := by
  refine ct_intro ?_
  intro p e s m below meth c s₁ E0 hx D hml hown hnm hrt X0 e0 hZ hE
  have Z0 := O0.le
  have K0 := Keep.refl h0 []
  have hws : ∀ w ∈ ([] : List Addr), n0 ≤ w := all0
  have N0 := Fr.nil n0
  have pre0 := ctp #[vr r0, vr r1, un] hE
  obtain ⟨v1, T1, L1, X1, Q1, st1⟩ := kV (y := y59) (z := y59) X0 hx hZ hown (t119 hw SB0 r0 r1 r2 r3 r4 r5 k6 (O0.keep K0 hws) q1 q2 q3 q4 q5 q6) q0 (nf_of (x := y25) (y' := y26) (args := #[]) (mvT hZ (w_ hw 118 rfl)) rfl) (w_ hw 397 rfl) (w_ hw 398 rfl) (w_ hw 400 rfl) (w_ hw 399 rfl) (w_ hw 11 rfl) (w_ hw 401 rfl) e0 (g := (mkF m 2 #[vr r0, vr r1, un] [(.ref r1), (.ref r0)])) rfl hml rfl (argsL := [(.ref r1)]) (rest := []) (lenOf pd31 rfl) rfl rfl (W := 0) rfl (D d49_2)
  obtain ⟨rfl, M1, e1⟩ := Q1
  have N1 := N0.app M1
  obtain ⟨T2, X2, e2, st2⟩ := gF X1 hx hZ hown (w_ hw 404 rfl) Via.refl e1 q7 (g := (mkF m 15 #[vr r0, vr r1, vr r3] [(.ref r3)])) rfl rfl (D d49_15)
  refine ⟨(some (.ref r7)), T2, _, _, _, X2, (fun hh => by cases hh), (by rw [e2]; exact ⟨rfl, N1, rfl⟩), (by decide), (by decide), fun fs hr => pre0 _ ?_⟩
  show SA p e below s₁ m 0 #[vr r0, vr r1, un] [] _
  refine XS.aloadN X0.here hx rfl (D d49_0) rfl rfl ?_
  refine XS.aloadN X0.here hx rfl (D d49_1) rfl rfl ?_
  refine st1 _ ?_
  refine XS.dup X1.here hx rfl (D d49_5) rfl rfl ?_
  refine XS.astoreN X1.here hx rfl (D d49_6) rfl rfl (l' := #[vr r0, vr r1, vr r3]) rfl ?_
  refine XS.ifnonnullYes X1.here hx rfl (pc0 := 7) (pc' := 14) rfl (D d49_7) rfl (by decide) (by decide) ?_
  refine XS.aloadN X1.here hx rfl (D d49_14) rfl rfl ?_
  refine st2 _ ?_
  show SA p e below T2 m 18 #[vr r0, vr r1, vr r3] [(.ref r7)] _
  exact retOut X2 hx hrt rfl (Or.inr (Or.inr (Or.inr (Or.inr ⟨rfl, rfl, rfl⟩)))) (D d49_18) hr
/-- HashMap.getNode#4 -/
theorem t121 (hw : HW a0 Z) (SB0 : SB Z cv de ca) (r0 r1 r2 r3 r4 r5 : Addr) (k6 : ClassId) (O0 : OL Z n0 h0) (q0 : P3 Z h0 r0 (.ref r2)) (q1 : Arv Z h0 r2 k6 (.object "java/util/HashMap$Node") (16 : Int32) [.null, (.ref r3), (.ref r4), (.ref r5), .null, .null, .null, .null, .null, .null, .null, .null, .null, .null, .null, .null] .null) (q2 : E_2 Z h0 r1) (q3 : P12 Z h0 r1 (.int 98)) (q4 : P17 Z h0 r4 (.int 98)) (q5 : P18 Z h0 r4 (.ref r1))  : CT l Z y59 B50 8 (some (.object "java/util/HashMap$Node")) ⟨2, 0, 0, 28⟩ #[(.ref r0), (.ref r1)] h0 (QP0 (some (.ref r4)) h0 n0) := by
  refine ct_intro ?_
  intro p e s m below meth c s₁ E0 hx D hml hown hnm hrt X0 e0 hZ hE
  have Z0 := O0.le
  have K0 := Keep.refl h0 []
  have hws : ∀ w ∈ ([] : List Addr), n0 ≤ w := all0
  have N0 := Fr.nil n0
  have pre0 := ctp #[vr r0, vr r1, un, un, un, un, un, un] hE
  obtain ⟨T1, X1, e1, st1⟩ := gF X0 hx hZ hown (w_ hw 150 rfl) Via.refl e0 q0 (g := (mkF m 1 #[vr r0, vr r1, un, un, un, un, un, un] [(.ref r0)])) rfl rfl (D d50_1)
  obtain ⟨_, Ar2, -, S2, M2, -, -⟩ := id q1
  obtain ⟨v3, T3, L3, X3, Q3, st3⟩ := kS X1 hx hZ hown (t91 hw SB0 r1 (O0.keep K0 hws) q2 q3) (w_ hw 124 rfl) (w_ hw 125 rfl) (w_ hw 11 rfl) (w_ hw 126 rfl) e1 (g := (mkF m 23 #[vr r0, vr r1, vr r2, un, un, vi 16, un, un] [(.ref r1), (.int 15), (.ref r2)])) rfl hml rfl (argsL := [(.ref r1)]) (rest := [(.int 15), (.ref r2)]) (lenOf pd14 rfl) rfl rfl (W := 2) rfl (D d50_23)
  obtain ⟨rfl, M3, e3⟩ := Q3
  have N3 := N0.app M3
  obtain ⟨_, Ar4, -, S4, M4, H4, -⟩ := id q1
  obtain ⟨T5, X5, e5, st5⟩ := gF X3 hx hZ hown (w_ hw 402 rfl) Via.refl e3 q4 (g := (mkF m 37 #[vr r0, vr r1, vr r2, vr r4, un, vi 16, vi 98, un] [(.ref r4)])) rfl rfl (D d50_37)
  obtain ⟨T6, X6, e6, st6⟩ := gF X5 hx hZ hown (w_ hw 403 rfl) Via.refl e5 q5 (g := (mkF m 46 #[vr r0, vr r1, vr r2, vr r4, un, vi 16, vi 98, un] [(.ref r4)])) rfl rfl (D d50_46)
  refine ⟨(some (.ref r4)), T6, _, _, _, X6, (fun hh => by cases hh), (by rw [e6]; exact ⟨rfl, N3, rfl⟩), (by decide), (by decide), fun fs hr => pre0 _ ?_⟩
  show SA p e below s₁ m 0 #[vr r0, vr r1, un, un, un, un, un, un] [] _
  refine XS.aloadN X0.here hx rfl (D d50_0) rfl rfl ?_
  refine st1 _ ?_
  refine XS.dup X1.here hx rfl (D d50_4) rfl rfl ?_
  refine XS.astoreN X1.here hx rfl (D d50_5) rfl rfl (l' := #[vr r0, vr r1, vr r2, un, un, un, un, un]) rfl ?_
  refine XS.ifnullNo X1.here hx rfl (D d50_6) rfl ?_
  refine XS.aloadN X1.here hx rfl (D d50_9) rfl rfl ?_
  refine X1.arraylength hx (by rw [e1]; exact Ar2.1) (State.isArrayOf_alike hZ.alike Ar2.2.1) (g := (mkF m 10 #[vr r0, vr r1, vr r2, un, un, un, un, un] [(.ref r2)])) rfl rfl (D d50_10) _ ?_
  rw [len_of S2 M2]
  show SA p e below T1 m 11 #[vr r0, vr r1, vr r2, un, un, un, un, un] [(.int 16)] _
  refine XS.dup X1.here hx rfl (D d50_11) rfl rfl ?_
  refine XS.istore X1.here hx rfl (D d50_12) rfl (l' := #[vr r0, vr r1, vr r2, un, un, vi 16, un, un]) rfl ?_
  refine XS.ifNo X1.here hx rfl (D d50_14) rfl ((if0 _ _).trans (tlt (by decide : ((0 : Int32) < (16 : Int32)))).2.2.2) ?_
  refine XS.aloadN X1.here hx rfl (D d50_17) rfl rfl ?_
  refine XS.iload X1.here hx rfl (D d50_18) rfl ?_
  refine XS.iconst X1.here hx rfl (D d50_20) ?_
  refine XS.isub X1.here hx rfl (D d50_21) rfl ?_
  refine XS.aloadN X1.here hx rfl (D d50_22) rfl rfl ?_
  refine st3 _ ?_
  refine XS.dup X3.here hx rfl (D d50_26) rfl rfl ?_
  refine XS.istore X3.here hx rfl (D d50_27) rfl (l' := #[vr r0, vr r1, vr r2, un, un, vi 16, vi 98, un]) rfl ?_
  refine XS.iand X3.here hx rfl (D d50_29) rfl ?_
  refine X3.aaload hx (j := (2 : Int32)) (v := (.ref r4)) (by rw [e3]; exact Ar4.1) (State.isArrayOf_alike hZ.alike Ar4.2.1) rfl Ar4.2.2 (inb_of S4 ⟨by decide, by decide⟩) (Has.at H4 (inb_of S4 ⟨by decide, by decide⟩) rfl) (g := (mkF m 30 #[vr r0, vr r1, vr r2, un, un, vi 16, vi 98, un] [(.int 2), (.ref r2)])) rfl rfl (D d50_30) _ ?_
  show SA p e below T3 m 31 #[vr r0, vr r1, vr r2, un, un, vi 16, vi 98, un] [(.ref r4)] _
  refine XS.dup X3.here hx rfl (D d50_31) rfl rfl ?_
  refine XS.astoreN X3.here hx rfl (D d50_32) rfl rfl (l' := #[vr r0, vr r1, vr r2, vr r4, un, vi 16, vi 98, un]) rfl ?_
  refine XS.ifnullNo X3.here hx rfl (D d50_33) rfl ?_
  refine XS.aloadN X3.here hx rfl (D d50_36) rfl rfl ?_
  refine st5 _ ?_
  refine XS.iload X5.here hx rfl (D d50_40) rfl ?_
  refine XS.icmpNo X5.here hx rfl (D d50_42) rfl (teq (by decide : ((98 : Int32) = (98 : Int32)))).2 ?_
  refine XS.aloadN X5.here hx rfl (D d50_45) rfl rfl ?_
  refine st6 _ ?_
  refine XS.dup X6.here hx rfl (D d50_49) rfl rfl ?_
  refine XS.astore X6.here hx rfl (D d50_50) rfl rfl (l' := #[vr r0, vr r1, vr r2, vr r4, un, vi 16, vi 98, vr r1]) rfl ?_
  refine XS.aloadN X6.here hx rfl (D d50_52) rfl rfl ?_
  refine Jvm.RoadKit.acmp (g := (mkF m 53 #[vr r0, vr r1, vr r2, vr r4, un, vi 16, vi 98, vr r1] [(.ref r1), (.ref r1)])) X6 hx rfl rfl rfl (pc0 := 53) (pc' := 69) (same := true) rfl (D d50_53) rfl (decide_eq_true rfl) (by decide) (by decide) ?_
  show SA p e below T6 m 69 #[vr r0, vr r1, vr r2, vr r4, un, vi 16, vi 98, vr r1] [] _
  refine XS.aloadN X6.here hx rfl (D d50_69) rfl rfl ?_
  show SA p e below T6 m 70 #[vr r0, vr r1, vr r2, vr r4, un, vi 16, vi 98, vr r1] [(.ref r4)] _
  exact retOut X6 hx hrt rfl (Or.inr (Or.inr (Or.inr (Or.inr ⟨rfl, rfl, rfl⟩)))) (D d50_70) hr
/-- HashMap.get#4 -/
theorem t122 (hw : HW a0 Z) (SB0 : SB Z cv de ca) (r0 r1 r2 r3 r4 r5 : Addr) (k6 : ClassId) (r7 : Addr) (O0 : OL Z n0 h0) (q0 : E_7 Z h0 r0) (q1 : P3 Z h0 r0 (.ref r2)) (q2 : Arv Z h0 r2 k6 (.object "java/util/HashMap$Node") (16 : Int32) [.null, (.ref r3), (.ref r4), (.ref r5), .null, .null, .null, .null, .null, .null, .null, .null, .null, .null, .null, .null] .null) (q3 : E_2 Z h0 r1) (q4 : P12 Z h0 r1 (.int 98)) (q5 : P17 Z h0 r4 (.int 98)) (q6 : P18 Z h0 r4 (.ref r1)) (q7 : P19 Z h0 r4 (.ref r7))  : CT l Z y60 B49 3 (some (.object "java/lang/Object")) ⟨3, 0, 0, 47⟩ #[(.ref r0), (.ref r1)] h0 (QP0 (some (.ref r7)) h0 n0) := by
  refine ct_intro ?_
  intro p e s m below meth c s₁ E0 hx D hml hown hnm hrt X0 e0 hZ hE
  have Z0 := O0.le
  have K0 := Keep.refl h0 []
  have hws : ∀ w ∈ ([] : List Addr), n0 ≤ w := all0
  have N0 := Fr.nil n0
  have pre0 := ctp #[vr r0, vr r1, un] hE
  obtain ⟨v1, T1, L1, X1, Q1, st1⟩ := kV (y := y59) (z := y59) X0 hx hZ hown (t121 hw SB0 r0 r1 r2 r3 r4 r5 k6 (O0.keep K0 hws) q1 q2 q3 q4 q5 q6) q0 (nf_of (x := y25) (y' := y26) (args := #[]) (mvT hZ (w_ hw 118 rfl)) rfl) (w_ hw 397 rfl) (w_ hw 398 rfl) (w_ hw 400 rfl) (w_ hw 399 rfl) (w_ hw 11 rfl) (w_ hw 401 rfl) e0 (g := (mkF m 2 #[vr r0, vr r1, un] [(.ref r1), (.ref r0)])) rfl hml rfl (argsL := [(.ref r1)]) (rest := []) (lenOf pd31 rfl) rfl rfl (W := 0) rfl (D d49_2)
  obtain ⟨rfl, M1, e1⟩ := Q1
  have N1 := N0.app M1
  obtain ⟨T2, X2, e2, st2⟩ := gF X1 hx hZ hown (w_ hw 404 rfl) Via.refl e1 q7 (g := (mkF m 15 #[vr r0, vr r1, vr r4] [(.ref r4)])) rfl rfl (D d49_15)
  refine ⟨(some (.ref r7)), T2, _, _, _, X2, (fun hh => by cases hh), (by rw [e2]; exact ⟨rfl, N1, rfl⟩), (by decide), (by decide), fun fs hr => pre0 _ ?_⟩
  show SA p e below s₁ m 0 #[vr r0, vr r1, un] [] _
  refine XS.aloadN X0.here hx rfl (D d49_0) rfl rfl ?_
  refine XS.aloadN X0.here hx rfl (D d49_1) rfl rfl ?_
  refine st1 _ ?_
  refine XS.dup X1.here hx rfl (D d49_5) rfl rfl ?_
  refine XS.astoreN X1.here hx rfl (D d49_6) rfl rfl (l' := #[vr r0, vr r1, vr r4]) rfl ?_
  refine XS.ifnonnullYes X1.here hx rfl (pc0 := 7) (pc' := 14) rfl (D d49_7) rfl (by decide) (by decide) ?_
  refine XS.aloadN X1.here hx rfl (D d49_14) rfl rfl ?_
  refine st2 _ ?_
  show SA p e below T2 m 18 #[vr r0, vr r1, vr r4] [(.ref r7)] _
  exact retOut X2 hx hrt rfl (Or.inr (Or.inr (Or.inr (Or.inr ⟨rfl, rfl, rfl⟩)))) (D d49_18) hr
/-- HashMap.getNode#5 -/
theorem t123 (hw : HW a0 Z) (SB0 : SB Z cv de ca) (r0 r1 r2 r3 r4 r5 : Addr) (k6 : ClassId) (O0 : OL Z n0 h0) (q0 : P3 Z h0 r0 (.ref r2)) (q1 : Arv Z h0 r2 k6 (.object "java/util/HashMap$Node") (16 : Int32) [.null, (.ref r3), (.ref r4), (.ref r5), .null, .null, .null, .null, .null, .null, .null, .null, .null, .null, .null, .null] .null) (q2 : E_2 Z h0 r1) (q3 : P12 Z h0 r1 (.int 99)) (q4 : P17 Z h0 r5 (.int 99)) (q5 : P18 Z h0 r5 (.ref r1))  : CT l Z y59 B50 8 (some (.object "java/util/HashMap$Node")) ⟨2, 0, 0, 28⟩ #[(.ref r0), (.ref r1)] h0 (QP0 (some (.ref r5)) h0 n0) := by
  refine ct_intro ?_
  intro p e s m below meth c s₁ E0 hx D hml hown hnm hrt X0 e0 hZ hE
  have Z0 := O0.le
  have K0 := Keep.refl h0 []
  have hws : ∀ w ∈ ([] : List Addr), n0 ≤ w := all0
  have N0 := Fr.nil n0
  have pre0 := ctp #[vr r0, vr r1, un, un, un, un, un, un] hE
  obtain ⟨T1, X1, e1, st1⟩ := gF X0 hx hZ hown (w_ hw 150 rfl) Via.refl e0 q0 (g := (mkF m 1 #[vr r0, vr r1, un, un, un, un, un, un] [(.ref r0)])) rfl rfl (D d50_1)
  obtain ⟨_, Ar2, -, S2, M2, -, -⟩ := id q1
  obtain ⟨v3, T3, L3, X3, Q3, st3⟩ := kS X1 hx hZ hown (t116 hw SB0 r1 (O0.keep K0 hws) q2 q3) (w_ hw 124 rfl) (w_ hw 125 rfl) (w_ hw 11 rfl) (w_ hw 126 rfl) e1 (g := (mkF m 23 #[vr r0, vr r1, vr r2, un, un, vi 16, un, un] [(.ref r1), (.int 15), (.ref r2)])) rfl hml rfl (argsL := [(.ref r1)]) (rest := [(.int 15), (.ref r2)]) (lenOf pd14 rfl) rfl rfl (W := 2) rfl (D d50_23)
  obtain ⟨rfl, M3, e3⟩ := Q3
  have N3 := N0.app M3
  obtain ⟨_, Ar4, -, S4, M4, H4, -⟩ := id q1
  obtain ⟨T5, X5, e5, st5⟩ := gF X3 hx hZ hown (w_ hw 402 rfl) Via.refl e3 q4 (g := (mkF m 37 #[vr r0, vr r1, vr r2, vr r5, un, vi 16, vi 99, un] [(.ref r5)])) rfl rfl (D d50_37)
  obtain ⟨T6, X6, e6, st6⟩ := gF X5 hx hZ hown (w_ hw 403 rfl) Via.refl e5 q5 (g := (mkF m 46 #[vr r0, vr r1, vr r2, vr r5, un, vi 16, vi 99, un] [(.ref r5)])) rfl rfl (D d50_46)
  refine ⟨(some (.ref r5)), T6, _, _, _, X6, (fun hh => by cases hh), (by rw [e6]; exact ⟨rfl, N3, rfl⟩), (by decide), (by decide), fun fs hr => pre0 _ ?_⟩
  show SA p e below s₁ m 0 #[vr r0, vr r1, un, un, un, un, un, un] [] _
  refine XS.aloadN X0.here hx rfl (D d50_0) rfl rfl ?_
  refine st1 _ ?_
  refine XS.dup X1.here hx rfl (D d50_4) rfl rfl ?_
  refine XS.astoreN X1.here hx rfl (D d50_5) rfl rfl (l' := #[vr r0, vr r1, vr r2, un, un, un, un, un]) rfl ?_
  refine XS.ifnullNo X1.here hx rfl (D d50_6) rfl ?_
  refine XS.aloadN X1.here hx rfl (D d50_9) rfl rfl ?_
  refine X1.arraylength hx (by rw [e1]; exact Ar2.1) (State.isArrayOf_alike hZ.alike Ar2.2.1) (g := (mkF m 10 #[vr r0, vr r1, vr r2, un, un, un, un, un] [(.ref r2)])) rfl rfl (D d50_10) _ ?_
  rw [len_of S2 M2]
  show SA p e below T1 m 11 #[vr r0, vr r1, vr r2, un, un, un, un, un] [(.int 16)] _
  refine XS.dup X1.here hx rfl (D d50_11) rfl rfl ?_
  refine XS.istore X1.here hx rfl (D d50_12) rfl (l' := #[vr r0, vr r1, vr r2, un, un, vi 16, un, un]) rfl ?_
  refine XS.ifNo X1.here hx rfl (D d50_14) rfl ((if0 _ _).trans (tlt (by decide : ((0 : Int32) < (16 : Int32)))).2.2.2) ?_
  refine XS.aloadN X1.here hx rfl (D d50_17) rfl rfl ?_
  refine XS.iload X1.here hx rfl (D d50_18) rfl ?_
  refine XS.iconst X1.here hx rfl (D d50_20) ?_
  refine XS.isub X1.here hx rfl (D d50_21) rfl ?_
  refine XS.aloadN X1.here hx rfl (D d50_22) rfl rfl ?_
  refine st3 _ ?_
  refine XS.dup X3.here hx rfl (D d50_26) rfl rfl ?_
  refine XS.istore X3.here hx rfl (D d50_27) rfl (l' := #[vr r0, vr r1, vr r2, un, un, vi 16, vi 99, un]) rfl ?_
  refine XS.iand X3.here hx rfl (D d50_29) rfl ?_
  refine X3.aaload hx (j := (3 : Int32)) (v := (.ref r5)) (by rw [e3]; exact Ar4.1) (State.isArrayOf_alike hZ.alike Ar4.2.1) rfl Ar4.2.2 (inb_of S4 ⟨by decide, by decide⟩) (Has.at H4 (inb_of S4 ⟨by decide, by decide⟩) rfl) (g := (mkF m 30 #[vr r0, vr r1, vr r2, un, un, vi 16, vi 99, un] [(.int 3), (.ref r2)])) rfl rfl (D d50_30) _ ?_
  show SA p e below T3 m 31 #[vr r0, vr r1, vr r2, un, un, vi 16, vi 99, un] [(.ref r5)] _
  refine XS.dup X3.here hx rfl (D d50_31) rfl rfl ?_
  refine XS.astoreN X3.here hx rfl (D d50_32) rfl rfl (l' := #[vr r0, vr r1, vr r2, vr r5, un, vi 16, vi 99, un]) rfl ?_
  refine XS.ifnullNo X3.here hx rfl (D d50_33) rfl ?_
  refine XS.aloadN X3.here hx rfl (D d50_36) rfl rfl ?_
  refine st5 _ ?_
  refine XS.iload X5.here hx rfl (D d50_40) rfl ?_
  refine XS.icmpNo X5.here hx rfl (D d50_42) rfl (teq (by decide : ((99 : Int32) = (99 : Int32)))).2 ?_
  refine XS.aloadN X5.here hx rfl (D d50_45) rfl rfl ?_
  refine st6 _ ?_
  refine XS.dup X6.here hx rfl (D d50_49) rfl rfl ?_
  refine XS.astore X6.here hx rfl (D d50_50) rfl rfl (l' := #[vr r0, vr r1, vr r2, vr r5, un, vi 16, vi 99, vr r1]) rfl ?_
  refine XS.aloadN X6.here hx rfl (D d50_52) rfl rfl ?_
  refine Jvm.RoadKit.acmp (g := (mkF m 53 #[vr r0, vr r1, vr r2, vr r5, un, vi 16, vi 99, vr r1] [(.ref r1), (.ref r1)])) X6 hx rfl rfl rfl (pc0 := 53) (pc' := 69) (same := true) rfl (D d50_53) rfl (decide_eq_true rfl) (by decide) (by decide) ?_
  show SA p e below T6 m 69 #[vr r0, vr r1, vr r2, vr r5, un, vi 16, vi 99, vr r1] [] _
  refine XS.aloadN X6.here hx rfl (D d50_69) rfl rfl ?_
  show SA p e below T6 m 70 #[vr r0, vr r1, vr r2, vr r5, un, vi 16, vi 99, vr r1] [(.ref r5)] _
  exact retOut X6 hx hrt rfl (Or.inr (Or.inr (Or.inr (Or.inr ⟨rfl, rfl, rfl⟩)))) (D d50_70) hr
/-- HashMap.get#5 -/
theorem t124 (hw : HW a0 Z) (SB0 : SB Z cv de ca) (r0 r1 r2 r3 r4 r5 : Addr) (k6 : ClassId) (r7 : Addr) (O0 : OL Z n0 h0) (q0 : E_7 Z h0 r0) (q1 : P3 Z h0 r0 (.ref r2)) (q2 : Arv Z h0 r2 k6 (.object "java/util/HashMap$Node") (16 : Int32) [.null, (.ref r3), (.ref r4), (.ref r5), .null, .null, .null, .null, .null, .null, .null, .null, .null, .null, .null, .null] .null) (q3 : E_2 Z h0 r1) (q4 : P12 Z h0 r1 (.int 99)) (q5 : P17 Z h0 r5 (.int 99)) (q6 : P18 Z h0 r5 (.ref r1)) (q7 : P19 Z h0 r5 (.ref r7))  : CT l Z y60 B49 3 (some (.object "java/lang/Object")) ⟨3, 0, 0, 47⟩ #[(.ref r0), (.ref r1)] h0 (QP0 (some (.ref r7)) h0 n0) := by
  refine ct_intro ?_
  intro p e s m below meth c s₁ E0 hx D hml hown hnm hrt X0 e0 hZ hE
  have Z0 := O0.le
  have K0 := Keep.refl h0 []
  have hws : ∀ w ∈ ([] : List Addr), n0 ≤ w := all0
  have N0 := Fr.nil n0
  have pre0 := ctp #[vr r0, vr r1, un] hE
  obtain ⟨v1, T1, L1, X1, Q1, st1⟩ := kV (y := y59) (z := y59) X0 hx hZ hown (t123 hw SB0 r0 r1 r2 r3 r4 r5 k6 (O0.keep K0 hws) q1 q2 q3 q4 q5 q6) q0 (nf_of (x := y25) (y' := y26) (args := #[]) (mvT hZ (w_ hw 118 rfl)) rfl) (w_ hw 397 rfl) (w_ hw 398 rfl) (w_ hw 400 rfl) (w_ hw 399 rfl) (w_ hw 11 rfl) (w_ hw 401 rfl) e0 (g := (mkF m 2 #[vr r0, vr r1, un] [(.ref r1), (.ref r0)])) rfl hml rfl (argsL := [(.ref r1)]) (rest := []) (lenOf pd31 rfl) rfl rfl (W := 0) rfl (D d49_2)
  obtain ⟨rfl, M1, e1⟩ := Q1
  have N1 := N0.app M1
  obtain ⟨T2, X2, e2, st2⟩ := gF X1 hx hZ hown (w_ hw 404 rfl) Via.refl e1 q7 (g := (mkF m 15 #[vr r0, vr r1, vr r5] [(.ref r5)])) rfl rfl (D d49_15)
  refine ⟨(some (.ref r7)), T2, _, _, _, X2, (fun hh => by cases hh), (by rw [e2]; exact ⟨rfl, N1, rfl⟩), (by decide), (by decide), fun fs hr => pre0 _ ?_⟩
  show SA p e below s₁ m 0 #[vr r0, vr r1, un] [] _
  refine XS.aloadN X0.here hx rfl (D d49_0) rfl rfl ?_
  refine XS.aloadN X0.here hx rfl (D d49_1) rfl rfl ?_
  refine st1 _ ?_
  refine XS.dup X1.here hx rfl (D d49_5) rfl rfl ?_
  refine XS.astoreN X1.here hx rfl (D d49_6) rfl rfl (l' := #[vr r0, vr r1, vr r5]) rfl ?_
  refine XS.ifnonnullYes X1.here hx rfl (pc0 := 7) (pc' := 14) rfl (D d49_7) rfl (by decide) (by decide) ?_
  refine XS.aloadN X1.here hx rfl (D d49_14) rfl rfl ?_
  refine st2 _ ?_
  show SA p e below T2 m 18 #[vr r0, vr r1, vr r5] [(.ref r7)] _
  exact retOut X2 hx hrt rfl (Or.inr (Or.inr (Or.inr (Or.inr ⟨rfl, rfl, rfl⟩)))) (D d49_18) hr
def Q125 (Z : State) (cv : Int32) (de ca : Addr) (r0 r1 r2 r3 r4 r5 r6 : Addr) (i7 : Int32) (r8 r9 r10 : Addr) (i11 : Int32) (r12 r13 : Addr) (i14 : Int32) (h0 : Heap) (n0 : Nat) (v : Option Value) (h : Heap) (L : List Loc) : Prop := ∃ (b141 : Addr), v = none ∧ Fr n0 L ∧ Keep h0 h [r0, r1] ∧ h0.size ≤ b141 ∧ P24 Z h r0 (.ref b141) ∧ E_14 Z h b141 ∧ AB Z h b141 ((((0 : Int32) + i7) + i11) + i14) (up (up (up (fun _ => 0) (((0 : Int32) + i7) - (1 : Int32)) (1 : Int32)) ((((0 : Int32) + i7) + i11) - (1 : Int32)) (1 : Int32)) (((((0 : Int32) + i7) + i11) + i14) - (1 : Int32)) (1 : Int32))
/-- NextStateRelation.init#2 -/
theorem t125 (hw : HW a0 Z) (SB0 : SB Z cv de ca) (r0 r1 r2 r3 r4 r5 r6 : Addr) (i7 : Int32) (r8 r9 r10 : Addr) (i11 : Int32) (r12 r13 : Addr) (i14 : Int32) (O0 : OL Z n0 h0) (q0 : E_8 Z h0 r0) (q1 : P23 Z h0 r0 .null) (q2 : P24 Z h0 r0 .null) (q3 : P25 Z h0 r0 .null) (q4 : P26 Z h0 r0 .null) (q5 : P27 Z h0 r0 .null) (q6 : P28 Z h0 r0 .null) (q7 : E_0 Z h0 r1) (q8 : P9 Z h0 r1 .null) (q9 : P6 Z h0 r1 (.ref r3)) (q10 : P7 Z h0 r1 (.int 3)) (q11 : P21 Z h0 r3 (.ref r4)) (q12 : E_6 Z h0 r3) (q13 : P18 Z h0 r3 (.ref r5)) (q14 : E_2 Z h0 r5) (q15 : P12 Z h0 r5 (.int 97)) (q16 : P19 Z h0 r3 (.ref r6)) (q17 : E_3 Z h0 r6) (q18 : P16 Z h0 r6 (.int i7)) (q19 : P21 Z h0 r4 (.ref r8)) (q20 : E_6 Z h0 r4) (q21 : P18 Z h0 r4 (.ref r9)) (q22 : E_2 Z h0 r9) (q23 : R4 i7) (q24 : P12 Z h0 r9 (.int 98)) (q25 : P19 Z h0 r4 (.ref r10)) (q26 : E_3 Z h0 r10) (q27 : P16 Z h0 r10 (.int i11)) (q28 : P21 Z h0 r8 .null) (q29 : E_6 Z h0 r8) (q30 : P18 Z h0 r8 (.ref r12)) (q31 : E_2 Z h0 r12) (q32 : R4 i11) (q33 : P12 Z h0 r12 (.int 99)) (q34 : P19 Z h0 r8 (.ref r13)) (q35 : E_3 Z h0 r13) (q36 : P16 Z h0 r13 (.int i14)) (q37 : R4 i14) (q38 : E_3 Z h0 r2) (q39 : P16 Z h0 r2 (.int 0)) (ge0 : n0 ≤ r0) (ge1 : n0 ≤ r1) : CT l Z y64 B31 7 none ⟨6, 17, 112, 85⟩ #[(.ref r0), (.ref r1), (.ref r2)] h0 (Q125 Z cv de ca r0 r1 r2 r3 r4 r5 r6 i7 r8 r9 r10 i11 r12 r13 i14 h0 n0) := by
  refine ct_intro ?_
  intro p e s m below meth c s₁ E0 hx D hml hown hnm hrt X0 e0 hZ hE
  have Z0 := O0.le
  have K0 := Keep.refl h0 [r0, r1]
  have hws : ∀ w ∈ ([r0, r1] : List Addr), n0 ≤ w := (allS ge0 (allS ge1 all0))
  have N0 := Fr.nil n0
  have pre0 := ctp #[vr r0, vr r1, vr r2, un, un, un, un] hE
  have nin_r3 : r3 ∉ ([r0, r1] : List Addr) := (ninS (Exa.ne q12 q0 (by decide)) (ninS (Exa.ne q12 q7 (by decide)) nin0))
  have nin_r5 : r5 ∉ ([r0, r1] : List Addr) := (ninS (Exa.ne q14 q0 (by decide)) (ninS (Exa.ne q14 q7 (by decide)) nin0))
  have nin_r6 : r6 ∉ ([r0, r1] : List Addr) := (ninS (Exa.ne q17 q0 (by decide)) (ninS (Exa.ne q17 q7 (by decide)) nin0))
  have nin_r4 : r4 ∉ ([r0, r1] : List Addr) := (ninS (Exa.ne q20 q0 (by decide)) (ninS (Exa.ne q20 q7 (by decide)) nin0))
  have nin_r9 : r9 ∉ ([r0, r1] : List Addr) := (ninS (Exa.ne q22 q0 (by decide)) (ninS (Exa.ne q22 q7 (by decide)) nin0))
  have nin_r10 : r10 ∉ ([r0, r1] : List Addr) := (ninS (Exa.ne q26 q0 (by decide)) (ninS (Exa.ne q26 q7 (by decide)) nin0))
  have nin_r8 : r8 ∉ ([r0, r1] : List Addr) := (ninS (Exa.ne q29 q0 (by decide)) (ninS (Exa.ne q29 q7 (by decide)) nin0))
  have nin_r12 : r12 ∉ ([r0, r1] : List Addr) := (ninS (Exa.ne q31 q0 (by decide)) (ninS (Exa.ne q31 q7 (by decide)) nin0))
  have nin_r13 : r13 ∉ ([r0, r1] : List Addr) := (ninS (Exa.ne q35 q0 (by decide)) (ninS (Exa.ne q35 q7 (by decide)) nin0))
  have nin_r2 : r2 ∉ ([r0, r1] : List Addr) := (ninS (Exa.ne q38 q0 (by decide)) (ninS (Exa.ne q38 q7 (by decide)) nin0))
  obtain ⟨T1, X1, e1, st1⟩ := initO X0 hx hZ hown (w_ hw 219 rfl) (w_ hw 20 rfl) (w_ hw 21 rfl) e0 (g := (mkF m 1 #[vr r0, vr r1, vr r2, un, un, un, un] [(.ref r0)])) rfl (by rw [hml]; rfl) rfl (D d31_1) (by decide) (W := 0) (by show 2 * 0 + _ ≤ _; exact Nat.le_of_eq rfl) (by decide)
  obtain ⟨T2, h2, X2, e2, E2, A2, D2, -, st2⟩ := newO X1 hx hZ hown (w_ hw 220 rfl) (w_ hw 221 rfl) (w_ hw 11 rfl) e1 (g := (mkF m 5 #[vr r0, vr r1, vr r2, un, un, un, un] [(.ref r0)])) rfl (D d31_5) (by decide) (by decide)
  obtain ⟨b2, g2⟩ : ∃ z, z = h0.size := ⟨_, rfl⟩
  rw [← g2] at A2 D2 st2
  have z2 : h0.size ≤ b2 := Nat.le_trans K0.1 (Nat.le_of_eq g2.symm)
  have k2 := K0.ext E2
  have F2_224 : P0 Z h2 b2 (.float (0 : UInt32)) := D2 (Or.inr (w_ hw 224 rfl)) (ty := .float) (by decide)
  have F2_351 : P3 Z h2 b2 .null := D2 (Or.inl (w_ hw 351 rfl)) (ty := (.array (.object "java/util/HashMap$Node"))) (by decide)
  have F2_353 : P4 Z h2 b2 (.int 0) := D2 (Or.inl (w_ hw 353 rfl)) (ty := .int) (by decide)
  have F2_363 : P7 Z h2 b2 (.int 0) := D2 (Or.inl (w_ hw 363 rfl)) (ty := .int) (by decide)
  have F2_364 : P8 Z h2 b2 (.int 0) := D2 (Or.inl (w_ hw 364 rfl)) (ty := .int) (by decide)
  obtain ⟨v3, T3, L3, X3, Q3, st3⟩ := kI X2 hx hZ hown (t39 hw SB0 b2 (O0.keep k2 hws) A2 F2_224 F2_351 F2_353 F2_363 F2_364 (Nat.le_trans Z0 z2)) rfl (w_ hw 222 rfl) (w_ hw 8 rfl) (w_ hw 11 rfl) (w_ hw 12 rfl) e2 (g := (mkF m 9 #[vr r0, vr r1, vr r2, un, un, un, un] [(.ref b2), (.ref b2), (.ref r0)])) rfl hml rfl (argsL := []) (rest := [(.ref b2), (.ref r0)]) (lenOf pd0 rfl) rfl rfl (W := 2) rfl (D d31_9)
  obtain ⟨h3, e3⟩ : ∃ z, T3.heap = z := ⟨_, rfl⟩
  rw [e3] at Q3
  obtain ⟨rfl, M3, K3, F3_0, F3_1, F3_2, F3_3⟩ := Q3
  have N3 := N0.app M3
  have k3 := k2.trans K3 (allS (Or.inr z2) all0)
  have f5 := ((q0.ext E2).keep K3)
  have f6 := (A2.keep K3)
  have ne4 : r0 ≠ b2 := Exa.ne f5 f6 (by decide)
  have f7 := ((q1.ext E2).keep K3 (ninS ne4 nin0))
  obtain ⟨T8, h8, X8, e8, W8, st8⟩ := putF X3 hx hZ hown (host := "") (Or.inl (w_ hw 225 rfl)) Via.refl e3 f7 f5 (Or.inr ⟨(w_ hw 226 rfl), rfl, hnm⟩) (w_ hw 214 rfl) (ty := (.object "java/util/Map")) (by decide) rfl rfl (g := (mkF m 12 #[vr r0, vr r1, vr r2, un, un, un, un] [(.ref b2), (.ref r0)])) rfl rfl (D d31_12)
  have N8 := Fr.snoc X8 N3 ge0
  have k8 := k3.wr W8 (Or.inl (List.mem_of_getElem? (i := 0) rfl))
  have v8 := f7.same W8
  have f9 := (((q7.ext E2).keep K3).wr W8)
  have f11 := (f6.wr W8)
  have ne10 : r1 ≠ b2 := Exa.ne f9 f11 (by decide)
  have f13 := (f5.wr W8)
  have ne12 : r1 ≠ r0 := Exa.ne f9 f13 (by decide)
  have f14 := (((q8.ext E2).keep K3 (ninS ne10 nin0)).other W8 (Or.inl ne12))
  have f15 := (((q9.ext E2).keep K3 (ninS ne10 nin0)).other W8 (Or.inl ne12))
  have f16 := (((q10.ext E2).keep K3 (ninS ne10 nin0)).other W8 (Or.inl ne12))
  obtain ⟨v17, T17, L17, X17, Q17, st17⟩ := kG X8 hx hZ hown (t43 hw SB0 r1 r3 (3 : Int32) (O0.keep k8 hws) f9 f14 f15 f16 ge1) f9 (w_ hw 227 rfl) (mvT hZ (w_ hw 229 rfl)) (iw2 hw) e8 (g := (mkF m 18 #[vr r0, vr r1, vr r2, vi 0, un, un, un] [(.ref r1)])) rfl hml rfl (argsL := []) (rest := []) (lenOf pd25 rfl) rfl rfl (W := 0) rfl (D d31_18)
  obtain ⟨h17, e17⟩ : ∃ z, T17.heap = z := ⟨_, rfl⟩
  rw [e17] at Q17
  obtain ⟨b17_0, rfl, M17, K17, y17_0, F17_0, F17_1, F17_2, F17_3, F17_4, F17_5⟩ := Q17
  have N17 := N8.app M17
  have z17_b17_0 := Nat.le_trans k8.1 y17_0
  have k17 := k8.trans K17 (allS (Or.inl (List.mem_of_getElem? (i := 1) rfl)) all0)
  have f18 := (f9.keep K17)
  obtain ⟨v19, T19, L19, X19, Q19, st19⟩ := kG X17 hx hZ hown (t46 hw SB0 b17_0 r1 r3 (3 : Int32) (O0.keep k17 hws) F17_4 F17_5 F17_1 F17_2 f18) F17_3 (w_ hw 262 rfl) (mvT hZ (w_ hw 264 rfl)) (iw3 hw) e17 (g := (mkF m 23 #[vr r0, vr r1, vr r2, vi 0, un, un, un] [(.ref b17_0)])) rfl hml rfl (argsL := []) (rest := []) (lenOf pd26 rfl) rfl rfl (W := 0) rfl (D d31_23)
  obtain ⟨h19, e19⟩ : ∃ z, T19.heap = z := ⟨_, rfl⟩
  rw [e19] at Q19
  obtain ⟨b19_0, rfl, M19, K19, y19_0, F19_0, F19_1, F19_2, F19_3, F19_4, F19_5⟩ := Q19
  have N19 := N17.app M19
  have z19_b19_0 := Nat.le_trans k17.1 y19_0
  have k19 := k17.trans K19 all0
  obtain ⟨v20, T20, L20, X20, Q20, st20⟩ := kG X19 hx hZ hown (t47 hw SB0 b19_0 r3 (O0.keep k19 hws) F19_3) F19_0 (w_ hw 298 rfl) (mvT hZ (w_ hw 300 rfl)) (iw4 hw) e19 (g := (mkF m 32 #[vr r0, vr r1, vr r2, vi 0, vr b19_0, un, un] [(.ref b19_0)])) rfl hml rfl (argsL := []) (rest := []) (lenOf pd11 rfl) rfl rfl (W := 0) rfl (D d31_32)
  obtain ⟨rfl, M20, e20⟩ := Q20
  have N20 := N19.app M20
  have f21 := (F17_2.keep K19 nin0)
  have f22 := q11.keep k19 nin_r3
  have f23 := q12.keep k19
  obtain ⟨v24, T24, L24, X24, Q24, st24⟩ := kG X20 hx hZ hown (t86 hw SB0 b19_0 r3 r1 (3 : Int32) r4 (O0.keep k19 hws) F19_0 F19_3 F19_1 f21 F19_4 F19_2 F19_5 f22 f23 (Nat.le_trans Z0 z19_b19_0)) F19_0 (w_ hw 307 rfl) (mvT hZ (w_ hw 309 rfl)) (iw5 hw) e20 (g := (mkF m 42 #[vr r0, vr r1, vr r2, vi 0, vr b19_0, un, un] [(.ref b19_0)])) rfl hml rfl (argsL := []) (rest := []) (lenOf pd29 rfl) rfl rfl (W := 0) rfl (D d31_42)
  obtain ⟨h24, e24⟩ : ∃ z, T24.heap = z := ⟨_, rfl⟩
  rw [e24] at Q24
  obtain ⟨rfl, M24, K24, F24_0, F24_1, F24_2, F24_3, F24_4⟩ := Q24
  have N24 := N20.app M24
  have k24 := k19.trans K24 (allS (Or.inr z19_b19_0) all0)
  have f25 := q12.keep k24
  obtain ⟨T26, X26, e26, st26⟩ := castY X24 hx hZ hown (w_ hw 328 rfl) e24 (Ins.of_exa f25 (w_ hw 329 rfl)) (g := (mkF m 47 #[vr r0, vr r1, vr r2, vi 0, vr b19_0, un, un] [(.ref r3)])) rfl rfl (D d31_47)
  have f28 := (((f13.keep K17).keep K19).keep K24)
  have f29 := (F19_0.keep K24)
  have ne27 : r0 ≠ b19_0 := Exa.ne f28 f29 (by decide)
  have f30 := (((v8.keep K17 (ninS (Ne.symm ne12) nin0)).keep K19 nin0).keep K24 (ninS ne27 nin0))
  obtain ⟨T31, X31, e31, st31⟩ := gF X26 hx hZ hown (w_ hw 225 rfl) Via.refl e26 f30 (g := (mkF m 53 #[vr r0, vr r1, vr r2, vi 0, vr b19_0, vr r3, un] [(.ref r0)])) rfl rfl (D d31_53)
  have f32 := q13.keep k24 nin_r3
  obtain ⟨v33, T33, L33, X33, Q33, st33⟩ := kG X31 hx hZ hown (t51 hw SB0 r3 r5 (O0.keep k24 hws) f32) f25 (w_ hw 330 rfl) (mvT hZ (w_ hw 332 rfl)) (iw6 hw) e31 (g := (mkF m 58 #[vr r0, vr r1, vr r2, vi 0, vr b19_0, vr r3, un] [(.ref r3), (.ref b2)])) rfl hml rfl (argsL := []) (rest := [(.ref b2)]) (lenOf pd29 rfl) rfl rfl (W := 1) rfl (D d31_58)
  obtain ⟨rfl, M33, e33⟩ := Q33
  have N33 := N24.app M33
  have f34 := q14.keep k24
  obtain ⟨T35, X35, e35, st35⟩ := castY X33 hx hZ hown (w_ hw 338 rfl) e33 (Ins.self f34) (g := (mkF m 63 #[vr r0, vr r1, vr r2, vi 0, vr b19_0, vr r3, un] [(.ref r5), (.ref b2)])) rfl rfl (D d31_63)
  obtain ⟨v36, T36, L36, X36, Q36, st36⟩ := kS X35 hx hZ hown (t52 hw SB0 (0 : Int32) (O0.keep k24 hws) bd0) (w_ hw 339 rfl) (w_ hw 340 rfl) (w_ hw 341 rfl) (w_ hw 342 rfl) e35 (g := (mkF m 67 #[vr r0, vr r1, vr r2, vi 0, vr b19_0, vr r3, un] [(.int 0), (.ref r5), (.ref b2)])) rfl hml rfl (argsL := [(.int 0)]) (rest := [(.ref r5), (.ref b2)]) (lenOf pd30 rfl) rfl rfl (W := 2) rfl (D d31_67)
  obtain ⟨h36, e36⟩ : ∃ z, T36.heap = z := ⟨_, rfl⟩
  rw [e36] at Q36
  obtain ⟨b36_0, rfl, M36, K36, F36_0, F36_1⟩ := Q36
  have N36 := N33.app M36
  have k36 := k24.trans K36 all0
  have f37 := q14.keep k36
  have f38 := q15.keep k36 nin_r5
  have f39 := ((((f11.keep K17).keep K19).keep K24).keep K36)
  have f41 := (f29.keep K36)
  have ne40 : b2 ≠ b19_0 := Exa.ne f39 f41 (by decide)
  have f42 := (((((F3_0.other W8 (Or.inl (Ne.symm ne4))).keep K17 (ninS (Ne.symm ne10) nin0)).keep K19 nin0).keep K24 (ninS ne40 nin0)).keep K36 nin0)
  have f43 := (((((F3_1.other W8 (Or.inl (Ne.symm ne4))).keep K17 (ninS (Ne.symm ne10) nin0)).keep K19 nin0).keep K24 (ninS ne40 nin0)).keep K36 nin0)
  have f44 := (((((F3_2.other W8 (Or.inl (Ne.symm ne4))).keep K17 (ninS (Ne.symm ne10) nin0)).keep K19 nin0).keep K24 (ninS ne40 nin0)).keep K36 nin0)
  have f45 := (((((F3_3.other W8 (Or.inl (Ne.symm ne4))).keep K17 (ninS (Ne.symm ne10) nin0)).keep K19 nin0).keep K24 (ninS ne40 nin0)).keep K36 nin0)
  obtain ⟨v46, T46, L46, X46, Q46, st46⟩ := kG X36 hx hZ hown (t60 hw SB0 b2 r5 b36_0 (O0.keep k36 hws) f37 f38 f39 f42 f43 f44 f45 (Nat.le_trans Z0 z2)) f39 (w_ hw 346 rfl) (mvT hZ (w_ hw 117 rfl)) (iw7 hw) e36 (g := (mkF m 70 #[vr r0, vr r1, vr r2, vi 0, vr b19_0, vr r3, un] [(.ref b36_0), (.ref r5), (.ref b2)])) rfl hml rfl (argsL := [(.ref r5), (.ref b36_0)]) (rest := []) (lenOf pd22 rfl) rfl rfl (W := 0) rfl (D d31_70)
  obtain ⟨h46, e46⟩ : ∃ z, T46.heap = z := ⟨_, rfl⟩
  rw [e46] at Q46
  obtain ⟨b46_0, b46_1, c46_2, rfl, M46, K46, y46_0, y46_1, F46_0, F46_1, F46_2, F46_3, F46_4, F46_5, F46_6, F46_7, F46_8, F46_9, F46_10⟩ := Q46
  have N46 := N36.app M46
  have z46_b46_0 := Nat.le_trans k36.1 y46_0
  have z46_b46_1 := Nat.le_trans k36.1 y46_1
  have k46 := k36.trans K46 (allS (Or.inr z2) all0)
  have f47 := q16.keep k46 nin_r3
  have f48 := q12.keep k46
  obtain ⟨v49, T49, L49, X49, Q49, st49⟩ := kG X46 hx hZ hown (t61 hw SB0 r3 r6 (O0.keep k46 hws) f47) f48 (w_ hw 367 rfl) (mvT hZ (w_ hw 369 rfl)) (iw8 hw) e46 (g := (mkF m 79 #[vr r0, vr r1, vr r2, vi 0, vr b19_0, vr r3, un] [(.ref r3), (.int 0)])) rfl hml rfl (argsL := []) (rest := [(.int 0)]) (lenOf pd29 rfl) rfl rfl (W := 1) rfl (D d31_79)
  obtain ⟨rfl, M49, e49⟩ := Q49
  have N49 := N46.app M49
  have f50 := q17.keep k46
  obtain ⟨T51, X51, e51, st51⟩ := castY X49 hx hZ hown (w_ hw 375 rfl) e49 (Ins.of_exa f50 (w_ hw 88 rfl)) (g := (mkF m 84 #[vr r0, vr r1, vr r2, vi 0, vr b19_0, vr r3, un] [(.ref r6), (.int 0)])) rfl rfl (D d31_84)
  have f52 := q18.keep k46 nin_r6
  obtain ⟨v53, T53, L53, X53, Q53, st53⟩ := kG X51 hx hZ hown (t62 hw SB0 r6 i7 (O0.keep k46 hws) f52) f50 (w_ hw 376 rfl) (mvT hZ (w_ hw 378 rfl)) (iw9 hw) e51 (g := (mkF m 87 #[vr r0, vr r1, vr r2, vi 0, vr b19_0, vr r3, un] [(.ref r6), (.int 0)])) rfl hml rfl (argsL := []) (rest := [(.int 0)]) (lenOf pd13 rfl) rfl rfl (W := 1) rfl (D d31_87)
  obtain ⟨rfl, M53, e53⟩ := Q53
  have N53 := N49.app M53
  have f54 := ((F24_0.keep K36 nin0).keep K46 (ninS (Ne.symm ne40) nin0))
  have f55 := (f41.keep K46)
  obtain ⟨v56, T56, L56, X56, Q56, st56⟩ := kG X53 hx hZ hown (t47 hw SB0 b19_0 r4 (O0.keep k46 hws) f54) f55 (w_ hw 298 rfl) (mvT hZ (w_ hw 300 rfl)) (iw4 hw) e53 (g := (mkF m 32 #[vr r0, vr r1, vr r2, vi ((0 : Int32) + i7), vr b19_0, vr r3, un] [(.ref b19_0)])) rfl hml rfl (argsL := []) (rest := []) (lenOf pd11 rfl) rfl rfl (W := 0) rfl (D d31_32)
  obtain ⟨rfl, M56, e56⟩ := Q56
  have N56 := N53.app M56
  have f57 := ((F24_1.keep K36 nin0).keep K46 (ninS (Ne.symm ne40) nin0))
  have f59 := ((((f18.keep K19).keep K24).keep K36).keep K46)
  have ne58 : r1 ≠ b19_0 := Exa.ne f59 f55 (by decide)
  have f60 := (((f21.keep K24 (ninS ne58 nin0)).keep K36 nin0).keep K46 (ninS ne10 nin0))
  have f61 := ((F24_2.keep K36 nin0).keep K46 (ninS (Ne.symm ne40) nin0))
  have f62 := ((F24_3.keep K36 nin0).keep K46 (ninS (Ne.symm ne40) nin0))
  have f63 := ((F24_4.keep K36 nin0).keep K46 (ninS (Ne.symm ne40) nin0))
  have f64 := q19.keep k46 nin_r4
  have f65 := q20.keep k46
  obtain ⟨v66, T66, L66, X66, Q66, st66⟩ := kG X56 hx hZ hown (t114 hw SB0 b19_0 r4 r1 (3 : Int32) r3 r8 (O0.keep k46 hws) f55 f54 f57 f60 f61 f62 f63 f64 f65 (Nat.le_trans Z0 z19_b19_0)) f55 (w_ hw 307 rfl) (mvT hZ (w_ hw 309 rfl)) (iw5 hw) e56 (g := (mkF m 42 #[vr r0, vr r1, vr r2, vi ((0 : Int32) + i7), vr b19_0, vr r3, un] [(.ref b19_0)])) rfl hml rfl (argsL := []) (rest := []) (lenOf pd29 rfl) rfl rfl (W := 0) rfl (D d31_42)
  obtain ⟨h66, e66⟩ : ∃ z, T66.heap = z := ⟨_, rfl⟩
  rw [e66] at Q66
  obtain ⟨rfl, M66, K66, F66_0, F66_1, F66_2, F66_3, F66_4⟩ := Q66
  have N66 := N56.app M66
  have k66 := k46.trans K66 (allS (Or.inr z19_b19_0) all0)
  have f67 := q20.keep k66
  obtain ⟨T68, X68, e68, st68⟩ := castY X66 hx hZ hown (w_ hw 328 rfl) e66 (Ins.of_exa f67 (w_ hw 329 rfl)) (g := (mkF m 47 #[vr r0, vr r1, vr r2, vi ((0 : Int32) + i7), vr b19_0, vr r3, un] [(.ref r4)])) rfl rfl (D d31_47)
  have f69 := (((f30.keep K36 nin0).keep K46 (ninS ne4 nin0)).keep K66 (ninS ne27 nin0))
  obtain ⟨T70, X70, e70, st70⟩ := gF X68 hx hZ hown (w_ hw 225 rfl) Via.refl e68 f69 (g := (mkF m 53 #[vr r0, vr r1, vr r2, vi ((0 : Int32) + i7), vr b19_0, vr r4, un] [(.ref r0)])) rfl rfl (D d31_53)
  have f71 := q21.keep k66 nin_r4
  obtain ⟨v72, T72, L72, X72, Q72, st72⟩ := kG X70 hx hZ hown (t51 hw SB0 r4 r9 (O0.keep k66 hws) f71) f67 (w_ hw 330 rfl) (mvT hZ (w_ hw 332 rfl)) (iw6 hw) e70 (g := (mkF m 58 #[vr r0, vr r1, vr r2, vi ((0 : Int32) + i7), vr b19_0, vr r4, un] [(.ref r4), (.ref b2)])) rfl hml rfl (argsL := []) (rest := [(.ref b2)]) (lenOf pd29 rfl) rfl rfl (W := 1) rfl (D d31_58)
  obtain ⟨rfl, M72, e72⟩ := Q72
  have N72 := N66.app M72
  have f73 := q22.keep k66
  obtain ⟨T74, X74, e74, st74⟩ := castY X72 hx hZ hown (w_ hw 338 rfl) e72 (Ins.self f73) (g := (mkF m 63 #[vr r0, vr r1, vr r2, vi ((0 : Int32) + i7), vr b19_0, vr r4, un] [(.ref r9), (.ref b2)])) rfl rfl (D d31_63)
  obtain ⟨v75, T75, L75, X75, Q75, st75⟩ := kS X74 hx hZ hown (t52 hw SB0 ((0 : Int32) + i7) (O0.keep k66 hws) (bd1 q23)) (w_ hw 339 rfl) (w_ hw 340 rfl) (w_ hw 341 rfl) (w_ hw 342 rfl) e74 (g := (mkF m 67 #[vr r0, vr r1, vr r2, vi ((0 : Int32) + i7), vr b19_0, vr r4, un] [(.int ((0 : Int32) + i7)), (.ref r9), (.ref b2)])) rfl hml rfl (argsL := [(.int ((0 : Int32) + i7))]) (rest := [(.ref r9), (.ref b2)]) (lenOf pd30 rfl) rfl rfl (W := 2) rfl (D d31_67)
  obtain ⟨h75, e75⟩ : ∃ z, T75.heap = z := ⟨_, rfl⟩
  rw [e75] at Q75
  obtain ⟨b75_0, rfl, M75, K75, F75_0, F75_1⟩ := Q75
  have N75 := N72.app M75
  have k75 := k66.trans K75 all0
  have f76 := q22.keep k75
  have f77 := q24.keep k75 nin_r9
  have f78 := (((f39.keep K46).keep K66).keep K75)
  have f79 := ((F46_0.keep K66 (ninS ne40 nin0)).keep K75 nin0)
  have f81 := ((F46_4.keep K66).keep K75)
  have f82 := ((f55.keep K66).keep K75)
  have ne80 : b46_0 ≠ b19_0 := Exa.ne f81 f82 (by decide)
  have f83 := ((F46_5.keep K66 (ninS ne80 nin0)).keep K75 nin0)
  have f84 := ((F46_2.keep K66 (ninS ne40 nin0)).keep K75 nin0)
  have f85 := ((F46_1.keep K66 (ninS ne40 nin0)).keep K75 nin0)
  have f86 := ((F46_3.keep K66 (ninS ne40 nin0)).keep K75 nin0)
  obtain ⟨v87, T87, L87, X87, Q87, st87⟩ := kG X75 hx hZ hown (t93 hw SB0 b2 r9 b75_0 b46_0 b46_1 c46_2 (O0.keep k75 hws) f76 f77 f78 f79 f83 f81 F46_6 f84 f85 f86 (Nat.le_trans Z0 z46_b46_0) (Nat.le_trans Z0 z2)) f78 (w_ hw 346 rfl) (mvT hZ (w_ hw 117 rfl)) (iw7 hw) e75 (g := (mkF m 70 #[vr r0, vr r1, vr r2, vi ((0 : Int32) + i7), vr b19_0, vr r4, un] [(.ref b75_0), (.ref r9), (.ref b2)])) rfl hml rfl (argsL := [(.ref r9), (.ref b75_0)]) (rest := []) (lenOf pd22 rfl) rfl rfl (W := 0) rfl (D d31_70)
  obtain ⟨h87, e87⟩ : ∃ z, T87.heap = z := ⟨_, rfl⟩
  rw [e87] at Q87
  obtain ⟨b87_0, rfl, M87, K87, y87_0, F87_0, F87_1, F87_2, F87_3, F87_4, F87_5, F87_6, F87_7, F87_8⟩ := Q87
  have N87 := N75.app M87
  have z87_b87_0 := Nat.le_trans k75.1 y87_0
  have k87 := k75.trans K87 (allS (Or.inr z46_b46_0) (allS (Or.inr z2) all0))
  have f88 := q25.keep k87 nin_r4
  have f89 := q20.keep k87
  obtain ⟨v90, T90, L90, X90, Q90, st90⟩ := kG X87 hx hZ hown (t61 hw SB0 r4 r10 (O0.keep k87 hws) f88) f89 (w_ hw 367 rfl) (mvT hZ (w_ hw 369 rfl)) (iw8 hw) e87 (g := (mkF m 79 #[vr r0, vr r1, vr r2, vi ((0 : Int32) + i7), vr b19_0, vr r4, un] [(.ref r4), (.int ((0 : Int32) + i7))])) rfl hml rfl (argsL := []) (rest := [(.int ((0 : Int32) + i7))]) (lenOf pd29 rfl) rfl rfl (W := 1) rfl (D d31_79)
  obtain ⟨rfl, M90, e90⟩ := Q90
  have N90 := N87.app M90
  have f91 := q26.keep k87
  obtain ⟨T92, X92, e92, st92⟩ := castY X90 hx hZ hown (w_ hw 375 rfl) e90 (Ins.of_exa f91 (w_ hw 88 rfl)) (g := (mkF m 84 #[vr r0, vr r1, vr r2, vi ((0 : Int32) + i7), vr b19_0, vr r4, un] [(.ref r10), (.int ((0 : Int32) + i7))])) rfl rfl (D d31_84)
  have f93 := q27.keep k87 nin_r10
  obtain ⟨v94, T94, L94, X94, Q94, st94⟩ := kG X92 hx hZ hown (t62 hw SB0 r10 i11 (O0.keep k87 hws) f93) f91 (w_ hw 376 rfl) (mvT hZ (w_ hw 378 rfl)) (iw9 hw) e92 (g := (mkF m 87 #[vr r0, vr r1, vr r2, vi ((0 : Int32) + i7), vr b19_0, vr r4, un] [(.ref r10), (.int ((0 : Int32) + i7))])) rfl hml rfl (argsL := []) (rest := [(.int ((0 : Int32) + i7))]) (lenOf pd13 rfl) rfl rfl (W := 1) rfl (D d31_87)
  obtain ⟨rfl, M94, e94⟩ := Q94
  have N94 := N90.app M94
  have f95 := ((F66_0.keep K75 nin0).keep K87 (ninS (Ne.symm ne80) (ninS (Ne.symm ne40) nin0)))
  have f96 := (f82.keep K87)
  obtain ⟨v97, T97, L97, X97, Q97, st97⟩ := kG X94 hx hZ hown (t47 hw SB0 b19_0 r8 (O0.keep k87 hws) f95) f96 (w_ hw 298 rfl) (mvT hZ (w_ hw 300 rfl)) (iw4 hw) e94 (g := (mkF m 32 #[vr r0, vr r1, vr r2, vi (((0 : Int32) + i7) + i11), vr b19_0, vr r4, un] [(.ref b19_0)])) rfl hml rfl (argsL := []) (rest := []) (lenOf pd11 rfl) rfl rfl (W := 0) rfl (D d31_32)
  obtain ⟨rfl, M97, e97⟩ := Q97
  have N97 := N94.app M97
  have f98 := ((F66_1.keep K75 nin0).keep K87 (ninS (Ne.symm ne80) (ninS (Ne.symm ne40) nin0)))
  have f100 := (((f59.keep K66).keep K75).keep K87)
  have f101 := (f81.keep K87)
  have ne99 : r1 ≠ b46_0 := Exa.ne f100 f101 (by decide)
  have f102 := (((f60.keep K66 (ninS ne58 nin0)).keep K75 nin0).keep K87 (ninS ne99 (ninS ne10 nin0)))
  have f103 := ((F66_2.keep K75 nin0).keep K87 (ninS (Ne.symm ne80) (ninS (Ne.symm ne40) nin0)))
  have f104 := ((F66_3.keep K75 nin0).keep K87 (ninS (Ne.symm ne80) (ninS (Ne.symm ne40) nin0)))
  have f105 := ((F66_4.keep K75 nin0).keep K87 (ninS (Ne.symm ne80) (ninS (Ne.symm ne40) nin0)))
  have f106 := q28.keep k87 nin_r8
  have f107 := q29.keep k87
  obtain ⟨v108, T108, L108, X108, Q108, st108⟩ := kG X97 hx hZ hown (t89 hw SB0 b19_0 r8 r1 (3 : Int32) r4 (O0.keep k87 hws) f96 f95 f98 f102 f103 f104 f105 f106 f107 (Nat.le_trans Z0 z19_b19_0)) f96 (w_ hw 307 rfl) (mvT hZ (w_ hw 309 rfl)) (iw5 hw) e97 (g := (mkF m 42 #[vr r0, vr r1, vr r2, vi (((0 : Int32) + i7) + i11), vr b19_0, vr r4, un] [(.ref b19_0)])) rfl hml rfl (argsL := []) (rest := []) (lenOf pd29 rfl) rfl rfl (W := 0) rfl (D d31_42)
  obtain ⟨h108, e108⟩ : ∃ z, T108.heap = z := ⟨_, rfl⟩
  rw [e108] at Q108
  obtain ⟨rfl, M108, K108, F108_0, F108_1, F108_2, F108_3, F108_4⟩ := Q108
  have N108 := N97.app M108
  have k108 := k87.trans K108 (allS (Or.inr z19_b19_0) all0)
  have f109 := q29.keep k108
  obtain ⟨T110, X110, e110, st110⟩ := castY X108 hx hZ hown (w_ hw 328 rfl) e108 (Ins.of_exa f109 (w_ hw 329 rfl)) (g := (mkF m 47 #[vr r0, vr r1, vr r2, vi (((0 : Int32) + i7) + i11), vr b19_0, vr r4, un] [(.ref r8)])) rfl rfl (D d31_47)
  have f112 := ((((((f28.keep K36).keep K46).keep K66).keep K75).keep K87).keep K108)
  have f113 := (f101.keep K108)
  have ne111 : r0 ≠ b46_0 := Exa.ne f112 f113 (by decide)
  have f114 := (((f69.keep K75 nin0).keep K87 (ninS ne111 (ninS ne4 nin0))).keep K108 (ninS ne27 nin0))
  obtain ⟨T115, X115, e115, st115⟩ := gF X110 hx hZ hown (w_ hw 225 rfl) Via.refl e110 f114 (g := (mkF m 53 #[vr r0, vr r1, vr r2, vi (((0 : Int32) + i7) + i11), vr b19_0, vr r8, un] [(.ref r0)])) rfl rfl (D d31_53)
  have f116 := q30.keep k108 nin_r8
  obtain ⟨v117, T117, L117, X117, Q117, st117⟩ := kG X115 hx hZ hown (t51 hw SB0 r8 r12 (O0.keep k108 hws) f116) f109 (w_ hw 330 rfl) (mvT hZ (w_ hw 332 rfl)) (iw6 hw) e115 (g := (mkF m 58 #[vr r0, vr r1, vr r2, vi (((0 : Int32) + i7) + i11), vr b19_0, vr r8, un] [(.ref r8), (.ref b2)])) rfl hml rfl (argsL := []) (rest := [(.ref b2)]) (lenOf pd29 rfl) rfl rfl (W := 1) rfl (D d31_58)
  obtain ⟨rfl, M117, e117⟩ := Q117
  have N117 := N108.app M117
  have f118 := q31.keep k108
  obtain ⟨T119, X119, e119, st119⟩ := castY X117 hx hZ hown (w_ hw 338 rfl) e117 (Ins.self f118) (g := (mkF m 63 #[vr r0, vr r1, vr r2, vi (((0 : Int32) + i7) + i11), vr b19_0, vr r8, un] [(.ref r12), (.ref b2)])) rfl rfl (D d31_63)
  obtain ⟨v120, T120, L120, X120, Q120, st120⟩ := kS X119 hx hZ hown (t52 hw SB0 (((0 : Int32) + i7) + i11) (O0.keep k108 hws) (bd2 q23 q32)) (w_ hw 339 rfl) (w_ hw 340 rfl) (w_ hw 341 rfl) (w_ hw 342 rfl) e119 (g := (mkF m 67 #[vr r0, vr r1, vr r2, vi (((0 : Int32) + i7) + i11), vr b19_0, vr r8, un] [(.int (((0 : Int32) + i7) + i11)), (.ref r12), (.ref b2)])) rfl hml rfl (argsL := [(.int (((0 : Int32) + i7) + i11))]) (rest := [(.ref r12), (.ref b2)]) (lenOf pd30 rfl) rfl rfl (W := 2) rfl (D d31_67)
  obtain ⟨h120, e120⟩ : ∃ z, T120.heap = z := ⟨_, rfl⟩
  rw [e120] at Q120
  obtain ⟨b120_0, rfl, M120, K120, F120_0, F120_1⟩ := Q120
  have N120 := N117.app M120
  have k120 := k108.trans K120 all0
  have f121 := q31.keep k120
  have f122 := q33.keep k120 nin_r12
  have f123 := (((f78.keep K87).keep K108).keep K120)
  have f124 := ((F87_1.keep K108 (ninS ne40 nin0)).keep K120 nin0)
  have f125 := ((F87_0.keep K108 (ninS ne80 nin0)).keep K120 nin0)
  have f126 := (f113.keep K120)
  have f127 := ((F87_2.keep K108 (ninS ne40 nin0)).keep K120 nin0)
  have f128 := ((F87_3.keep K108 (ninS ne40 nin0)).keep K120 nin0)
  have f129 := ((F87_4.keep K108 (ninS ne40 nin0)).keep K120 nin0)
  obtain ⟨v130, T130, L130, X130, Q130, st130⟩ := kG X120 hx hZ hown (t118 hw SB0 b2 r12 b120_0 b46_0 b46_1 b87_0 c46_2 (O0.keep k120 hws) f121 f122 f123 f124 f125 f126 F46_6 f127 f128 f129 (Nat.le_trans Z0 z46_b46_0) (Nat.le_trans Z0 z2)) f123 (w_ hw 346 rfl) (mvT hZ (w_ hw 117 rfl)) (iw7 hw) e120 (g := (mkF m 70 #[vr r0, vr r1, vr r2, vi (((0 : Int32) + i7) + i11), vr b19_0, vr r8, un] [(.ref b120_0), (.ref r12), (.ref b2)])) rfl hml rfl (argsL := [(.ref r12), (.ref b120_0)]) (rest := []) (lenOf pd22 rfl) rfl rfl (W := 0) rfl (D d31_70)
  obtain ⟨h130, e130⟩ : ∃ z, T130.heap = z := ⟨_, rfl⟩
  rw [e130] at Q130
  obtain ⟨b130_0, rfl, M130, K130, y130_0, F130_0, F130_1, F130_2, F130_3, F130_4, F130_5, F130_6, F130_7, F130_8⟩ := Q130
  have N130 := N120.app M130
  have z130_b130_0 := Nat.le_trans k120.1 y130_0
  have k130 := k120.trans K130 (allS (Or.inr z46_b46_0) (allS (Or.inr z2) all0))
  have f131 := q34.keep k130 nin_r8
  have f132 := q29.keep k130
  obtain ⟨v133, T133, L133, X133, Q133, st133⟩ := kG X130 hx hZ hown (t61 hw SB0 r8 r13 (O0.keep k130 hws) f131) f132 (w_ hw 367 rfl) (mvT hZ (w_ hw 369 rfl)) (iw8 hw) e130 (g := (mkF m 79 #[vr r0, vr r1, vr r2, vi (((0 : Int32) + i7) + i11), vr b19_0, vr r8, un] [(.ref r8), (.int (((0 : Int32) + i7) + i11))])) rfl hml rfl (argsL := []) (rest := [(.int (((0 : Int32) + i7) + i11))]) (lenOf pd29 rfl) rfl rfl (W := 1) rfl (D d31_79)
  obtain ⟨rfl, M133, e133⟩ := Q133
  have N133 := N130.app M133
  have f134 := q35.keep k130
  obtain ⟨T135, X135, e135, st135⟩ := castY X133 hx hZ hown (w_ hw 375 rfl) e133 (Ins.of_exa f134 (w_ hw 88 rfl)) (g := (mkF m 84 #[vr r0, vr r1, vr r2, vi (((0 : Int32) + i7) + i11), vr b19_0, vr r8, un] [(.ref r13), (.int (((0 : Int32) + i7) + i11))])) rfl rfl (D d31_84)
  have f136 := q36.keep k130 nin_r13
  obtain ⟨v137, T137, L137, X137, Q137, st137⟩ := kG X135 hx hZ hown (t62 hw SB0 r13 i14 (O0.keep k130 hws) f136) f134 (w_ hw 376 rfl) (mvT hZ (w_ hw 378 rfl)) (iw9 hw) e135 (g := (mkF m 87 #[vr r0, vr r1, vr r2, vi (((0 : Int32) + i7) + i11), vr b19_0, vr r8, un] [(.ref r13), (.int (((0 : Int32) + i7) + i11))])) rfl hml rfl (argsL := []) (rest := [(.int (((0 : Int32) + i7) + i11))]) (lenOf pd13 rfl) rfl rfl (W := 1) rfl (D d31_87)
  obtain ⟨rfl, M137, e137⟩ := Q137
  have N137 := N133.app M137
  have f138 := ((F108_0.keep K120 nin0).keep K130 (ninS (Ne.symm ne80) (ninS (Ne.symm ne40) nin0)))
  have f139 := (((f96.keep K108).keep K120).keep K130)
  obtain ⟨v140, T140, L140, X140, Q140, st140⟩ := kG X137 hx hZ hown (t63 hw SB0 b19_0 (O0.keep k130 hws) f138) f139 (w_ hw 298 rfl) (mvT hZ (w_ hw 300 rfl)) (iw4 hw) e137 (g := (mkF m 32 #[vr r0, vr r1, vr r2, vi ((((0 : Int32) + i7) + i11) + i14), vr b19_0, vr r8, un] [(.ref b19_0)])) rfl hml rfl (argsL := []) (rest := []) (lenOf pd11 rfl) rfl rfl (W := 0) rfl (D d31_32)
  obtain ⟨rfl, M140, e140⟩ := Q140
  have N140 := N137.app M140
  obtain ⟨T141, h141, c141, X141, e141, E141, A141, B141, st141⟩ := newPE X140 hx hZ (w_ hw 384 rfl) e140 (g := (mkF m 99 #[vr r0, vr r1, vr r2, vi ((((0 : Int32) + i7) + i11) + i14), vr b19_0, vr r8, un] [(.int ((((0 : Int32) + i7) + i11) + i14)), (.ref r0)])) rfl (D d31_99) rfl (bd_nn (bd3 q23 q32 q37)) (cap := 12) (bd_cap (bd3 q23 q32 q37)) (by decide) (by decide) (by decide) (ad := "[Z") (by decide)
  obtain ⟨b141, g141⟩ : ∃ z, z = h130.size := ⟨_, rfl⟩
  rw [← g141] at A141 B141 st141
  have z141 : h0.size ≤ b141 := Nat.le_trans k130.1 (Nat.le_of_eq g141.symm)
  have k141 := k130.ext E141
  have v141 : AB Z h141 b141 ((((0 : Int32) + i7) + i11) + i14) (fun _ => 0) := AB.new A141 (bd_nn (bd3 q23 q32 q37))
  have f142 := (((((((((((((((q2.ext E2).keep K3 (ninS ne4 nin0)).other W8 (Or.inr (sn79 hw))).keep K17 (ninS (Ne.symm ne12) nin0)).keep K19 nin0).keep K24 (ninS ne27 nin0)).keep K36 nin0).keep K46 (ninS ne4 nin0)).keep K66 (ninS ne27 nin0)).keep K75 nin0).keep K87 (ninS ne111 (ninS ne4 nin0))).keep K108 (ninS ne27 nin0)).keep K120 nin0).keep K130 (ninS ne111 (ninS ne4 nin0))).ext E141)
  have f143 := (((f112.keep K120).keep K130).ext E141)
  obtain ⟨T144, h144, X144, e144, W144, st144⟩ := putF X141 hx hZ hown (host := "") (Or.inl (w_ hw 385 rfl)) Via.refl e141 f142 f143 (Or.inr ⟨(w_ hw 386 rfl), rfl, hnm⟩) (w_ hw 214 rfl) (ty := (.array .boolean)) (by decide) rfl rfl (g := (mkF m 101 #[vr r0, vr r1, vr r2, vi ((((0 : Int32) + i7) + i11) + i14), vr b19_0, vr r8, un] [(.ref b141), (.ref r0)])) rfl rfl (D d31_101)
  have N144 := Fr.snoc X144 N140 ge0
  have k144 := k141.wr W144 (Or.inl (List.mem_of_getElem? (i := 0) rfl))
  have v144 := f142.same W144
  have f145 := (((((f100.keep K108).keep K120).keep K130).ext E141).wr W144)
  have f146 := ((((((((((((F17_0.keep K19 nin0).keep K24 (ninS ne58 nin0)).keep K36 nin0).keep K46 (ninS ne10 nin0)).keep K66 (ninS ne58 nin0)).keep K75 nin0).keep K87 (ninS ne99 (ninS ne10 nin0))).keep K108 (ninS ne58 nin0)).keep K120 nin0).keep K130 (ninS ne99 (ninS ne10 nin0))).ext E141).other W144 (Or.inl ne12))
  have f147 := ((((((((((((F17_3.keep K19).keep K24).keep K36).keep K46).keep K66).keep K75).keep K87).keep K108).keep K120).keep K130).ext E141).wr W144)
  obtain ⟨v148, T148, L148, X148, Q148, st148⟩ := kG X144 hx hZ hown (t65 hw SB0 r1 b17_0 (O0.keep k144 hws) f145 f146 f147) f145 (w_ hw 227 rfl) (mvT hZ (w_ hw 229 rfl)) (iw2 hw) e144 (g := (mkF m 105 #[vr r0, vr r1, vr r2, vi ((((0 : Int32) + i7) + i11) + i14), vr b19_0, vr r8, un] [(.ref r1)])) rfl hml rfl (argsL := []) (rest := []) (lenOf pd25 rfl) rfl rfl (W := 0) rfl (D d31_105)
  obtain ⟨rfl, M148, e148⟩ := Q148
  have N148 := N144.app M148
  have f150 := ((f139.ext E141).wr W144)
  have ne149 : b17_0 ≠ b19_0 := Exa.ne f147 f150 (by decide)
  have f152 := (((f123.keep K130).ext E141).wr W144)
  have ne151 : b17_0 ≠ b2 := Exa.ne f147 f152 (by decide)
  have f154 := (((f126.keep K130).ext E141).wr W144)
  have ne153 : b17_0 ≠ b46_0 := Exa.ne f147 f154 (by decide)
  have f156 := (f143.wr W144)
  have ne155 : b17_0 ≠ r0 := Exa.ne f147 f156 (by decide)
  have f157 := ((((((((((((F17_4.keep K19 nin0).keep K24 (ninS ne149 nin0)).keep K36 nin0).keep K46 (ninS ne151 nin0)).keep K66 (ninS ne149 nin0)).keep K75 nin0).keep K87 (ninS ne153 (ninS ne151 nin0))).keep K108 (ninS ne149 nin0)).keep K120 nin0).keep K130 (ninS ne153 (ninS ne151 nin0))).ext E141).other W144 (Or.inl ne155))
  have f158 := ((((((((((((F17_5.keep K19 nin0).keep K24 (ninS ne149 nin0)).keep K36 nin0).keep K46 (ninS ne151 nin0)).keep K66 (ninS ne149 nin0)).keep K75 nin0).keep K87 (ninS ne153 (ninS ne151 nin0))).keep K108 (ninS ne149 nin0)).keep K120 nin0).keep K130 (ninS ne153 (ninS ne151 nin0))).ext E141).other W144 (Or.inl ne155))
  have f159 := ((((((((((((F17_1.keep K19 nin0).keep K24 (ninS ne58 nin0)).keep K36 nin0).keep K46 (ninS ne10 nin0)).keep K66 (ninS ne58 nin0)).keep K75 nin0).keep K87 (ninS ne99 (ninS ne10 nin0))).keep K108 (ninS ne58 nin0)).keep K120 nin0).keep K130 (ninS ne99 (ninS ne10 nin0))).ext E141).other W144 (Or.inl ne12))
  have f160 := (((((f102.keep K108 (ninS ne58 nin0)).keep K120 nin0).keep K130 (ninS ne99 (ninS ne10 nin0))).ext E141).other W144 (Or.inl ne12))
  obtain ⟨v161, T161, L161, X161, Q161, st161⟩ := kG X148 hx hZ hown (t46 hw SB0 b17_0 r1 r3 (3 : Int32) (O0.keep k144 hws) f157 f158 f159 f160 f145) f147 (w_ hw 262 rfl) (mvT hZ (w_ hw 264 rfl)) (iw3 hw) e148 (g := (mkF m 110 #[vr r0, vr r1, vr r2, vi ((((0 : Int32) + i7) + i11) + i14), vr b19_0, vr r8, un] [(.ref b17_0)])) rfl hml rfl (argsL := []) (rest := []) (lenOf pd26 rfl) rfl rfl (W := 0) rfl (D d31_110)
  obtain ⟨h161, e161⟩ : ∃ z, T161.heap = z := ⟨_, rfl⟩
  rw [e161] at Q161
  obtain ⟨b161_0, rfl, M161, K161, y161_0, F161_0, F161_1, F161_2, F161_3, F161_4, F161_5⟩ := Q161
  have N161 := N148.app M161
  have z161_b161_0 := Nat.le_trans k144.1 y161_0
  have k161 := k144.trans K161 all0
  obtain ⟨v162, T162, L162, X162, Q162, st162⟩ := kG X161 hx hZ hown (t47 hw SB0 b161_0 r3 (O0.keep k161 hws) F161_3) F161_0 (w_ hw 298 rfl) (mvT hZ (w_ hw 300 rfl)) (iw4 hw) e161 (g := (mkF m 119 #[vr r0, vr r1, vr r2, vi ((((0 : Int32) + i7) + i11) + i14), vr b161_0, vr r8, un] [(.ref b161_0)])) rfl hml rfl (argsL := []) (rest := []) (lenOf pd11 rfl) rfl rfl (W := 0) rfl (D d31_119)
  obtain ⟨rfl, M162, e162⟩ := Q162
  have N162 := N161.app M162
  have f163 := (f160.keep K161 nin0)
  have f164 := q11.keep k161 nin_r3
  have f165 := q12.keep k161
  obtain ⟨v166, T166, L166, X166, Q166, st166⟩ := kG X162 hx hZ hown (t86 hw SB0 b161_0 r3 r1 (3 : Int32) r4 (O0.keep k161 hws) F161_0 F161_3 F161_1 f163 F161_4 F161_2 F161_5 f164 f165 (Nat.le_trans Z0 z161_b161_0)) F161_0 (w_ hw 307 rfl) (mvT hZ (w_ hw 309 rfl)) (iw5 hw) e162 (g := (mkF m 129 #[vr r0, vr r1, vr r2, vi ((((0 : Int32) + i7) + i11) + i14), vr b161_0, vr r8, un] [(.ref b161_0)])) rfl hml rfl (argsL := []) (rest := []) (lenOf pd29 rfl) rfl rfl (W := 0) rfl (D d31_129)
  obtain ⟨h166, e166⟩ : ∃ z, T166.heap = z := ⟨_, rfl⟩
  rw [e166] at Q166
  obtain ⟨rfl, M166, K166, F166_0, F166_1, F166_2, F166_3, F166_4⟩ := Q166
  have N166 := N162.app M166
  have k166 := k161.trans K166 (allS (Or.inr z161_b161_0) all0)
  have f167 := q12.keep k166
  obtain ⟨T168, X168, e168, st168⟩ := castY X166 hx hZ hown (w_ hw 328 rfl) e166 (Ins.of_exa f167 (w_ hw 329 rfl)) (g := (mkF m 134 #[vr r0, vr r1, vr r2, vi ((((0 : Int32) + i7) + i11) + i14), vr b161_0, vr r8, un] [(.ref r3)])) rfl rfl (D d31_134)
  have f170 := ((f156.keep K161).keep K166)
  have f171 := (F161_0.keep K166)
  have ne169 : r0 ≠ b161_0 := Exa.ne f170 f171 (by decide)
  have f172 := ((v144.keep K161 nin0).keep K166 (ninS ne169 nin0))
  obtain ⟨T173, X173, e173, st173⟩ := gF X168 hx hZ hown (w_ hw 385 rfl) Via.refl e168 f172 (g := (mkF m 140 #[vr r0, vr r1, vr r2, vi ((((0 : Int32) + i7) + i11) + i14), vr b161_0, vr r3, un] [(.ref r0)])) rfl rfl (D d31_140)
  have f174 := ((((((f114.keep K120 nin0).keep K130 (ninS ne111 (ninS ne4 nin0))).ext E141).other W144 (Or.inr (Ne.symm (sn79 hw)))).keep K161 nin0).keep K166 (ninS ne169 nin0))
  obtain ⟨T175, X175, e175, st175⟩ := gF X173 hx hZ hown (w_ hw 225 rfl) Via.refl e173 f174 (g := (mkF m 144 #[vr r0, vr r1, vr r2, vi ((((0 : Int32) + i7) + i11) + i14), vr b161_0, vr r3, un] [(.ref r0), (.ref b141)])) rfl rfl (D d31_144)
  have f176 := q13.keep k166 nin_r3
  obtain ⟨v177, T177, L177, X177, Q177, st177⟩ := kG X175 hx hZ hown (t51 hw SB0 r3 r5 (O0.keep k166 hws) f176) f167 (w_ hw 330 rfl) (mvT hZ (w_ hw 332 rfl)) (iw6 hw) e175 (g := (mkF m 149 #[vr r0, vr r1, vr r2, vi ((((0 : Int32) + i7) + i11) + i14), vr b161_0, vr r3, un] [(.ref r3), (.ref b2), (.ref b141)])) rfl hml rfl (argsL := []) (rest := [(.ref b2), (.ref b141)]) (lenOf pd29 rfl) rfl rfl (W := 2) rfl (D d31_149)
  obtain ⟨rfl, M177, e177⟩ := Q177
  have N177 := N166.app M177
  have f178 := ((f152.keep K161).keep K166)
  have ne179 : b2 ≠ b161_0 := Exa.ne f178 f171 (by decide)
  have f180 := ((((F130_1.ext E141).other W144 (Or.inl (Ne.symm ne4))).keep K161 nin0).keep K166 (ninS ne179 nin0))
  have f182 := ((f154.keep K161).keep K166)
  have ne181 : b46_0 ≠ b161_0 := Exa.ne f182 f171 (by decide)
  have f183 := ((((F130_0.ext E141).other W144 (Ne.symm ne111)).keep K161 nin0).keep K166 (ninS ne181 nin0))
  have f184 := q14.keep k166
  have f185 := q15.keep k166 nin_r5
  have f187 := ((((((((((F46_7.keep K66).keep K75).keep K87).keep K108).keep K120).keep K130).ext E141).wr W144).keep K161).keep K166)
  have f188 := ((f150.keep K161).keep K166)
  have ne186 : b46_1 ≠ b19_0 := Exa.ne f187 f188 (by decide)
  have ne189 : b46_1 ≠ b2 := Exa.ne f187 f178 (by decide)
  have ne190 : b46_1 ≠ b46_0 := Exa.ne f187 f182 (by decide)
  have ne191 : b46_1 ≠ r0 := Exa.ne f187 f170 (by decide)
  have ne192 : b46_1 ≠ b161_0 := Exa.ne f187 f171 (by decide)
  have f193 := ((((((((((F46_8.keep K66 (ninS ne186 nin0)).keep K75 nin0).keep K87 (ninS ne190 (ninS ne189 nin0))).keep K108 (ninS ne186 nin0)).keep K120 nin0).keep K130 (ninS ne190 (ninS ne189 nin0))).ext E141).other W144 (Or.inl ne191)).keep K161 nin0).keep K166 (ninS ne192 nin0))
  have f194 := ((((((((((F46_9.keep K66 (ninS ne186 nin0)).keep K75 nin0).keep K87 (ninS ne190 (ninS ne189 nin0))).keep K108 (ninS ne186 nin0)).keep K120 nin0).keep K130 (ninS ne190 (ninS ne189 nin0))).ext E141).other W144 (Or.inl ne191)).keep K161 nin0).keep K166 (ninS ne192 nin0))
  have f195 := ((((((((((F46_10.keep K66 (ninS ne186 nin0)).keep K75 nin0).keep K87 (ninS ne190 (ninS ne189 nin0))).keep K108 (ninS ne186 nin0)).keep K120 nin0).keep K130 (ninS ne190 (ninS ne189 nin0))).ext E141).other W144 (Or.inl ne191)).keep K161 nin0).keep K166 (ninS ne192 nin0))
  obtain ⟨v196, T196, L196, X196, Q196, st196⟩ := kG X177 hx hZ hown (t120 hw SB0 b2 r5 b46_0 b46_1 b87_0 b130_0 c46_2 b36_0 (O0.keep k166 hws) f178 f180 f183 f184 f185 f193 f194 f195) f178 (w_ hw 389 rfl) (mvT hZ (w_ hw 391 rfl)) (iw10 hw) e177 (g := (mkF m 154 #[vr r0, vr r1, vr r2, vi ((((0 : Int32) + i7) + i11) + i14), vr b161_0, vr r3, un] [(.ref r5), (.ref b2), (.ref b141)])) rfl hml rfl (argsL := [(.ref r5)]) (rest := [(.ref b141)]) (lenOf pd32 rfl) rfl rfl (W := 1) rfl (D d31_154)
  obtain ⟨rfl, M196, e196⟩ := Q196
  have N196 := N177.app M196
  have f197 := (((((((((((F36_0.keep K46).keep K66).keep K75).keep K87).keep K108).keep K120).keep K130).ext E141).wr W144).keep K161).keep K166)
  obtain ⟨T198, X198, e198, st198⟩ := castY X196 hx hZ hown (w_ hw 405 rfl) e196 (Ins.self f197) (g := (mkF m 159 #[vr r0, vr r1, vr r2, vi ((((0 : Int32) + i7) + i11) + i14), vr b161_0, vr r3, un] [(.ref b36_0), (.ref b141)])) rfl rfl (D d31_159)
  have ne199 : b36_0 ≠ b2 := Exa.ne f197 f178 (by decide)
  have ne200 : b36_0 ≠ b19_0 := Exa.ne f197 f188 (by decide)
  have ne201 : b36_0 ≠ b46_0 := Exa.ne f197 f182 (by decide)
  have ne202 : b36_0 ≠ r0 := Exa.ne f197 f170 (by decide)
  have ne203 : b36_0 ≠ b161_0 := Exa.ne f197 f171 (by decide)
  have f204 := (((((((((((F36_1.keep K46 (ninS ne199 nin0)).keep K66 (ninS ne200 nin0)).keep K75 nin0).keep K87 (ninS ne201 (ninS ne199 nin0))).keep K108 (ninS ne200 nin0)).keep K120 nin0).keep K130 (ninS ne201 (ninS ne199 nin0))).ext E141).other W144 (Or.inl ne202)).keep K161 nin0).keep K166 (ninS ne203 nin0))
  obtain ⟨v205, T205, L205, X205, Q205, st205⟩ := kV (y := y62) (z := y62) X198 hx hZ hown (t68 hw SB0 b36_0 (O0.keep k166 hws) f204) f197 (nf_of (x := y62) (y' := y62) (args := #[]) (mvT hZ (w_ hw 410 rfl)) rfl) (w_ hw 407 rfl) (w_ hw 408 rfl) (w_ hw 410 rfl) (w_ hw 409 rfl) (w_ hw 341 rfl) (w_ hw 411 rfl) e198 (g := (mkF m 162 #[vr r0, vr r1, vr r2, vi ((((0 : Int32) + i7) + i11) + i14), vr b161_0, vr r3, un] [(.ref b36_0), (.ref b141)])) rfl hml rfl (argsL := []) (rest := [(.ref b141)]) (lenOf pd13 rfl) rfl rfl (W := 1) rfl (D d31_162)
  obtain ⟨rfl, M205, e205⟩ := Q205
  have N205 := N196.app M205
  have f206 := q16.keep k166 nin_r3
  obtain ⟨v207, T207, L207, X207, Q207, st207⟩ := kG X205 hx hZ hown (t61 hw SB0 r3 r6 (O0.keep k166 hws) f206) f167 (w_ hw 367 rfl) (mvT hZ (w_ hw 369 rfl)) (iw8 hw) e205 (g := (mkF m 167 #[vr r0, vr r1, vr r2, vi ((((0 : Int32) + i7) + i11) + i14), vr b161_0, vr r3, un] [(.ref r3), (.int 0), (.ref b141)])) rfl hml rfl (argsL := []) (rest := [(.int 0), (.ref b141)]) (lenOf pd29 rfl) rfl rfl (W := 2) rfl (D d31_167)
  obtain ⟨rfl, M207, e207⟩ := Q207
  have N207 := N205.app M207
  have f208 := q17.keep k166
  obtain ⟨T209, X209, e209, st209⟩ := castY X207 hx hZ hown (w_ hw 375 rfl) e207 (Ins.of_exa f208 (w_ hw 88 rfl)) (g := (mkF m 172 #[vr r0, vr r1, vr r2, vi ((((0 : Int32) + i7) + i11) + i14), vr b161_0, vr r3, un] [(.ref r6), (.int 0), (.ref b141)])) rfl rfl (D d31_172)
  have f210 := q18.keep k166 nin_r6
  obtain ⟨v211, T211, L211, X211, Q211, st211⟩ := kG X209 hx hZ hown (t62 hw SB0 r6 i7 (O0.keep k166 hws) f210) f208 (w_ hw 376 rfl) (mvT hZ (w_ hw 378 rfl)) (iw9 hw) e209 (g := (mkF m 175 #[vr r0, vr r1, vr r2, vi ((((0 : Int32) + i7) + i11) + i14), vr b161_0, vr r3, un] [(.ref r6), (.int 0), (.ref b141)])) rfl hml rfl (argsL := []) (rest := [(.int 0), (.ref b141)]) (lenOf pd13 rfl) rfl rfl (W := 2) rfl (D d31_175)
  obtain ⟨rfl, M211, e211⟩ := Q211
  have N211 := N207.app M211
  have f213 := (((B141.wr W144).keep K161).keep K166)
  have ne212 : b141 ≠ r0 := Exa.ne f213 f170 (by decide)
  have ne214 : b141 ≠ b161_0 := Exa.ne f213 f171 (by decide)
  have f215 := (((v141.other W144 ne212).keep K161 nin0).keep K166 (ninS ne214 nin0))
  obtain ⟨jl216, jh216⟩ := ix1_3 q23 q32 q37
  obtain ⟨_, Ar216, S216, M216, -⟩ := id f215
  obtain ⟨T217, h217, X217, e217, W217, st217⟩ := stZ X211 hx hZ e211 Ar216 (j := (((0 : Int32) + i7) - (1 : Int32))) (AB.inb S216 jl216 jh216) (g := (mkF m 184 #[vr r0, vr r1, vr r2, vi ((((0 : Int32) + i7) + i11) + i14), vr b161_0, vr r3, un] [(.int 1), (.int (((0 : Int32) + i7) - (1 : Int32))), (.ref b141)])) rfl rfl (D d31_184)
  have N217 := Fr.snoc X217 N211 (Nat.le_trans Z0 z141)
  have k217 := k166.wr W217 (Or.inr z141)
  have v217 : AB Z h217 b141 ((((0 : Int32) + i7) + i11) + i14) (up (fun _ => 0) (((0 : Int32) + i7) - (1 : Int32)) (1 : Int32)) := AB.set f215 W217 jl216 jh216
  have f218 := (F166_0.other W217 (Or.inl (Ne.symm ne214)))
  have f219 := (f171.wr W217)
  obtain ⟨v220, T220, L220, X220, Q220, st220⟩ := kG X217 hx hZ hown (t47 hw SB0 b161_0 r4 (O0.keep k217 hws) f218) f219 (w_ hw 298 rfl) (mvT hZ (w_ hw 300 rfl)) (iw4 hw) e217 (g := (mkF m 119 #[vr r0, vr r1, vr r2, vi ((((0 : Int32) + i7) + i11) + i14), vr b161_0, vr r3, un] [(.ref b161_0)])) rfl hml rfl (argsL := []) (rest := []) (lenOf pd11 rfl) rfl rfl (W := 0) rfl (D d31_119)
  obtain ⟨rfl, M220, e220⟩ := Q220
  have N220 := N217.app M220
  have f221 := (F166_1.other W217 (Or.inl (Ne.symm ne214)))
  have f223 := (((f145.keep K161).keep K166).wr W217)
  have ne222 : r1 ≠ b161_0 := Exa.ne f223 f219 (by decide)
  have f225 := (f213.wr W217)
  have ne224 : r1 ≠ b141 := Exa.ne f223 f225 (by decide)
  have f226 := ((f163.keep K166 (ninS ne222 nin0)).other W217 (Or.inl ne224))
  have f227 := (F166_2.other W217 (Or.inl (Ne.symm ne214)))
  have f228 := (F166_3.other W217 (Or.inl (Ne.symm ne214)))
  have f229 := (F166_4.other W217 (Or.inl (Ne.symm ne214)))
  have f230 := q19.keep k217 nin_r4
  have f231 := q20.keep k217
  obtain ⟨v232, T232, L232, X232, Q232, st232⟩ := kG X220 hx hZ hown (t114 hw SB0 b161_0 r4 r1 (3 : Int32) r3 r8 (O0.keep k217 hws) f219 f218 f221 f226 f227 f228 f229 f230 f231 (Nat.le_trans Z0 z161_b161_0)) f219 (w_ hw 307 rfl) (mvT hZ (w_ hw 309 rfl)) (iw5 hw) e220 (g := (mkF m 129 #[vr r0, vr r1, vr r2, vi ((((0 : Int32) + i7) + i11) + i14), vr b161_0, vr r3, un] [(.ref b161_0)])) rfl hml rfl (argsL := []) (rest := []) (lenOf pd29 rfl) rfl rfl (W := 0) rfl (D d31_129)
  obtain ⟨h232, e232⟩ : ∃ z, T232.heap = z := ⟨_, rfl⟩
  rw [e232] at Q232
  obtain ⟨rfl, M232, K232, F232_0, F232_1, F232_2, F232_3, F232_4⟩ := Q232
  have N232 := N220.app M232
  have k232 := k217.trans K232 (allS (Or.inr z161_b161_0) all0)
  have f233 := q20.keep k232
  obtain ⟨T234, X234, e234, st234⟩ := castY X232 hx hZ hown (w_ hw 328 rfl) e232 (Ins.of_exa f233 (w_ hw 329 rfl)) (g := (mkF m 134 #[vr r0, vr r1, vr r2, vi ((((0 : Int32) + i7) + i11) + i14), vr b161_0, vr r3, un] [(.ref r4)])) rfl rfl (D d31_134)
  have f235 := ((f172.other W217 (Or.inl (Ne.symm ne212))).keep K232 (ninS ne169 nin0))
  obtain ⟨T236, X236, e236, st236⟩ := gF X234 hx hZ hown (w_ hw 385 rfl) Via.refl e234 f235 (g := (mkF m 140 #[vr r0, vr r1, vr r2, vi ((((0 : Int32) + i7) + i11) + i14), vr b161_0, vr r4, un] [(.ref r0)])) rfl rfl (D d31_140)
  have f237 := ((f174.other W217 (Or.inl (Ne.symm ne212))).keep K232 (ninS ne169 nin0))
  obtain ⟨T238, X238, e238, st238⟩ := gF X236 hx hZ hown (w_ hw 225 rfl) Via.refl e236 f237 (g := (mkF m 144 #[vr r0, vr r1, vr r2, vi ((((0 : Int32) + i7) + i11) + i14), vr b161_0, vr r4, un] [(.ref r0), (.ref b141)])) rfl rfl (D d31_144)
  have f239 := q21.keep k232 nin_r4
  obtain ⟨v240, T240, L240, X240, Q240, st240⟩ := kG X238 hx hZ hown (t51 hw SB0 r4 r9 (O0.keep k232 hws) f239) f233 (w_ hw 330 rfl) (mvT hZ (w_ hw 332 rfl)) (iw6 hw) e238 (g := (mkF m 149 #[vr r0, vr r1, vr r2, vi ((((0 : Int32) + i7) + i11) + i14), vr b161_0, vr r4, un] [(.ref r4), (.ref b2), (.ref b141)])) rfl hml rfl (argsL := []) (rest := [(.ref b2), (.ref b141)]) (lenOf pd29 rfl) rfl rfl (W := 2) rfl (D d31_149)
  obtain ⟨rfl, M240, e240⟩ := Q240
  have N240 := N232.app M240
  have f241 := ((f178.wr W217).keep K232)
  have f243 := (f225.keep K232)
  have ne242 : b2 ≠ b141 := Exa.ne f241 f243 (by decide)
  have f244 := ((f180.other W217 (Or.inl ne242)).keep K232 (ninS ne179 nin0))
  have f246 := ((f182.wr W217).keep K232)
  have ne245 : b46_0 ≠ b141 := Exa.ne f246 f243 (by decide)
  have f247 := ((f183.other W217 ne245).keep K232 (ninS ne181 nin0))
  have f248 := q22.keep k232
  have f249 := q24.keep k232 nin_r9
  have f251 := (((((((((F87_5.keep K108).keep K120).keep K130).ext E141).wr W144).keep K161).keep K166).wr W217).keep K232)
  have f252 := ((f188.wr W217).keep K232)
  have ne250 : b87_0 ≠ b19_0 := Exa.ne f251 f252 (by decide)
  have ne253 : b87_0 ≠ b2 := Exa.ne f251 f241 (by decide)
  have ne254 : b87_0 ≠ b46_0 := Exa.ne f251 f246 (by decide)
  have f256 := ((f170.wr W217).keep K232)
  have ne255 : b87_0 ≠ r0 := Exa.ne f251 f256 (by decide)
  have f258 := (f219.keep K232)
  have ne257 : b87_0 ≠ b161_0 := Exa.ne f251 f258 (by decide)
  have ne259 : b87_0 ≠ b141 := Exa.ne f251 f243 (by decide)
  have f260 := (((((((((F87_6.keep K108 (ninS ne250 nin0)).keep K120 nin0).keep K130 (ninS ne254 (ninS ne253 nin0))).ext E141).other W144 (Or.inl ne255)).keep K161 nin0).keep K166 (ninS ne257 nin0)).other W217 (Or.inl ne259)).keep K232 (ninS ne257 nin0))
  have f261 := (((((((((F87_7.keep K108 (ninS ne250 nin0)).keep K120 nin0).keep K130 (ninS ne254 (ninS ne253 nin0))).ext E141).other W144 (Or.inl ne255)).keep K161 nin0).keep K166 (ninS ne257 nin0)).other W217 (Or.inl ne259)).keep K232 (ninS ne257 nin0))
  have f262 := (((((((((F87_8.keep K108 (ninS ne250 nin0)).keep K120 nin0).keep K130 (ninS ne254 (ninS ne253 nin0))).ext E141).other W144 (Or.inl ne255)).keep K161 nin0).keep K166 (ninS ne257 nin0)).other W217 (Or.inl ne259)).keep K232 (ninS ne257 nin0))
  obtain ⟨v263, T263, L263, X263, Q263, st263⟩ := kG X240 hx hZ hown (t122 hw SB0 b2 r9 b46_0 b46_1 b87_0 b130_0 c46_2 b75_0 (O0.keep k232 hws) f241 f244 f247 f248 f249 f260 f261 f262) f241 (w_ hw 389 rfl) (mvT hZ (w_ hw 391 rfl)) (iw10 hw) e240 (g := (mkF m 154 #[vr r0, vr r1, vr r2, vi ((((0 : Int32) + i7) + i11) + i14), vr b161_0, vr r4, un] [(.ref r9), (.ref b2), (.ref b141)])) rfl hml rfl (argsL := [(.ref r9)]) (rest := [(.ref b141)]) (lenOf pd32 rfl) rfl rfl (W := 1) rfl (D d31_154)
  obtain ⟨rfl, M263, e263⟩ := Q263
  have N263 := N240.app M263
  have f264 := ((((((((((F75_0.keep K87).keep K108).keep K120).keep K130).ext E141).wr W144).keep K161).keep K166).wr W217).keep K232)
  obtain ⟨T265, X265, e265, st265⟩ := castY X263 hx hZ hown (w_ hw 405 rfl) e263 (Ins.self f264) (g := (mkF m 159 #[vr r0, vr r1, vr r2, vi ((((0 : Int32) + i7) + i11) + i14), vr b161_0, vr r4, un] [(.ref b75_0), (.ref b141)])) rfl rfl (D d31_159)
  have ne266 : b75_0 ≠ b2 := Exa.ne f264 f241 (by decide)
  have ne267 : b75_0 ≠ b46_0 := Exa.ne f264 f246 (by decide)
  have ne268 : b75_0 ≠ b19_0 := Exa.ne f264 f252 (by decide)
  have ne269 : b75_0 ≠ r0 := Exa.ne f264 f256 (by decide)
  have ne270 : b75_0 ≠ b161_0 := Exa.ne f264 f258 (by decide)
  have ne271 : b75_0 ≠ b141 := Exa.ne f264 f243 (by decide)
  have f272 := ((((((((((F75_1.keep K87 (ninS ne267 (ninS ne266 nin0))).keep K108 (ninS ne268 nin0)).keep K120 nin0).keep K130 (ninS ne267 (ninS ne266 nin0))).ext E141).other W144 (Or.inl ne269)).keep K161 nin0).keep K166 (ninS ne270 nin0)).other W217 (Or.inl ne271)).keep K232 (ninS ne270 nin0))
  obtain ⟨v273, T273, L273, X273, Q273, st273⟩ := kV (y := y62) (z := y62) X265 hx hZ hown (t98 hw SB0 b75_0 ((0 : Int32) + i7) (O0.keep k232 hws) f272) f264 (nf_of (x := y62) (y' := y62) (args := #[]) (mvT hZ (w_ hw 410 rfl)) rfl) (w_ hw 407 rfl) (w_ hw 408 rfl) (w_ hw 410 rfl) (w_ hw 409 rfl) (w_ hw 341 rfl) (w_ hw 411 rfl) e265 (g := (mkF m 162 #[vr r0, vr r1, vr r2, vi ((((0 : Int32) + i7) + i11) + i14), vr b161_0, vr r4, un] [(.ref b75_0), (.ref b141)])) rfl hml rfl (argsL := []) (rest := [(.ref b141)]) (lenOf pd13 rfl) rfl rfl (W := 1) rfl (D d31_162)
  obtain ⟨rfl, M273, e273⟩ := Q273
  have N273 := N263.app M273
  have f274 := q25.keep k232 nin_r4
  obtain ⟨v275, T275, L275, X275, Q275, st275⟩ := kG X273 hx hZ hown (t61 hw SB0 r4 r10 (O0.keep k232 hws) f274) f233 (w_ hw 367 rfl) (mvT hZ (w_ hw 369 rfl)) (iw8 hw) e273 (g := (mkF m 167 #[vr r0, vr r1, vr r2, vi ((((0 : Int32) + i7) + i11) + i14), vr b161_0, vr r4, un] [(.ref r4), (.int ((0 : Int32) + i7)), (.ref b141)])) rfl hml rfl (argsL := []) (rest := [(.int ((0 : Int32) + i7)), (.ref b141)]) (lenOf pd29 rfl) rfl rfl (W := 2) rfl (D d31_167)
  obtain ⟨rfl, M275, e275⟩ := Q275
  have N275 := N273.app M275
  have f276 := q26.keep k232
  obtain ⟨T277, X277, e277, st277⟩ := castY X275 hx hZ hown (w_ hw 375 rfl) e275 (Ins.of_exa f276 (w_ hw 88 rfl)) (g := (mkF m 172 #[vr r0, vr r1, vr r2, vi ((((0 : Int32) + i7) + i11) + i14), vr b161_0, vr r4, un] [(.ref r10), (.int ((0 : Int32) + i7)), (.ref b141)])) rfl rfl (D d31_172)
  have f278 := q27.keep k232 nin_r10
  obtain ⟨v279, T279, L279, X279, Q279, st279⟩ := kG X277 hx hZ hown (t62 hw SB0 r10 i11 (O0.keep k232 hws) f278) f276 (w_ hw 376 rfl) (mvT hZ (w_ hw 378 rfl)) (iw9 hw) e277 (g := (mkF m 175 #[vr r0, vr r1, vr r2, vi ((((0 : Int32) + i7) + i11) + i14), vr b161_0, vr r4, un] [(.ref r10), (.int ((0 : Int32) + i7)), (.ref b141)])) rfl hml rfl (argsL := []) (rest := [(.int ((0 : Int32) + i7)), (.ref b141)]) (lenOf pd13 rfl) rfl rfl (W := 2) rfl (D d31_175)
  obtain ⟨rfl, M279, e279⟩ := Q279
  have N279 := N275.app M279
  have f280 := (v217.keep K232 (ninS ne214 nin0))
  obtain ⟨jl281, jh281⟩ := ix2_3 q23 q32 q37
  obtain ⟨_, Ar281, S281, M281, -⟩ := id f280
  obtain ⟨T282, h282, X282, e282, W282, st282⟩ := stZ X279 hx hZ e279 Ar281 (j := ((((0 : Int32) + i7) + i11) - (1 : Int32))) (AB.inb S281 jl281 jh281) (g := (mkF m 184 #[vr r0, vr r1, vr r2, vi ((((0 : Int32) + i7) + i11) + i14), vr b161_0, vr r4, un] [(.int 1), (.int ((((0 : Int32) + i7) + i11) - (1 : Int32))), (.ref b141)])) rfl rfl (D d31_184)
  have N282 := Fr.snoc X282 N279 (Nat.le_trans Z0 z141)
  have k282 := k232.wr W282 (Or.inr z141)
  have v282 : AB Z h282 b141 ((((0 : Int32) + i7) + i11) + i14) (up (up (fun _ => 0) (((0 : Int32) + i7) - (1 : Int32)) (1 : Int32)) ((((0 : Int32) + i7) + i11) - (1 : Int32)) (1 : Int32)) := AB.set f280 W282 jl281 jh281
  have f283 := (F232_0.other W282 (Or.inl (Ne.symm ne214)))
  have f284 := (f258.wr W282)
  obtain ⟨v285, T285, L285, X285, Q285, st285⟩ := kG X282 hx hZ hown (t47 hw SB0 b161_0 r8 (O0.keep k282 hws) f283) f284 (w_ hw 298 rfl) (mvT hZ (w_ hw 300 rfl)) (iw4 hw) e282 (g := (mkF m 119 #[vr r0, vr r1, vr r2, vi ((((0 : Int32) + i7) + i11) + i14), vr b161_0, vr r4, un] [(.ref b161_0)])) rfl hml rfl (argsL := []) (rest := []) (lenOf pd11 rfl) rfl rfl (W := 0) rfl (D d31_119)
  obtain ⟨rfl, M285, e285⟩ := Q285
  have N285 := N282.app M285
  have pre286 : ∀ t, SA p e below T285 m 127 #[vr r0, vr r1, vr r2, vi ((((0 : Int32) + i7) + i11) + i14), vr b161_0, vr r4, un] [] t → Steps p.tables e below E0 t := fun tt kk => pre0 tt (by
    show SA p e below s₁ m 0 #[vr r0, vr r1, vr r2, un, un, un, un] [] _
    refine XS.aloadN X0.here hx rfl (D d31_0) rfl rfl ?_
    refine st1 _ ?_
    refine XS.aloadN X1.here hx rfl (D d31_4) rfl rfl ?_
    refine st2 _ ?_
    refine XS.dup X2.here hx rfl (D d31_8) rfl rfl ?_
    refine st3 _ ?_
    refine st8 _ ?_
    refine XS.iconst X8.here hx rfl (D d31_15) ?_
    refine XS.istoreN X8.here hx rfl (D d31_16) rfl (l' := #[vr r0, vr r1, vr r2, vi 0, un, un, un]) rfl ?_
    refine XS.aloadN X8.here hx rfl (D d31_17) rfl rfl ?_
    refine st17 _ ?_
    refine st19 _ ?_
    refine XS.astore X19.here hx rfl (D d31_28) rfl rfl (l' := #[vr r0, vr r1, vr r2, vi 0, vr b19_0, un, un]) rfl ?_
    refine XS.aload X19.here hx rfl (D d31_30) rfl rfl ?_
    refine st20 _ ?_
    refine XS.ifNo X20.here hx rfl (D d31_37) rfl ((if0 _ _).trans (feq (by decide : ¬ ((1 : Int32) = (0 : Int32)))).1) ?_
    refine XS.aload X20.here hx rfl (D d31_40) rfl rfl ?_
    refine st24 _ ?_
    refine st26 _ ?_
    refine XS.astore X26.here hx rfl (D d31_50) rfl rfl (l' := #[vr r0, vr r1, vr r2, vi 0, vr b19_0, vr r3, un]) rfl ?_
    refine XS.aloadN X26.here hx rfl (D d31_52) rfl rfl ?_
    refine st31 _ ?_
    refine XS.aload X31.here hx rfl (D d31_56) rfl rfl ?_
    refine st33 _ ?_
    refine st35 _ ?_
    refine XS.iloadN X35.here hx rfl (D d31_66) rfl ?_
    refine st36 _ ?_
    refine st46 _ ?_
    refine XS.pop X46.here hx rfl (D d31_75) rfl rfl ?_
    refine XS.iloadN X46.here hx rfl (D d31_76) rfl ?_
    refine XS.aload X46.here hx rfl (D d31_77) rfl rfl ?_
    refine st49 _ ?_
    refine st51 _ ?_
    refine st53 _ ?_
    refine XS.iadd X53.here hx rfl (D d31_92) rfl ?_
    refine XS.istoreN X53.here hx rfl (D d31_93) rfl (l' := #[vr r0, vr r1, vr r2, vi ((0 : Int32) + i7), vr b19_0, vr r3, un]) rfl ?_
    refine XS.goto X53.here hx rfl (pc0 := 94) (pc' := 30) rfl (D d31_94) (by decide) (by decide) ?_
    refine XS.aload X53.here hx rfl (D d31_30) rfl rfl ?_
    refine st56 _ ?_
    refine XS.ifNo X56.here hx rfl (D d31_37) rfl ((if0 _ _).trans (feq (by decide : ¬ ((1 : Int32) = (0 : Int32)))).1) ?_
    refine XS.aload X56.here hx rfl (D d31_40) rfl rfl ?_
    refine st66 _ ?_
    refine st68 _ ?_
    refine XS.astore X68.here hx rfl (D d31_50) rfl rfl (l' := #[vr r0, vr r1, vr r2, vi ((0 : Int32) + i7), vr b19_0, vr r4, un]) rfl ?_
    refine XS.aloadN X68.here hx rfl (D d31_52) rfl rfl ?_
    refine st70 _ ?_
    refine XS.aload X70.here hx rfl (D d31_56) rfl rfl ?_
    refine st72 _ ?_
    refine st74 _ ?_
    refine XS.iloadN X74.here hx rfl (D d31_66) rfl ?_
    refine st75 _ ?_
    refine st87 _ ?_
    refine XS.pop X87.here hx rfl (D d31_75) rfl rfl ?_
    refine XS.iloadN X87.here hx rfl (D d31_76) rfl ?_
    refine XS.aload X87.here hx rfl (D d31_77) rfl rfl ?_
    refine st90 _ ?_
    refine st92 _ ?_
    refine st94 _ ?_
    refine XS.iadd X94.here hx rfl (D d31_92) rfl ?_
    refine XS.istoreN X94.here hx rfl (D d31_93) rfl (l' := #[vr r0, vr r1, vr r2, vi (((0 : Int32) + i7) + i11), vr b19_0, vr r4, un]) rfl ?_
    refine XS.goto X94.here hx rfl (pc0 := 94) (pc' := 30) rfl (D d31_94) (by decide) (by decide) ?_
    refine XS.aload X94.here hx rfl (D d31_30) rfl rfl ?_
    refine st97 _ ?_
    refine XS.ifNo X97.here hx rfl (D d31_37) rfl ((if0 _ _).trans (feq (by decide : ¬ ((1 : Int32) = (0 : Int32)))).1) ?_
    refine XS.aload X97.here hx rfl (D d31_40) rfl rfl ?_
    refine st108 _ ?_
    refine st110 _ ?_
    refine XS.astore X110.here hx rfl (D d31_50) rfl rfl (l' := #[vr r0, vr r1, vr r2, vi (((0 : Int32) + i7) + i11), vr b19_0, vr r8, un]) rfl ?_
    refine XS.aloadN X110.here hx rfl (D d31_52) rfl rfl ?_
    refine st115 _ ?_
    refine XS.aload X115.here hx rfl (D d31_56) rfl rfl ?_
    refine st117 _ ?_
    refine st119 _ ?_
    refine XS.iloadN X119.here hx rfl (D d31_66) rfl ?_
    refine st120 _ ?_
    refine st130 _ ?_
    refine XS.pop X130.here hx rfl (D d31_75) rfl rfl ?_
    refine XS.iloadN X130.here hx rfl (D d31_76) rfl ?_
    refine XS.aload X130.here hx rfl (D d31_77) rfl rfl ?_
    refine st133 _ ?_
    refine st135 _ ?_
    refine st137 _ ?_
    refine XS.iadd X137.here hx rfl (D d31_92) rfl ?_
    refine XS.istoreN X137.here hx rfl (D d31_93) rfl (l' := #[vr r0, vr r1, vr r2, vi ((((0 : Int32) + i7) + i11) + i14), vr b19_0, vr r8, un]) rfl ?_
    refine XS.goto X137.here hx rfl (pc0 := 94) (pc' := 30) rfl (D d31_94) (by decide) (by decide) ?_
    refine XS.aload X137.here hx rfl (D d31_30) rfl rfl ?_
    refine st140 _ ?_
    refine XS.ifYes X140.here hx rfl (pc0 := 37) (pc' := 97) rfl (D d31_37) rfl ((if0 _ _).trans (teq (by decide : ((0 : Int32) = (0 : Int32)))).1) (by decide) (by decide) ?_
    refine XS.aloadN X140.here hx rfl (D d31_97) rfl rfl ?_
    refine XS.iloadN X140.here hx rfl (D d31_98) rfl ?_
    refine st141 _ ?_
    refine st144 _ ?_
    refine XS.aloadN X144.here hx rfl (D d31_104) rfl rfl ?_
    refine st148 _ ?_
    refine st161 _ ?_
    refine XS.astore X161.here hx rfl (D d31_115) rfl rfl (l' := #[vr r0, vr r1, vr r2, vi ((((0 : Int32) + i7) + i11) + i14), vr b161_0, vr r8, un]) rfl ?_
    refine XS.aload X161.here hx rfl (D d31_117) rfl rfl ?_
    refine st162 _ ?_
    refine XS.ifNo X162.here hx rfl (D d31_124) rfl ((if0 _ _).trans (feq (by decide : ¬ ((1 : Int32) = (0 : Int32)))).1) ?_
    refine XS.aload X162.here hx rfl (D d31_127) rfl rfl ?_
    refine st166 _ ?_
    refine st168 _ ?_
    refine XS.astore X168.here hx rfl (D d31_137) rfl rfl (l' := #[vr r0, vr r1, vr r2, vi ((((0 : Int32) + i7) + i11) + i14), vr b161_0, vr r3, un]) rfl ?_
    refine XS.aloadN X168.here hx rfl (D d31_139) rfl rfl ?_
    refine st173 _ ?_
    refine XS.aloadN X173.here hx rfl (D d31_143) rfl rfl ?_
    refine st175 _ ?_
    refine XS.aload X175.here hx rfl (D d31_147) rfl rfl ?_
    refine st177 _ ?_
    refine st196 _ ?_
    refine st198 _ ?_
    refine st205 _ ?_
    refine XS.aload X205.here hx rfl (D d31_165) rfl rfl ?_
    refine st207 _ ?_
    refine st209 _ ?_
    refine st211 _ ?_
    refine XS.iadd X211.here hx rfl (D d31_180) rfl ?_
    refine XS.iconst X211.here hx rfl (D d31_181) ?_
    refine XS.isub X211.here hx rfl (D d31_182) rfl ?_
    refine XS.iconst X211.here hx rfl (D d31_183) ?_
    refine st217 _ ?_
    refine XS.goto X217.here hx rfl (pc0 := 185) (pc' := 117) rfl (D d31_185) (by decide) (by decide) ?_
    refine XS.aload X217.here hx rfl (D d31_117) rfl rfl ?_
    refine st220 _ ?_
    refine XS.ifNo X220.here hx rfl (D d31_124) rfl ((if0 _ _).trans (feq (by decide : ¬ ((1 : Int32) = (0 : Int32)))).1) ?_
    refine XS.aload X220.here hx rfl (D d31_127) rfl rfl ?_
    refine st232 _ ?_
    refine st234 _ ?_
    refine XS.astore X234.here hx rfl (D d31_137) rfl rfl (l' := #[vr r0, vr r1, vr r2, vi ((((0 : Int32) + i7) + i11) + i14), vr b161_0, vr r4, un]) rfl ?_
    refine XS.aloadN X234.here hx rfl (D d31_139) rfl rfl ?_
    refine st236 _ ?_
    refine XS.aloadN X236.here hx rfl (D d31_143) rfl rfl ?_
    refine st238 _ ?_
    refine XS.aload X238.here hx rfl (D d31_147) rfl rfl ?_
    refine st240 _ ?_
    refine st263 _ ?_
    refine st265 _ ?_
    refine st273 _ ?_
    refine XS.aload X273.here hx rfl (D d31_165) rfl rfl ?_
    refine st275 _ ?_
    refine st277 _ ?_
    refine st279 _ ?_
    refine XS.iadd X279.here hx rfl (D d31_180) rfl ?_
    refine XS.iconst X279.here hx rfl (D d31_181) ?_
    refine XS.isub X279.here hx rfl (D d31_182) rfl ?_
    refine XS.iconst X279.here hx rfl (D d31_183) ?_
    refine st282 _ ?_
    refine XS.goto X282.here hx rfl (pc0 := 185) (pc' := 117) rfl (D d31_185) (by decide) (by decide) ?_
    refine XS.aload X282.here hx rfl (D d31_117) rfl rfl ?_
    refine st285 _ ?_
    refine XS.ifNo X285.here hx rfl (D d31_124) rfl ((if0 _ _).trans (feq (by decide : ¬ ((1 : Int32) = (0 : Int32)))).1) ?_
    exact kk)
  have f287 := (F232_1.other W282 (Or.inl (Ne.symm ne214)))
  have f288 := ((f226.keep K232 (ninS ne222 nin0)).other W282 (Or.inl ne224))
  have f289 := (F232_2.other W282 (Or.inl (Ne.symm ne214)))
  have f290 := (F232_3.other W282 (Or.inl (Ne.symm ne214)))
  have f291 := (F232_4.other W282 (Or.inl (Ne.symm ne214)))
  have f292 := q28.keep k282 nin_r8
  have f293 := q29.keep k282
  obtain ⟨v294, T294, L294, X294, Q294, st294⟩ := kG X285 hx hZ hown (t89 hw SB0 b161_0 r8 r1 (3 : Int32) r4 (O0.keep k282 hws) f284 f283 f287 f288 f289 f290 f291 f292 f293 (Nat.le_trans Z0 z161_b161_0)) f284 (w_ hw 307 rfl) (mvT hZ (w_ hw 309 rfl)) (iw5 hw) e285 (g := (mkF m 129 #[vr r0, vr r1, vr r2, vi ((((0 : Int32) + i7) + i11) + i14), vr b161_0, vr r4, un] [(.ref b161_0)])) rfl hml rfl (argsL := []) (rest := []) (lenOf pd29 rfl) rfl rfl (W := 0) rfl (D d31_129)
  obtain ⟨h294, e294⟩ : ∃ z, T294.heap = z := ⟨_, rfl⟩
  rw [e294] at Q294
  obtain ⟨rfl, M294, K294, F294_0, F294_1, F294_2, F294_3, F294_4⟩ := Q294
  have N294 := N285.app M294
  have k294 := k282.trans K294 (allS (Or.inr z161_b161_0) all0)
  have f295 := q29.keep k294
  obtain ⟨T296, X296, e296, st296⟩ := castY X294 hx hZ hown (w_ hw 328 rfl) e294 (Ins.of_exa f295 (w_ hw 329 rfl)) (g := (mkF m 134 #[vr r0, vr r1, vr r2, vi ((((0 : Int32) + i7) + i11) + i14), vr b161_0, vr r4, un] [(.ref r8)])) rfl rfl (D d31_134)
  have f297 := ((f235.other W282 (Or.inl (Ne.symm ne212))).keep K294 (ninS ne169 nin0))
  obtain ⟨T298, X298, e298, st298⟩ := gF X296 hx hZ hown (w_ hw 385 rfl) Via.refl e296 f297 (g := (mkF m 140 #[vr r0, vr r1, vr r2, vi ((((0 : Int32) + i7) + i11) + i14), vr b161_0, vr r8, un] [(.ref r0)])) rfl rfl (D d31_140)
  have f299 := ((f237.other W282 (Or.inl (Ne.symm ne212))).keep K294 (ninS ne169 nin0))
  obtain ⟨T300, X300, e300, st300⟩ := gF X298 hx hZ hown (w_ hw 225 rfl) Via.refl e298 f299 (g := (mkF m 144 #[vr r0, vr r1, vr r2, vi ((((0 : Int32) + i7) + i11) + i14), vr b161_0, vr r8, un] [(.ref r0), (.ref b141)])) rfl rfl (D d31_144)
  have f301 := q30.keep k294 nin_r8
  obtain ⟨v302, T302, L302, X302, Q302, st302⟩ := kG X300 hx hZ hown (t51 hw SB0 r8 r12 (O0.keep k294 hws) f301) f295 (w_ hw 330 rfl) (mvT hZ (w_ hw 332 rfl)) (iw6 hw) e300 (g := (mkF m 149 #[vr r0, vr r1, vr r2, vi ((((0 : Int32) + i7) + i11) + i14), vr b161_0, vr r8, un] [(.ref r8), (.ref b2), (.ref b141)])) rfl hml rfl (argsL := []) (rest := [(.ref b2), (.ref b141)]) (lenOf pd29 rfl) rfl rfl (W := 2) rfl (D d31_149)
  obtain ⟨rfl, M302, e302⟩ := Q302
  have N302 := N294.app M302
  have f303 := ((f241.wr W282).keep K294)
  have f304 := ((f244.other W282 (Or.inl ne242)).keep K294 (ninS ne179 nin0))
  have f305 := ((f247.other W282 ne245).keep K294 (ninS ne181 nin0))
  have f306 := q31.keep k294
  have f307 := q33.keep k294 nin_r12
  have f309 := ((((((((F130_5.ext E141).wr W144).keep K161).keep K166).wr W217).keep K232).wr W282).keep K294)
  have f310 := ((f256.wr W282).keep K294)
  have ne308 : b130_0 ≠ r0 := Exa.ne f309 f310 (by decide)
  have f312 := (f284.keep K294)
  have ne311 : b130_0 ≠ b161_0 := Exa.ne f309 f312 (by decide)
  have f314 := ((f243.wr W282).keep K294)
  have ne313 : b130_0 ≠ b141 := Exa.ne f309 f314 (by decide)
  have f315 := ((((((((F130_6.ext E141).other W144 (Or.inl ne308)).keep K161 nin0).keep K166 (ninS ne311 nin0)).other W217 (Or.inl ne313)).keep K232 (ninS ne311 nin0)).other W282 (Or.inl ne313)).keep K294 (ninS ne311 nin0))
  have f316 := ((((((((F130_7.ext E141).other W144 (Or.inl ne308)).keep K161 nin0).keep K166 (ninS ne311 nin0)).other W217 (Or.inl ne313)).keep K232 (ninS ne311 nin0)).other W282 (Or.inl ne313)).keep K294 (ninS ne311 nin0))
  have f317 := ((((((((F130_8.ext E141).other W144 (Or.inl ne308)).keep K161 nin0).keep K166 (ninS ne311 nin0)).other W217 (Or.inl ne313)).keep K232 (ninS ne311 nin0)).other W282 (Or.inl ne313)).keep K294 (ninS ne311 nin0))
  obtain ⟨v318, T318, L318, X318, Q318, st318⟩ := kG X302 hx hZ hown (t124 hw SB0 b2 r12 b46_0 b46_1 b87_0 b130_0 c46_2 b120_0 (O0.keep k294 hws) f303 f304 f305 f306 f307 f315 f316 f317) f303 (w_ hw 389 rfl) (mvT hZ (w_ hw 391 rfl)) (iw10 hw) e302 (g := (mkF m 154 #[vr r0, vr r1, vr r2, vi ((((0 : Int32) + i7) + i11) + i14), vr b161_0, vr r8, un] [(.ref r12), (.ref b2), (.ref b141)])) rfl hml rfl (argsL := [(.ref r12)]) (rest := [(.ref b141)]) (lenOf pd32 rfl) rfl rfl (W := 1) rfl (D d31_154)
  obtain ⟨rfl, M318, e318⟩ := Q318
  have N318 := N302.app M318
  have f319 := (((((((((F120_0.keep K130).ext E141).wr W144).keep K161).keep K166).wr W217).keep K232).wr W282).keep K294)
  obtain ⟨T320, X320, e320, st320⟩ := castY X318 hx hZ hown (w_ hw 405 rfl) e318 (Ins.self f319) (g := (mkF m 159 #[vr r0, vr r1, vr r2, vi ((((0 : Int32) + i7) + i11) + i14), vr b161_0, vr r8, un] [(.ref b120_0), (.ref b141)])) rfl rfl (D d31_159)
  have ne321 : b120_0 ≠ b2 := Exa.ne f319 f303 (by decide)
  have f323 := ((f246.wr W282).keep K294)
  have ne322 : b120_0 ≠ b46_0 := Exa.ne f319 f323 (by decide)
  have ne324 : b120_0 ≠ r0 := Exa.ne f319 f310 (by decide)
  have ne325 : b120_0 ≠ b161_0 := Exa.ne f319 f312 (by decide)
  have ne326 : b120_0 ≠ b141 := Exa.ne f319 f314 (by decide)
  have f327 := (((((((((F120_1.keep K130 (ninS ne322 (ninS ne321 nin0))).ext E141).other W144 (Or.inl ne324)).keep K161 nin0).keep K166 (ninS ne325 nin0)).other W217 (Or.inl ne326)).keep K232 (ninS ne325 nin0)).other W282 (Or.inl ne326)).keep K294 (ninS ne325 nin0))
  obtain ⟨v328, T328, L328, X328, Q328, st328⟩ := kV (y := y62) (z := y62) X320 hx hZ hown (t98 hw SB0 b120_0 (((0 : Int32) + i7) + i11) (O0.keep k294 hws) f327) f319 (nf_of (x := y62) (y' := y62) (args := #[]) (mvT hZ (w_ hw 410 rfl)) rfl) (w_ hw 407 rfl) (w_ hw 408 rfl) (w_ hw 410 rfl) (w_ hw 409 rfl) (w_ hw 341 rfl) (w_ hw 411 rfl) e320 (g := (mkF m 162 #[vr r0, vr r1, vr r2, vi ((((0 : Int32) + i7) + i11) + i14), vr b161_0, vr r8, un] [(.ref b120_0), (.ref b141)])) rfl hml rfl (argsL := []) (rest := [(.ref b141)]) (lenOf pd13 rfl) rfl rfl (W := 1) rfl (D d31_162)
  obtain ⟨rfl, M328, e328⟩ := Q328
  have N328 := N318.app M328
  have f329 := q34.keep k294 nin_r8
  obtain ⟨v330, T330, L330, X330, Q330, st330⟩ := kG X328 hx hZ hown (t61 hw SB0 r8 r13 (O0.keep k294 hws) f329) f295 (w_ hw 367 rfl) (mvT hZ (w_ hw 369 rfl)) (iw8 hw) e328 (g := (mkF m 167 #[vr r0, vr r1, vr r2, vi ((((0 : Int32) + i7) + i11) + i14), vr b161_0, vr r8, un] [(.ref r8), (.int (((0 : Int32) + i7) + i11)), (.ref b141)])) rfl hml rfl (argsL := []) (rest := [(.int (((0 : Int32) + i7) + i11)), (.ref b141)]) (lenOf pd29 rfl) rfl rfl (W := 2) rfl (D d31_167)
  obtain ⟨rfl, M330, e330⟩ := Q330
  have N330 := N328.app M330
  have f331 := q35.keep k294
  obtain ⟨T332, X332, e332, st332⟩ := castY X330 hx hZ hown (w_ hw 375 rfl) e330 (Ins.of_exa f331 (w_ hw 88 rfl)) (g := (mkF m 172 #[vr r0, vr r1, vr r2, vi ((((0 : Int32) + i7) + i11) + i14), vr b161_0, vr r8, un] [(.ref r13), (.int (((0 : Int32) + i7) + i11)), (.ref b141)])) rfl rfl (D d31_172)
  have f333 := q36.keep k294 nin_r13
  obtain ⟨v334, T334, L334, X334, Q334, st334⟩ := kG X332 hx hZ hown (t62 hw SB0 r13 i14 (O0.keep k294 hws) f333) f331 (w_ hw 376 rfl) (mvT hZ (w_ hw 378 rfl)) (iw9 hw) e332 (g := (mkF m 175 #[vr r0, vr r1, vr r2, vi ((((0 : Int32) + i7) + i11) + i14), vr b161_0, vr r8, un] [(.ref r13), (.int (((0 : Int32) + i7) + i11)), (.ref b141)])) rfl hml rfl (argsL := []) (rest := [(.int (((0 : Int32) + i7) + i11)), (.ref b141)]) (lenOf pd13 rfl) rfl rfl (W := 2) rfl (D d31_175)
  obtain ⟨rfl, M334, e334⟩ := Q334
  have N334 := N330.app M334
  have f335 := (v282.keep K294 (ninS ne214 nin0))
  obtain ⟨jl336, jh336⟩ := ix3_3 q23 q32 q37
  obtain ⟨_, Ar336, S336, M336, -⟩ := id f335
  obtain ⟨T337, h337, X337, e337, W337, st337⟩ := stZ X334 hx hZ e334 Ar336 (j := (((((0 : Int32) + i7) + i11) + i14) - (1 : Int32))) (AB.inb S336 jl336 jh336) (g := (mkF m 184 #[vr r0, vr r1, vr r2, vi ((((0 : Int32) + i7) + i11) + i14), vr b161_0, vr r8, un] [(.int 1), (.int (((((0 : Int32) + i7) + i11) + i14) - (1 : Int32))), (.ref b141)])) rfl rfl (D d31_184)
  have N337 := Fr.snoc X337 N334 (Nat.le_trans Z0 z141)
  have k337 := k294.wr W337 (Or.inr z141)
  have v337 : AB Z h337 b141 ((((0 : Int32) + i7) + i11) + i14) (up (up (up (fun _ => 0) (((0 : Int32) + i7) - (1 : Int32)) (1 : Int32)) ((((0 : Int32) + i7) + i11) - (1 : Int32)) (1 : Int32)) (((((0 : Int32) + i7) + i11) + i14) - (1 : Int32)) (1 : Int32)) := AB.set f335 W337 jl336 jh336
  have f338 := (F294_0.other W337 (Or.inl (Ne.symm ne214)))
  have f339 := (f312.wr W337)
  obtain ⟨v340, T340, L340, X340, Q340, st340⟩ := kG X337 hx hZ hown (t63 hw SB0 b161_0 (O0.keep k337 hws) f338) f339 (w_ hw 298 rfl) (mvT hZ (w_ hw 300 rfl)) (iw4 hw) e337 (g := (mkF m 119 #[vr r0, vr r1, vr r2, vi ((((0 : Int32) + i7) + i11) + i14), vr b161_0, vr r8, un] [(.ref b161_0)])) rfl hml rfl (argsL := []) (rest := []) (lenOf pd11 rfl) rfl rfl (W := 0) rfl (D d31_119)
  obtain ⟨rfl, M340, e340⟩ := Q340
  have N340 := N337.app M340
  have f341 := q39.keep k337 nin_r2
  have f342 := q38.keep k337
  obtain ⟨v343, T343, L343, X343, Q343, st343⟩ := kG X340 hx hZ hown (t62 hw SB0 r2 (0 : Int32) (O0.keep k337 hws) f341) f342 (w_ hw 376 rfl) (mvT hZ (w_ hw 378 rfl)) (iw9 hw) e340 (g := (mkF m 189 #[vr r0, vr r1, vr r2, vi ((((0 : Int32) + i7) + i11) + i14), vr b161_0, vr r8, un] [(.ref r2)])) rfl hml rfl (argsL := []) (rest := []) (lenOf pd13 rfl) rfl rfl (W := 0) rfl (D d31_189)
  obtain ⟨rfl, M343, e343⟩ := Q343
  have N343 := N340.app M343
  obtain ⟨T344, h344, c344, X344, e344, E344, A344, B344, st344⟩ := newPE X343 hx hZ (w_ hw 414 rfl) e343 (g := (mkF m 194 #[vr r0, vr r1, vr r2, vi ((((0 : Int32) + i7) + i11) + i14), vr b161_0, vr r8, un] [(.int 0)])) rfl (D d31_194) rfl (by decide) (cap := 0) (by decide) (by decide) (by decide) (by decide) (ad := "[I") (by decide)
  obtain ⟨b344, g344⟩ : ∃ z, z = h337.size := ⟨_, rfl⟩
  rw [← g344] at A344 B344 st344
  have z344 : h0.size ≤ b344 := Nat.le_trans k337.1 (Nat.le_of_eq g344.symm)
  have k344 := k337.ext E344
  have v344 : Arv Z h344 b344 c344 .int (0 : Int32) [] (.int 0) := (Arv.new A344 (by decide)).pad (pad_rep [] (.int 0) 0)
  have f345 := q39.keep k344 nin_r2
  have f346 := q38.keep k344
  obtain ⟨v347, T347, L347, X347, Q347, st347⟩ := kG X344 hx hZ hown (t62 hw SB0 r2 (0 : Int32) (O0.keep k344 hws) f345) f346 (w_ hw 376 rfl) (mvT hZ (w_ hw 378 rfl)) (iw9 hw) e344 (g := (mkF m 199 #[vr r0, vr r1, vr r2, vi ((((0 : Int32) + i7) + i11) + i14), vr b344, vr r8, un] [(.ref r2)])) rfl hml rfl (argsL := []) (rest := []) (lenOf pd13 rfl) rfl rfl (W := 0) rfl (D d31_199)
  obtain ⟨rfl, M347, e347⟩ := Q347
  have N347 := N343.app M347
  obtain ⟨T348, h348, c348, X348, e348, E348, A348, B348, st348⟩ := newPE X347 hx hZ (w_ hw 414 rfl) e347 (g := (mkF m 204 #[vr r0, vr r1, vr r2, vi ((((0 : Int32) + i7) + i11) + i14), vr b344, vr r8, un] [(.int 0)])) rfl (D d31_204) rfl (by decide) (cap := 0) (by decide) (by decide) (by decide) (by decide) (ad := "[I") (by decide)
  obtain ⟨b348, g348⟩ : ∃ z, z = h344.size := ⟨_, rfl⟩
  rw [← g348] at A348 B348 st348
  have z348 : h0.size ≤ b348 := Nat.le_trans k344.1 (Nat.le_of_eq g348.symm)
  have k348 := k344.ext E348
  have v348 : Arv Z h348 b348 c348 .int (0 : Int32) [] (.int 0) := (Arv.new A348 (by decide)).pad (pad_rep [] (.int 0) 0)
  have f349 := q39.keep k348 nin_r2
  have f350 := q38.keep k348
  obtain ⟨v351, T351, L351, X351, Q351, st351⟩ := kG X348 hx hZ hown (t62 hw SB0 r2 (0 : Int32) (O0.keep k348 hws) f349) f350 (w_ hw 376 rfl) (mvT hZ (w_ hw 378 rfl)) (iw9 hw) e348 (g := (mkF m 214 #[vr r0, vr r1, vr r2, vi ((((0 : Int32) + i7) + i11) + i14), vr b344, vr b348, vi 0] [(.ref r2), (.int 0)])) rfl hml rfl (argsL := []) (rest := [(.int 0)]) (lenOf pd13 rfl) rfl rfl (W := 1) rfl (D d31_214)
  obtain ⟨rfl, M351, e351⟩ := Q351
  have N351 := N347.app M351
  obtain ⟨T352, h352, c352, X352, e352, E352, A352, B352, st352⟩ := newPE X351 hx hZ (w_ hw 414 rfl) e351 (g := (mkF m 278 #[vr r0, vr r1, vr r2, vi ((((0 : Int32) + i7) + i11) + i14), vr b344, vr b348, vi 0] [(.int (((((0 : Int32) + i7) + i11) + i14) + (1 : Int32))), (.ref r0)])) rfl (D d31_278) rfl (bd_nn1 (bd3 q23 q32 q37)) (cap := 13) (bd_cap1 (bd3 q23 q32 q37)) (by decide) (by decide) (by decide) (ad := "[I") (by decide)
  obtain ⟨b352, g352⟩ : ∃ z, z = h348.size := ⟨_, rfl⟩
  rw [← g352] at A352 B352 st352
  have z352 : h0.size ≤ b352 := Nat.le_trans k348.1 (Nat.le_of_eq g352.symm)
  have k352 := k348.ext E352
  have v352 : Arv Z h352 b352 c352 .int (((((0 : Int32) + i7) + i11) + i14) + (1 : Int32)) [] (.int 0) := Arv.new A352 (bd_nn1 (bd3 q23 q32 q37))
  have f353 := ((((((((((((((((((((((((((q3.ext E2).keep K3 (ninS ne4 nin0)).other W8 (Or.inr (sn80 hw))).keep K17 (ninS (Ne.symm ne12) nin0)).keep K19 nin0).keep K24 (ninS ne27 nin0)).keep K36 nin0).keep K46 (ninS ne4 nin0)).keep K66 (ninS ne27 nin0)).keep K75 nin0).keep K87 (ninS ne111 (ninS ne4 nin0))).keep K108 (ninS ne27 nin0)).keep K120 nin0).keep K130 (ninS ne111 (ninS ne4 nin0))).ext E141).other W144 (Or.inr (sn81 hw))).keep K161 nin0).keep K166 (ninS ne169 nin0)).other W217 (Or.inl (Ne.symm ne212))).keep K232 (ninS ne169 nin0)).other W282 (Or.inl (Ne.symm ne212))).keep K294 (ninS ne169 nin0)).other W337 (Or.inl (Ne.symm ne212))).ext E344).ext E348).ext E352)
  have f354 := ((((f310.wr W337).ext E344).ext E348).ext E352)
  obtain ⟨T355, h355, X355, e355, W355, st355⟩ := putF X352 hx hZ hown (host := "") (Or.inl (w_ hw 415 rfl)) Via.refl e352 f353 f354 (Or.inr ⟨(w_ hw 416 rfl), rfl, hnm⟩) (w_ hw 214 rfl) (ty := (.array .int)) (by decide) rfl rfl (g := (mkF m 280 #[vr r0, vr r1, vr r2, vi ((((0 : Int32) + i7) + i11) + i14), vr b344, vr b348, vi 0] [(.ref b352), (.ref r0)])) rfl rfl (D d31_280)
  have N355 := Fr.snoc X355 N351 ge0
  have k355 := k352.wr W355 (Or.inl (List.mem_of_getElem? (i := 0) rfl))
  have v355 := f353.same W355
  obtain ⟨T356, X356, e356, st356⟩ := gF X355 hx hZ hown (w_ hw 415 rfl) Via.refl e355 v355 (g := (mkF m 289 #[vr r0, vr r1, vr r2, vi ((((0 : Int32) + i7) + i11) + i14), vr b344, vr b348, vi 0] [(.ref r0), (.ref b344), (.ref b348), (.ref r0)])) rfl rfl (D d31_289)
  have f358 := (((B344.ext E348).ext E352).wr W355)
  have f359 := (f354.wr W355)
  have ne357 : b344 ≠ r0 := Exa.ne f358 f359 (by decide)
  have f360 := (((v344.ext E348).ext E352).other W355 ne357)
  have f361 := (B352.wr W355)
  have ne362 : b352 ≠ r0 := Exa.ne f361 f359 (by decide)
  have f363 := (v352.other W355 ne362)
  have f365 := ((B348.ext E352).wr W355)
  have ne364 : b348 ≠ r0 := Exa.ne f365 f359 (by decide)
  have f366 := ((v348.ext E352).other W355 ne364)
  have ne367 : b348 ≠ b352 := Nat.ne_of_lt (Nat.lt_of_lt_of_le B348.lt (Nat.le_of_eq g352.symm))
  obtain ⟨v368, T368, L368, X368, Q368, st368⟩ := kS X356 hx hZ hown (t69 hw SB0 b348 b344 b352 c344 c352 (((((0 : Int32) + i7) + i11) + i14) + (1 : Int32)) c348 (O0.keep k355 hws) f360 f361 f363 (bd_suc (bd3 q23 q32 q37)) f366 f365 ne367 (Nat.le_trans Z0 z352)) (w_ hw 417 rfl) (w_ hw 418 rfl) (w_ hw 215 rfl) (w_ hw 419 rfl) e356 (g := (mkF m 292 #[vr r0, vr r1, vr r2, vi ((((0 : Int32) + i7) + i11) + i14), vr b344, vr b348, vi 0] [(.ref b352), (.ref b344), (.ref b348), (.ref r0)])) rfl hml rfl (argsL := [(.ref b348), (.ref b344), (.ref b352)]) (rest := [(.ref r0)]) (lenOf pd33 rfl) rfl rfl (W := 1) rfl (D d31_292)
  obtain ⟨h368, e368⟩ : ∃ z, T368.heap = z := ⟨_, rfl⟩
  rw [e368] at Q368
  obtain ⟨b368_0, c368_1, rfl, M368, K368, y368_0, F368_0, F368_1, F368_2⟩ := Q368
  have N368 := N355.app M368
  have z368_b368_0 := Nat.le_trans k355.1 y368_0
  have k368 := k355.trans K368 (allS (Or.inr z352) all0)
  have f369 := ((((((((((((((((((((((((((((q4.ext E2).keep K3 (ninS ne4 nin0)).other W8 (Or.inr (sn82 hw))).keep K17 (ninS (Ne.symm ne12) nin0)).keep K19 nin0).keep K24 (ninS ne27 nin0)).keep K36 nin0).keep K46 (ninS ne4 nin0)).keep K66 (ninS ne27 nin0)).keep K75 nin0).keep K87 (ninS ne111 (ninS ne4 nin0))).keep K108 (ninS ne27 nin0)).keep K120 nin0).keep K130 (ninS ne111 (ninS ne4 nin0))).ext E141).other W144 (Or.inr (sn83 hw))).keep K161 nin0).keep K166 (ninS ne169 nin0)).other W217 (Or.inl (Ne.symm ne212))).keep K232 (ninS ne169 nin0)).other W282 (Or.inl (Ne.symm ne212))).keep K294 (ninS ne169 nin0)).other W337 (Or.inl (Ne.symm ne212))).ext E344).ext E348).ext E352).other W355 (Or.inr (sn84 hw))).keep K368 (ninS (Ne.symm ne362) nin0))
  have f370 := (f359.keep K368)
  obtain ⟨T371, h371, X371, e371, W371, st371⟩ := putF X368 hx hZ hown (host := "") (Or.inl (w_ hw 429 rfl)) Via.refl e368 f369 f370 (Or.inr ⟨(w_ hw 430 rfl), rfl, hnm⟩) (w_ hw 214 rfl) (ty := (.array .int)) (by decide) rfl rfl (g := (mkF m 295 #[vr r0, vr r1, vr r2, vi ((((0 : Int32) + i7) + i11) + i14), vr b344, vr b348, vi 0] [(.ref b368_0), (.ref r0)])) rfl rfl (D d31_295)
  have N371 := Fr.snoc X371 N368 ge0
  have k371 := k368.wr W371 (Or.inl (List.mem_of_getElem? (i := 0) rfl))
  have v371 := f369.same W371
  obtain ⟨T372, h372, c372, X372, e372, E372, A372, B372, st372⟩ := newPE X371 hx hZ (w_ hw 414 rfl) e371 (g := (mkF m 302 #[vr r0, vr r1, vr r2, vi ((((0 : Int32) + i7) + i11) + i14), vr b344, vr b348, vi 0] [(.int (((((0 : Int32) + i7) + i11) + i14) + (1 : Int32))), (.ref r0)])) rfl (D d31_302) rfl (bd_nn1 (bd3 q23 q32 q37)) (cap := 13) (bd_cap1 (bd3 q23 q32 q37)) (by decide) (by decide) (by decide) (ad := "[I") (by decide)
  obtain ⟨b372, g372⟩ : ∃ z, z = h371.size := ⟨_, rfl⟩
  rw [← g372] at A372 B372 st372
  have z372 : h0.size ≤ b372 := Nat.le_trans k371.1 (Nat.le_of_eq g372.symm)
  have k372 := k371.ext E372
  have v372 : Arv Z h372 b372 c372 .int (((((0 : Int32) + i7) + i11) + i14) + (1 : Int32)) [] (.int 0) := Arv.new A372 (bd_nn1 (bd3 q23 q32 q37))
  have f373 := ((((((((((((((((((((((((((((((q5.ext E2).keep K3 (ninS ne4 nin0)).other W8 (Or.inr (sn85 hw))).keep K17 (ninS (Ne.symm ne12) nin0)).keep K19 nin0).keep K24 (ninS ne27 nin0)).keep K36 nin0).keep K46 (ninS ne4 nin0)).keep K66 (ninS ne27 nin0)).keep K75 nin0).keep K87 (ninS ne111 (ninS ne4 nin0))).keep K108 (ninS ne27 nin0)).keep K120 nin0).keep K130 (ninS ne111 (ninS ne4 nin0))).ext E141).other W144 (Or.inr (sn86 hw))).keep K161 nin0).keep K166 (ninS ne169 nin0)).other W217 (Or.inl (Ne.symm ne212))).keep K232 (ninS ne169 nin0)).other W282 (Or.inl (Ne.symm ne212))).keep K294 (ninS ne169 nin0)).other W337 (Or.inl (Ne.symm ne212))).ext E344).ext E348).ext E352).other W355 (Or.inr (sn87 hw))).keep K368 (ninS (Ne.symm ne362) nin0)).other W371 (Or.inr (sn88 hw))).ext E372)
  have f374 := ((f370.wr W371).ext E372)
  obtain ⟨T375, h375, X375, e375, W375, st375⟩ := putF X372 hx hZ hown (host := "") (Or.inl (w_ hw 431 rfl)) Via.refl e372 f373 f374 (Or.inr ⟨(w_ hw 432 rfl), rfl, hnm⟩) (w_ hw 214 rfl) (ty := (.array .int)) (by decide) rfl rfl (g := (mkF m 304 #[vr r0, vr r1, vr r2, vi ((((0 : Int32) + i7) + i11) + i14), vr b344, vr b348, vi 0] [(.ref b372), (.ref r0)])) rfl rfl (D d31_304)
  have N375 := Fr.snoc X375 N371 ge0
  have k375 := k372.wr W375 (Or.inl (List.mem_of_getElem? (i := 0) rfl))
  have v375 := f373.same W375
  obtain ⟨T376, X376, e376, st376⟩ := gF X375 hx hZ hown (w_ hw 431 rfl) Via.refl e375 v375 (g := (mkF m 313 #[vr r0, vr r1, vr r2, vi ((((0 : Int32) + i7) + i11) + i14), vr b344, vr b348, vi 0] [(.ref r0), (.ref b348), (.ref b344), (.ref r0)])) rfl rfl (D d31_313)
  have f377 := ((((f366.keep K368 (ninS ne367 nin0)).other W371 ne364).ext E372).other W375 ne364)
  have f378 := (B372.wr W375)
  have f380 := (f374.wr W375)
  have ne379 : b372 ≠ r0 := Exa.ne f378 f380 (by decide)
  have f381 := (v372.other W375 ne379)
  have ne382 : b344 ≠ b352 := Nat.ne_of_lt (Nat.lt_of_lt_of_le (B344.ext E348).lt (Nat.le_of_eq g352.symm))
  have f383 := ((((f360.keep K368 (ninS ne382 nin0)).other W371 ne357).ext E372).other W375 ne357)
  have f384 := ((((f358.keep K368).wr W371).ext E372).wr W375)
  have ne385 : b344 ≠ b372 := Nat.ne_of_lt (Nat.lt_of_lt_of_le ((f358.keep K368).wr W371).lt (Nat.le_of_eq g372.symm))
  obtain ⟨v386, T386, L386, X386, Q386, st386⟩ := kS X376 hx hZ hown (t69 hw SB0 b344 b348 b372 c348 c372 (((((0 : Int32) + i7) + i11) + i14) + (1 : Int32)) c344 (O0.keep k375 hws) f377 f378 f381 (bd_suc (bd3 q23 q32 q37)) f383 f384 ne385 (Nat.le_trans Z0 z372)) (w_ hw 417 rfl) (w_ hw 418 rfl) (w_ hw 215 rfl) (w_ hw 419 rfl) e376 (g := (mkF m 316 #[vr r0, vr r1, vr r2, vi ((((0 : Int32) + i7) + i11) + i14), vr b344, vr b348, vi 0] [(.ref b372), (.ref b348), (.ref b344), (.ref r0)])) rfl hml rfl (argsL := [(.ref b344), (.ref b348), (.ref b372)]) (rest := [(.ref r0)]) (lenOf pd33 rfl) rfl rfl (W := 1) rfl (D d31_316)
  obtain ⟨h386, e386⟩ : ∃ z, T386.heap = z := ⟨_, rfl⟩
  rw [e386] at Q386
  obtain ⟨b386_0, c386_1, rfl, M386, K386, y386_0, F386_0, F386_1, F386_2⟩ := Q386
  have N386 := N375.app M386
  have z386_b386_0 := Nat.le_trans k375.1 y386_0
  have k386 := k375.trans K386 (allS (Or.inr z372) all0)
  have f387 := ((((((((((((((((((((((((((((((((q6.ext E2).keep K3 (ninS ne4 nin0)).other W8 (Or.inr (sn89 hw))).keep K17 (ninS (Ne.symm ne12) nin0)).keep K19 nin0).keep K24 (ninS ne27 nin0)).keep K36 nin0).keep K46 (ninS ne4 nin0)).keep K66 (ninS ne27 nin0)).keep K75 nin0).keep K87 (ninS ne111 (ninS ne4 nin0))).keep K108 (ninS ne27 nin0)).keep K120 nin0).keep K130 (ninS ne111 (ninS ne4 nin0))).ext E141).other W144 (Or.inr (sn90 hw))).keep K161 nin0).keep K166 (ninS ne169 nin0)).other W217 (Or.inl (Ne.symm ne212))).keep K232 (ninS ne169 nin0)).other W282 (Or.inl (Ne.symm ne212))).keep K294 (ninS ne169 nin0)).other W337 (Or.inl (Ne.symm ne212))).ext E344).ext E348).ext E352).other W355 (Or.inr (sn91 hw))).keep K368 (ninS (Ne.symm ne362) nin0)).other W371 (Or.inr (sn92 hw))).ext E372).other W375 (Or.inr (sn93 hw))).keep K386 (ninS (Ne.symm ne379) nin0))
  have f388 := (f380.keep K386)
  obtain ⟨T389, h389, X389, e389, W389, st389⟩ := putF X386 hx hZ hown (host := "") (Or.inl (w_ hw 433 rfl)) Via.refl e386 f387 f388 (Or.inr ⟨(w_ hw 434 rfl), rfl, hnm⟩) (w_ hw 214 rfl) (ty := (.array .int)) (by decide) rfl rfl (g := (mkF m 319 #[vr r0, vr r1, vr r2, vi ((((0 : Int32) + i7) + i11) + i14), vr b344, vr b348, vi 0] [(.ref b386_0), (.ref r0)])) rfl rfl (D d31_319)
  have N389 := Fr.snoc X389 N386 ge0
  have k389 := k386.wr W389 (Or.inl (List.mem_of_getElem? (i := 0) rfl))
  have v389 := f387.same W389
  have f390 := (((((((((((f297.other W337 (Or.inl (Ne.symm ne212))).ext E344).ext E348).ext E352).other W355 (Or.inr (Ne.symm (sn81 hw)))).keep K368 (ninS (Ne.symm ne362) nin0)).other W371 (Or.inr (Ne.symm (sn83 hw)))).ext E372).other W375 (Or.inr (Ne.symm (sn86 hw)))).keep K386 (ninS (Ne.symm ne379) nin0)).other W389 (Or.inr (Ne.symm (sn90 hw))))
  have f391 := (((((((((((f314.wr W337).ext E344).ext E348).ext E352).wr W355).keep K368).wr W371).ext E372).wr W375).keep K386).wr W389)
  have f393 := ((((((f361.keep K368).wr W371).ext E372).wr W375).keep K386).wr W389)
  have ne392 : b141 ≠ b352 := Exa.ne f391 f393 (by decide)
  have f395 := ((f378.keep K386).wr W389)
  have ne394 : b141 ≠ b372 := Exa.ne f391 f395 (by decide)
  have f396 := ((((((((((v337.ext E344).ext E348).ext E352).other W355 ne212).keep K368 (ninS ne392 nin0)).other W371 ne212).ext E372).other W375 ne212).keep K386 (ninS ne394 nin0)).other W389 ne212)
  refine ⟨none, T389, _, _, _, X389, fun _ => rfl, (by rw [e389]; exact ⟨b141, rfl, N389, k389, z141, f390, f391, f396⟩), (by decide), (by decide), fun fs hr => pre286 _ ?_⟩
  show SA p e below T285 m 127 #[vr r0, vr r1, vr r2, vi ((((0 : Int32) + i7) + i11) + i14), vr b161_0, vr r4, un] [] _
  refine XS.aload X285.here hx rfl (D d31_127) rfl rfl ?_
  refine st294 _ ?_
  refine st296 _ ?_
  refine XS.astore X296.here hx rfl (D d31_137) rfl rfl (l' := #[vr r0, vr r1, vr r2, vi ((((0 : Int32) + i7) + i11) + i14), vr b161_0, vr r8, un]) rfl ?_
  refine XS.aloadN X296.here hx rfl (D d31_139) rfl rfl ?_
  refine st298 _ ?_
  refine XS.aloadN X298.here hx rfl (D d31_143) rfl rfl ?_
  refine st300 _ ?_
  refine XS.aload X300.here hx rfl (D d31_147) rfl rfl ?_
  refine st302 _ ?_
  refine st318 _ ?_
  refine st320 _ ?_
  refine st328 _ ?_
  refine XS.aload X328.here hx rfl (D d31_165) rfl rfl ?_
  refine st330 _ ?_
  refine st332 _ ?_
  refine st334 _ ?_
  refine XS.iadd X334.here hx rfl (D d31_180) rfl ?_
  refine XS.iconst X334.here hx rfl (D d31_181) ?_
  refine XS.isub X334.here hx rfl (D d31_182) rfl ?_
  refine XS.iconst X334.here hx rfl (D d31_183) ?_
  refine st337 _ ?_
  refine XS.goto X337.here hx rfl (pc0 := 185) (pc' := 117) rfl (D d31_185) (by decide) (by decide) ?_
  refine XS.aload X337.here hx rfl (D d31_117) rfl rfl ?_
  refine st340 _ ?_
  refine XS.ifYes X340.here hx rfl (pc0 := 124) (pc' := 188) rfl (D d31_124) rfl ((if0 _ _).trans (teq (by decide : ((0 : Int32) = (0 : Int32)))).1) (by decide) (by decide) ?_
  refine XS.aloadN X340.here hx rfl (D d31_188) rfl rfl ?_
  refine st343 _ ?_
  refine st344 _ ?_
  refine XS.astore X344.here hx rfl (D d31_196) rfl rfl (l' := #[vr r0, vr r1, vr r2, vi ((((0 : Int32) + i7) + i11) + i14), vr b344, vr r8, un]) rfl ?_
  refine XS.aloadN X344.here hx rfl (D d31_198) rfl rfl ?_
  refine st347 _ ?_
  refine st348 _ ?_
  refine XS.astore X348.here hx rfl (D d31_206) rfl rfl (l' := #[vr r0, vr r1, vr r2, vi ((((0 : Int32) + i7) + i11) + i14), vr b344, vr b348, un]) rfl ?_
  refine XS.iconst X348.here hx rfl (D d31_208) ?_
  refine XS.istore X348.here hx rfl (D d31_209) rfl (l' := #[vr r0, vr r1, vr r2, vi ((((0 : Int32) + i7) + i11) + i14), vr b344, vr b348, vi 0]) rfl ?_
  refine XS.iload X348.here hx rfl (D d31_211) rfl ?_
  refine XS.aloadN X348.here hx rfl (D d31_213) rfl rfl ?_
  refine st351 _ ?_
  refine XS.icmpYes X351.here hx rfl (pc0 := 219) (pc' := 274) rfl (D d31_219) rfl (flt (by decide : ¬ ((0 : Int32) < (0 : Int32)))).2.1 (by decide) (by decide) ?_
  refine XS.aloadN X351.here hx rfl (D d31_274) rfl rfl ?_
  refine XS.iloadN X351.here hx rfl (D d31_275) rfl ?_
  refine XS.iconst X351.here hx rfl (D d31_276) ?_
  refine XS.iadd X351.here hx rfl (D d31_277) rfl ?_
  refine st352 _ ?_
  refine st355 _ ?_
  refine XS.aloadN X355.here hx rfl (D d31_283) rfl rfl ?_
  refine XS.aload X355.here hx rfl (D d31_284) rfl rfl ?_
  refine XS.aload X355.here hx rfl (D d31_286) rfl rfl ?_
  refine XS.aloadN X355.here hx rfl (D d31_288) rfl rfl ?_
  refine st356 _ ?_
  refine st368 _ ?_
  refine st371 _ ?_
  refine XS.aloadN X371.here hx rfl (D d31_298) rfl rfl ?_
  refine XS.iloadN X371.here hx rfl (D d31_299) rfl ?_
  refine XS.iconst X371.here hx rfl (D d31_300) ?_
  refine XS.iadd X371.here hx rfl (D d31_301) rfl ?_
  refine st372 _ ?_
  refine st375 _ ?_
  refine XS.aloadN X375.here hx rfl (D d31_307) rfl rfl ?_
  refine XS.aload X375.here hx rfl (D d31_308) rfl rfl ?_
  refine XS.aload X375.here hx rfl (D d31_310) rfl rfl ?_
  refine XS.aloadN X375.here hx rfl (D d31_312) rfl rfl ?_
  refine st376 _ ?_
  refine st386 _ ?_
  refine st389 _ ?_
  show SA p e below T389 m 322 #[vr r0, vr r1, vr r2, vi ((((0 : Int32) + i7) + i11) + i14), vr b344, vr b348, vi 0] [] _
  exact X389.returnOut hx hrt (D d31_322) hr
theorem law0 {l : Launch} {Z : State} {a0 : Array Value} {cv : Int32} {de ca : Addr} (hw : HW a0 Z) (SB0 : SB Z cv de ca) (ws : List Jvm.Cond) (x0 x1 x2 x3 x4 : Int32) {h0 : Heap} {n0 : Nat} (O0 : OL Z n0 h0) : CTW l Z ws #[(.int x0), (.int x1), (.int x2), (.int x3), (.int x4)] h0 (Q1 n0) := by
  refine ctw_intro (plainFor_of_name (by first | (simp [plainName, overriddenIn]; done) | decide +kernel)) ?_
  intro p e s m below meth c s₁ E0 hx D hml hown hnm hrt X0 e0 hZ hE
  have Z0 := O0.le
  have K0 := Keep.refl h0 []
  have hws : ∀ w ∈ ([] : List Addr), n0 ≤ w := all0
  have N0 := Fr.nil n0
  have pre0 := ctp #[vi x0, vi x1, vi x2, vi x3, vi x4, un, un, un, un, un, un, un, un, un] hE
  have pre1 : ∀ t, SA p e below s₁ m 8 #[vi x0, vi x1, vi x2, vi x3, vi x4, un, un, un, un, un, un, un, un, un] [(.int ((1 : Int32) + ((x0 &&& (2147483647 : Int32)) % (3 : Int32))))] t → Steps p.tables e below E0 t := fun tt kk => pre0 tt (by
    show SA p e below s₁ m 0 #[vi x0, vi x1, vi x2, vi x3, vi x4, un, un, un, un, un, un, un, un, un] [] _
    refine XS.iconst X0.here hx rfl (D at_0) ?_
    refine XS.iloadN X0.here hx rfl (D at_1) rfl ?_
    refine X0.ldcInt hx hown (mvT hZ (w_ hw 0 rfl)) (g := (mkF m 2 #[vi x0, vi x1, vi x2, vi x3, vi x4, un, un, un, un, un, un, un, un, un] [(.int x0), (.int 1)])) rfl (D at_2) _ ?_
    show SA p e below s₁ m 4 #[vi x0, vi x1, vi x2, vi x3, vi x4, un, un, un, un, un, un, un, un, un] [(.int 2147483647), (.int x0), (.int 1)] _
    refine XS.iand X0.here hx rfl (D at_4) rfl ?_
    refine XS.iconst X0.here hx rfl (D at_5) ?_
    refine iremM X0 hx rfl (D at_6) rfl (by decide) ?_
    show SA p e below s₁ m 7 #[vi x0, vi x1, vi x2, vi x3, vi x4, un, un, un, un, un, un, un, un, un] [(.int ((x0 &&& (2147483647 : Int32)) % (3 : Int32))), (.int 1)] _
    refine XS.iadd X0.here hx rfl (D at_7) rfl ?_
    exact kk)
  obtain ⟨vn, evn⟩ : ∃ z, z = ((1 : Int32) + ((x0 &&& (2147483647 : Int32)) % (3 : Int32))) := ⟨_, rfl⟩
  rw [← evn] at pre1
  have hn3 := (evn ▸ n3 x0 : vn = 1 ∨ vn = 2 ∨ vn = 3)
  have pre2 : ∀ t, SA p e below s₁ m 15 #[vi x0, vi x1, vi x2, vi x3, vi x4, vi vn, un, un, un, un, un, un, un, un] [(.int ((1 : Int32) + (x1 &&& (3 : Int32))))] t → Steps p.tables e below E0 t := fun tt kk => pre1 tt (by
    show SA p e below s₁ m 8 #[vi x0, vi x1, vi x2, vi x3, vi x4, un, un, un, un, un, un, un, un, un] [(.int vn)] _
    refine XS.istore X0.here hx rfl (D at_8) rfl (l' := #[vi x0, vi x1, vi x2, vi x3, vi x4, vi vn, un, un, un, un, un, un, un, un]) rfl ?_
    refine XS.iconst X0.here hx rfl (D at_10) ?_
    refine XS.iloadN X0.here hx rfl (D at_11) rfl ?_
    refine XS.iconst X0.here hx rfl (D at_12) ?_
    refine XS.iand X0.here hx rfl (D at_13) rfl ?_
    refine XS.iadd X0.here hx rfl (D at_14) rfl ?_
    exact kk)
  obtain ⟨va, eva⟩ : ∃ z, z = ((1 : Int32) + (x1 &&& (3 : Int32))) := ⟨_, rfl⟩
  rw [← eva] at pre2
  have ha := (eva ▸ r4 x1 : R4 va)
  have pre3 : ∀ t, SA p e below s₁ m 22 #[vi x0, vi x1, vi x2, vi x3, vi x4, vi vn, vi va, un, un, un, un, un, un, un] [(.int ((1 : Int32) + (x2 &&& (3 : Int32))))] t → Steps p.tables e below E0 t := fun tt kk => pre2 tt (by
    show SA p e below s₁ m 15 #[vi x0, vi x1, vi x2, vi x3, vi x4, vi vn, un, un, un, un, un, un, un, un] [(.int va)] _
    refine XS.istore X0.here hx rfl (D at_15) rfl (l' := #[vi x0, vi x1, vi x2, vi x3, vi x4, vi vn, vi va, un, un, un, un, un, un, un]) rfl ?_
    refine XS.iconst X0.here hx rfl (D at_17) ?_
    refine XS.iloadN X0.here hx rfl (D at_18) rfl ?_
    refine XS.iconst X0.here hx rfl (D at_19) ?_
    refine XS.iand X0.here hx rfl (D at_20) rfl ?_
    refine XS.iadd X0.here hx rfl (D at_21) rfl ?_
    exact kk)
  obtain ⟨vb, evb⟩ : ∃ z, z = ((1 : Int32) + (x2 &&& (3 : Int32))) := ⟨_, rfl⟩
  rw [← evb] at pre3
  have hbb := (evb ▸ r4 x2 : R4 vb)
  have pre4 : ∀ t, SA p e below s₁ m 29 #[vi x0, vi x1, vi x2, vi x3, vi x4, vi vn, vi va, vi vb, un, un, un, un, un, un] [(.int ((1 : Int32) + (x3 &&& (3 : Int32))))] t → Steps p.tables e below E0 t := fun tt kk => pre3 tt (by
    show SA p e below s₁ m 22 #[vi x0, vi x1, vi x2, vi x3, vi x4, vi vn, vi va, un, un, un, un, un, un, un] [(.int vb)] _
    refine XS.istore X0.here hx rfl (D at_22) rfl (l' := #[vi x0, vi x1, vi x2, vi x3, vi x4, vi vn, vi va, vi vb, un, un, un, un, un, un]) rfl ?_
    refine XS.iconst X0.here hx rfl (D at_24) ?_
    refine XS.iloadN X0.here hx rfl (D at_25) rfl ?_
    refine XS.iconst X0.here hx rfl (D at_26) ?_
    refine XS.iand X0.here hx rfl (D at_27) rfl ?_
    refine XS.iadd X0.here hx rfl (D at_28) rfl ?_
    exact kk)
  obtain ⟨vc, evc⟩ : ∃ z, z = ((1 : Int32) + (x3 &&& (3 : Int32))) := ⟨_, rfl⟩
  rw [← evc] at pre4
  have hcc := (evc ▸ r4 x3 : R4 vc)
  obtain ⟨T5, h5, X5, e5, E5, A5, D5, -, st5⟩ := newO X0 hx hZ hown (w_ hw 1 rfl) (w_ hw 2 rfl) (w_ hw 3 rfl) e0 (g := (mkF m 31 #[vi x0, vi x1, vi x2, vi x3, vi x4, vi vn, vi va, vi vb, vi vc, un, un, un, un, un] [])) rfl (D at_31) (by decide) (by decide)
  obtain ⟨b5, g5⟩ : ∃ z, z = h0.size := ⟨_, rfl⟩
  rw [← g5] at A5 D5 st5
  have z5 : h0.size ≤ b5 := Nat.le_trans K0.1 (Nat.le_of_eq g5.symm)
  have k5 := K0.ext E5
  have F5_24 : P0 Z h5 b5 (.float (0 : UInt32)) := D5 (Or.inr (w_ hw 24 rfl)) (ty := .float) (by decide)
  have F5_26 : P1 Z h5 b5 (.int 0) := D5 (Or.inl (w_ hw 26 rfl)) (ty := .int) (by decide)
  have F5_28 : P2 Z h5 b5 (.int 0) := D5 (Or.inr (w_ hw 28 rfl)) (ty := .boolean) (by decide)
  have F5_151 : P3 Z h5 b5 .null := D5 (Or.inl (w_ hw 151 rfl)) (ty := (.array (.object "java/util/HashMap$Node"))) (by decide)
  have F5_158 : P4 Z h5 b5 (.int 0) := D5 (Or.inl (w_ hw 158 rfl)) (ty := .int) (by decide)
  have F5_195 : P5 Z h5 b5 .null := D5 (Or.inl (w_ hw 195 rfl)) (ty := (.object "java/util/LinkedHashMap$Entry")) (by decide)
  have F5_197 : P6 Z h5 b5 .null := D5 (Or.inl (w_ hw 197 rfl)) (ty := (.object "java/util/LinkedHashMap$Entry")) (by decide)
  have F5_199 : P7 Z h5 b5 (.int 0) := D5 (Or.inl (w_ hw 199 rfl)) (ty := .int) (by decide)
  have F5_201 : P8 Z h5 b5 (.int 0) := D5 (Or.inl (w_ hw 201 rfl)) (ty := .int) (by decide)
  have F5_242 : P9 Z h5 b5 .null := D5 (Or.inl (w_ hw 242 rfl)) (ty := (.object "java/util/Set")) (by decide)
  obtain ⟨v6, T6, L6, X6, Q6, st6⟩ := kI X5 hx hZ hown (t3 hw SB0 b5 (O0.keep k5 hws) A5 F5_24 F5_26 F5_28 F5_151 F5_158 F5_195 F5_197 F5_199 F5_201 F5_242 (Nat.le_trans Z0 z5)) rfl (w_ hw 4 rfl) (w_ hw 5 rfl) (w_ hw 3 rfl) (w_ hw 6 rfl) e5 (g := (mkF m 35 #[vi x0, vi x1, vi x2, vi x3, vi x4, vi vn, vi va, vi vb, vi vc, un, un, un, un, un] [(.ref b5), (.ref b5)])) rfl hml rfl (argsL := []) (rest := [(.ref b5)]) (lenOf pd0 rfl) rfl rfl (W := 1) rfl (D at_35)
  obtain ⟨h6, e6⟩ : ∃ z, T6.heap = z := ⟨_, rfl⟩
  rw [e6] at Q6
  obtain ⟨rfl, M6, K6, F6_0, F6_1, F6_2, F6_3, F6_4, F6_5, F6_6, F6_7, F6_8⟩ := Q6
  have N6 := N0.app M6
  have k6 := k5.trans K6 (allS (Or.inr z5) all0)
  obtain ⟨v7, T7, L7, X7, Q7, st7⟩ := kS X6 hx hZ hown (t7 hw SB0  (O0.keep k6 hws) ) (w_ hw 29 rfl) (w_ hw 30 rfl) (w_ hw 31 rfl) (w_ hw 32 rfl) e6 (g := (mkF m 44 #[vi x0, vi x1, vi x2, vi x3, vi x4, vi vn, vi va, vi vb, vi vc, vr b5, un, un, un, un] [(.int 97), (.ref b5)])) rfl hml rfl (argsL := [(.int 97)]) (rest := [(.ref b5)]) (lenOf pd4 rfl) rfl rfl (W := 1) rfl (D at_44)
  obtain ⟨h7, e7⟩ : ∃ z, T7.heap = z := ⟨_, rfl⟩
  rw [e7] at Q7
  obtain ⟨b7_0, b7_1, c7_2, rfl, M7, K7, y7_0, y7_1, F7_0, F7_1, F7_2, F7_3, F7_4, F7_5, F7_6⟩ := Q7
  have N7 := N6.app M7
  have z7_b7_0 := Nat.le_trans k6.1 y7_0
  have z7_b7_1 := Nat.le_trans k6.1 y7_1
  have k7 := k6.trans K7 all0
  obtain ⟨v8, T8, L8, X8, Q8, st8⟩ := kS X7 hx hZ hown (tst hw SB0 va (O0.keep k7 hws) ha) (w_ hw 53 rfl) (w_ hw 54 rfl) (w_ hw 55 rfl) (w_ hw 56 rfl) e7 (g := (mkF m 49 #[vi x0, vi x1, vi x2, vi x3, vi x4, vi vn, vi va, vi vb, vi vc, vr b5, un, un, un, un] [(.int va), (.ref b7_0), (.ref b5)])) rfl hml rfl (argsL := [(.int va)]) (rest := [(.ref b7_0), (.ref b5)]) (lenOf pd10 rfl) rfl rfl (W := 2) rfl (D at_49)
  obtain ⟨h8, e8⟩ : ∃ z, T8.heap = z := ⟨_, rfl⟩
  rw [e8] at Q8
  obtain ⟨b8_0, rfl, M8, K8, y8_0, F8_0, F8_1⟩ := Q8
  have N8 := N7.app M8
  have z8_b8_0 := Nat.le_trans k7.1 y8_0
  have k8 := k7.trans K8 all0
  have f9 := (F7_0.keep K8)
  have f10 := (F7_3.keep K8 nin0)
  have f11 := (F7_4.keep K8 nin0)
  have f12 := (F7_2.keep K8 nin0)
  have f13 := (F7_1.keep K8 nin0)
  have f14 := (F7_6.keep K8 nin0)
  have f15 := (((A5.keep K6).keep K7).keep K8)
  have f16 := ((F6_2.keep K7 nin0).keep K8 nin0)
  have f17 := ((F6_3.keep K7 nin0).keep K8 nin0)
  have f18 := ((F6_0.keep K7 nin0).keep K8 nin0)
  have f19 := ((F6_1.keep K7 nin0).keep K8 nin0)
  have f20 := ((F6_4.keep K7 nin0).keep K8 nin0)
  have f21 := ((F6_5.keep K7 nin0).keep K8 nin0)
  have f22 := ((F6_6.keep K7 nin0).keep K8 nin0)
  have f23 := ((F6_7.keep K7 nin0).keep K8 nin0)
  have f24 := ((F6_8.keep K7 nin0).keep K8 nin0)
  obtain ⟨v25, T25, L25, X25, Q25, st25⟩ := kG X8 hx hZ hown (t38 hw SB0 b5 b7_0 b8_0 b7_1 c7_2 (O0.keep k8 hws) f9 f10 f11 f12 f13 f14 f15 f16 f17 f18 f19 f20 f21 f22 f23 f24 (Nat.le_trans Z0 z7_b7_0) (Nat.le_trans Z0 z5)) f15 (w_ hw 115 rfl) (mvT hZ (w_ hw 117 rfl)) (iw1 hw) e8 (g := (mkF m 52 #[vi x0, vi x1, vi x2, vi x3, vi x4, vi vn, vi va, vi vb, vi vc, vr b5, un, un, un, un] [(.ref b8_0), (.ref b7_0), (.ref b5)])) rfl hml rfl (argsL := [(.ref b7_0), (.ref b8_0)]) (rest := []) (lenOf pd22 rfl) rfl rfl (W := 0) rfl (D at_52)
  obtain ⟨h25, e25⟩ : ∃ z, T25.heap = z := ⟨_, rfl⟩
  rw [e25] at Q25
  obtain ⟨b25_0, b25_1, c25_2, rfl, M25, K25, y25_0, y25_1, F25_0, F25_1, F25_2, F25_3, F25_4, F25_5, F25_6, F25_7, F25_8, F25_9, F25_10, F25_11, F25_12, F25_13, F25_14, F25_15, F25_16, F25_17, F25_18, F25_19, F25_20, F25_21⟩ := Q25
  have N25 := N8.app M25
  have z25_b25_0 := Nat.le_trans k8.1 y25_0
  have z25_b25_1 := Nat.le_trans k8.1 y25_1
  have k25 := k8.trans K25 (allS (Or.inr z7_b7_0) (allS (Or.inr z5) all0))
  have pre26 : ∀ t, SA p e below T25 m 58 #[vi x0, vi x1, vi x2, vi x3, vi x4, vi vn, vi va, vi vb, vi vc, vr b5, un, un, un, un] [] t → Steps p.tables e below E0 t := fun tt kk => pre4 tt (by
    show SA p e below s₁ m 29 #[vi x0, vi x1, vi x2, vi x3, vi x4, vi vn, vi va, vi vb, un, un, un, un, un, un] [(.int vc)] _
    refine XS.istore X0.here hx rfl (D at_29) rfl (l' := #[vi x0, vi x1, vi x2, vi x3, vi x4, vi vn, vi va, vi vb, vi vc, un, un, un, un, un]) rfl ?_
    refine st5 _ ?_
    refine XS.dup X5.here hx rfl (D at_34) rfl rfl ?_
    refine st6 _ ?_
    refine XS.astore X6.here hx rfl (D at_38) rfl rfl (l' := #[vi x0, vi x1, vi x2, vi x3, vi x4, vi vn, vi va, vi vb, vi vc, vr b5, un, un, un, un]) rfl ?_
    refine XS.aload X6.here hx rfl (D at_40) rfl rfl ?_
    refine XS.bipush X6.here hx rfl (D at_42) ?_
    refine st7 _ ?_
    refine XS.iload X7.here hx rfl (D at_47) rfl ?_
    refine st8 _ ?_
    refine st25 _ ?_
    refine XS.pop X25.here hx rfl (D at_57) rfl rfl ?_
    exact kk)
  rcases hn3 with hn | hn | hn
  · rw [hn] at pre26
    have pre27 : ∀ t, SA p e below T25 m 149 #[vi x0, vi x1, vi x2, vi x3, vi x4, vi 1, vi va, vi vb, vi vc, vr b5, vi va, un, un, un] [(.int ((x4 &&& (2147483647 : Int32)) % va))] t → Steps p.tables e below E0 t := fun tt kk => pre26 tt (by
      show SA p e below T25 m 58 #[vi x0, vi x1, vi x2, vi x3, vi x4, vi 1, vi va, vi vb, vi vc, vr b5, un, un, un, un] [] _
      refine XS.iload X25.here hx rfl (D at_58) rfl ?_
      refine XS.iconst X25.here hx rfl (D at_60) ?_
      refine XS.icmpYes X25.here hx rfl (pc0 := 61) (pc' := 82) rfl (D at_61) rfl (tlt (by decide : ((1 : Int32) < (2 : Int32)))).1 (by decide) (by decide) ?_
      refine XS.iload X25.here hx rfl (D at_82) rfl ?_
      refine XS.iconst X25.here hx rfl (D at_84) ?_
      refine XS.icmpYes X25.here hx rfl (pc0 := 85) (pc' := 106) rfl (D at_85) rfl (tlt (by decide : ((1 : Int32) < (3 : Int32)))).1 (by decide) (by decide) ?_
      refine XS.iload X25.here hx rfl (D at_106) rfl ?_
      refine XS.iconst X25.here hx rfl (D at_108) ?_
      refine XS.icmpNo X25.here hx rfl (D at_109) rfl (teq (by decide : ((1 : Int32) = (1 : Int32)))).2 ?_
      refine XS.iload X25.here hx rfl (D at_112) rfl ?_
      refine XS.goto X25.here hx rfl (pc0 := 114) (pc' := 139) rfl (D at_114) (by decide) (by decide) ?_
      refine XS.istore X25.here hx rfl (D at_139) rfl (l' := #[vi x0, vi x1, vi x2, vi x3, vi x4, vi 1, vi va, vi vb, vi vc, vr b5, vi va, un, un, un]) rfl ?_
      refine XS.iload X25.here hx rfl (D at_141) rfl ?_
      refine X25.ldcInt hx hown (mvT hZ (w_ hw 0 rfl)) (g := (mkF m 143 #[vi x0, vi x1, vi x2, vi x3, vi x4, vi 1, vi va, vi vb, vi vc, vr b5, vi va, un, un, un] [(.int x4)])) rfl (D at_143) _ ?_
      show SA p e below T25 m 145 #[vi x0, vi x1, vi x2, vi x3, vi x4, vi 1, vi va, vi vb, vi vc, vr b5, vi va, un, un, un] [(.int 2147483647), (.int x4)] _
      refine XS.iand X25.here hx rfl (D at_145) rfl ?_
      refine XS.iload X25.here hx rfl (D at_146) rfl ?_
      refine iremM X25 hx rfl (D at_148) rfl (nz1 ha) ?_
      exact kk)
    obtain ⟨vs, evs⟩ : ∃ z, z = ((x4 &&& (2147483647 : Int32)) % va) := ⟨_, rfl⟩
    rw [← evs] at pre27
    have hs := (evs ▸ sm x4 _ (pos1 ha) : ¬ vs < 0 ∧ vs < va)
    obtain ⟨T28, h28, X28, e28, E28, A28, D28, -, st28⟩ := newO X25 hx hZ hown (w_ hw 213 rfl) (w_ hw 214 rfl) (w_ hw 215 rfl) e25 (g := (mkF m 151 #[vi x0, vi x1, vi x2, vi x3, vi x4, vi 1, vi va, vi vb, vi vc, vr b5, vi va, vi vs, un, un] [])) rfl (D at_151) (by decide) (by decide)
    obtain ⟨b28, g28⟩ : ∃ z, z = h25.size := ⟨_, rfl⟩
    rw [← g28] at A28 D28 st28
    have z28 : h0.size ≤ b28 := Nat.le_trans k25.1 (Nat.le_of_eq g28.symm)
    have k28 := k25.ext E28
    have F28_226 : P23 Z h28 b28 .null := D28 (Or.inr (w_ hw 226 rfl)) (ty := (.object "java/util/Map")) (by decide)
    have F28_386 : P24 Z h28 b28 .null := D28 (Or.inr (w_ hw 386 rfl)) (ty := (.array .boolean)) (by decide)
    have F28_416 : P25 Z h28 b28 .null := D28 (Or.inr (w_ hw 416 rfl)) (ty := (.array .int)) (by decide)
    have F28_430 : P26 Z h28 b28 .null := D28 (Or.inr (w_ hw 430 rfl)) (ty := (.array .int)) (by decide)
    have F28_432 : P27 Z h28 b28 .null := D28 (Or.inr (w_ hw 432 rfl)) (ty := (.array .int)) (by decide)
    have F28_434 : P28 Z h28 b28 .null := D28 (Or.inr (w_ hw 434 rfl)) (ty := (.array .int)) (by decide)
    obtain ⟨T29, h29, X29, e29, E29, A29, D29, -, st29⟩ := newO X28 hx hZ hown (w_ hw 57 rfl) (w_ hw 58 rfl) (w_ hw 59 rfl) e28 (g := (mkF m 157 #[vi x0, vi x1, vi x2, vi x3, vi x4, vi 1, vi va, vi vb, vi vc, vr b5, vi va, vi vs, un, un] [(.ref b5), (.ref b28), (.ref b28)])) rfl (D at_157) (by decide) (by decide)
    obtain ⟨b29, g29⟩ : ∃ z, z = h28.size := ⟨_, rfl⟩
    rw [← g29] at A29 D29 st29
    have z29 : h0.size ≤ b29 := Nat.le_trans k28.1 (Nat.le_of_eq g29.symm)
    have k29 := k28.ext E29
    have F29_77 : P14 Z h29 b29 (.int 0) := D29 (Or.inl (w_ hw 77 rfl)) (ty := .int) (by decide)
    have F29_80 : P15 Z h29 b29 .null := D29 (Or.inl (w_ hw 80 rfl)) (ty := (.array (.object "java/lang/Object"))) (by decide)
    have F29_93 : P16 Z h29 b29 (.int 0) := D29 (Or.inl (w_ hw 93 rfl)) (ty := .int) (by decide)
    obtain ⟨v30, T30, L30, X30, Q30, st30⟩ := kI X29 hx hZ hown (t10 hw SB0 b29 (O0.keep k29 hws) A29 F29_77 F29_80 F29_93 (Nat.le_trans Z0 z29)) rfl (w_ hw 60 rfl) (w_ hw 61 rfl) (w_ hw 59 rfl) (w_ hw 62 rfl) e29 (g := (mkF m 161 #[vi x0, vi x1, vi x2, vi x3, vi x4, vi 1, vi va, vi vb, vi vc, vr b5, vi va, vi vs, un, un] [(.ref b29), (.ref b29), (.ref b5), (.ref b28), (.ref b28)])) rfl hml rfl (argsL := []) (rest := [(.ref b29), (.ref b5), (.ref b28), (.ref b28)]) (lenOf pd0 rfl) rfl rfl (W := 4) rfl (D at_161)
    obtain ⟨h30, e30⟩ : ∃ z, T30.heap = z := ⟨_, rfl⟩
    rw [e30] at Q30
    obtain ⟨rfl, M30, K30, F30_0, F30_1, F30_2⟩ := Q30
    have N30 := N25.app M30
    have k30 := k29.trans K30 (allS (Or.inr z29) all0)
    have f31 := ((A28.ext E29).keep K30)
    have f33 := (A29.keep K30)
    have ne32 : b28 ≠ b29 := Exa.ne f31 f33 (by decide)
    have f34 := ((F28_226.ext E29).keep K30 (ninS ne32 nin0))
    have f35 := ((F28_386.ext E29).keep K30 (ninS ne32 nin0))
    have f36 := ((F28_416.ext E29).keep K30 (ninS ne32 nin0))
    have f37 := ((F28_430.ext E29).keep K30 (ninS ne32 nin0))
    have f38 := ((F28_432.ext E29).keep K30 (ninS ne32 nin0))
    have f39 := ((F28_434.ext E29).keep K30 (ninS ne32 nin0))
    have f40 := ((((f15.keep K25).ext E28).ext E29).keep K30)
    have ne41 : b5 ≠ b29 := Exa.ne f40 f33 (by decide)
    have f42 := (((F25_12.ext E28).ext E29).keep K30 (ninS ne41 nin0))
    have f43 := (((F25_9.ext E28).ext E29).keep K30 (ninS ne41 nin0))
    have f44 := (((F25_10.ext E28).ext E29).keep K30 (ninS ne41 nin0))
    have f46 := (((F25_13.ext E28).ext E29).keep K30)
    have ne45 : b25_0 ≠ b29 := Exa.ne f46 f33 (by decide)
    have f47 := (((F25_17.ext E28).ext E29).keep K30 (ninS ne45 nin0))
    have f48 := (((F25_15.ext E28).ext E29).keep K30 (ninS ne45 nin0))
    have f49 := ((((f9.keep K25).ext E28).ext E29).keep K30)
    have ne50 : b7_0 ≠ b29 := Exa.ne f49 f33 (by decide)
    have f51 := (((F25_0.ext E28).ext E29).keep K30 (ninS ne50 nin0))
    have f52 := (((F25_16.ext E28).ext E29).keep K30 (ninS ne45 nin0))
    have f53 := ((((F8_0.keep K25).ext E28).ext E29).keep K30)
    have ne54 : b8_0 ≠ b5 := Exa.ne f53 f40 (by decide)
    have ne55 : b8_0 ≠ b7_0 := Exa.ne f53 f49 (by decide)
    have ne56 : b8_0 ≠ b29 := Nat.ne_of_lt (Nat.lt_of_lt_of_le ((F8_0.keep K25).ext E28).lt (Nat.le_of_eq g29.symm))
    have f57 := ((((F8_1.keep K25 (ninS ne55 (ninS ne54 nin0))).ext E28).ext E29).keep K30 (ninS ne56 nin0))
    obtain ⟨v58, T58, L58, X58, Q58, st58⟩ := kI X30 hx hZ hown (t70 hw SB0 b28 b5 b29 b25_0 b7_0 b8_0 va (O0.keep k30 hws) f31 f34 f35 f36 f37 f38 f39 f40 f42 f43 f44 f47 f46 f48 f49 f51 f52 f53 f57 ha f33 F30_2 (Nat.le_trans Z0 z28) (Nat.le_trans Z0 z5)) rfl (w_ hw 216 rfl) (w_ hw 217 rfl) (w_ hw 215 rfl) (w_ hw 218 rfl) e30 (g := (mkF m 164 #[vi x0, vi x1, vi x2, vi x3, vi x4, vi 1, vi va, vi vb, vi vc, vr b5, vi va, vi vs, un, un] [(.ref b29), (.ref b5), (.ref b28), (.ref b28)])) rfl hml rfl (argsL := [(.ref b5), (.ref b29)]) (rest := [(.ref b28)]) (lenOf pd34 rfl) rfl rfl (W := 1) rfl (D at_164)
    obtain ⟨h58, e58⟩ : ∃ z, T58.heap = z := ⟨_, rfl⟩
    rw [e58] at Q58
    obtain ⟨b58_0, rfl, M58, K58, y58_0, F58_0, F58_1, F58_2⟩ := Q58
    have N58 := N30.app M58
    have z58_b58_0 := Nat.le_trans k30.1 y58_0
    have k58 := k30.trans K58 (allS (Or.inr z28) (allS (Or.inr z5) all0))
    have pre59 : ∀ t, SA p e below T58 m 169 #[vi x0, vi x1, vi x2, vi x3, vi x4, vi 1, vi va, vi vb, vi vc, vr b5, vi va, vi vs, vr b28, un] [] t → Steps p.tables e below E0 t := fun tt kk => pre27 tt (by
      show SA p e below T25 m 149 #[vi x0, vi x1, vi x2, vi x3, vi x4, vi 1, vi va, vi vb, vi vc, vr b5, vi va, un, un, un] [(.int vs)] _
      refine XS.istore X25.here hx rfl (D at_149) rfl (l' := #[vi x0, vi x1, vi x2, vi x3, vi x4, vi 1, vi va, vi vb, vi vc, vr b5, vi va, vi vs, un, un]) rfl ?_
      refine st28 _ ?_
      refine XS.dup X28.here hx rfl (D at_154) rfl rfl ?_
      refine XS.aload X28.here hx rfl (D at_155) rfl rfl ?_
      refine st29 _ ?_
      refine XS.dup X29.here hx rfl (D at_160) rfl rfl ?_
      refine st30 _ ?_
      refine st58 _ ?_
      refine XS.astore X58.here hx rfl (D at_167) rfl rfl (l' := #[vi x0, vi x1, vi x2, vi x3, vi x4, vi 1, vi va, vi vb, vi vc, vr b5, vi va, vi vs, vr b28, un]) rfl ?_
      exact kk)
    by_cases hs0 : vs = (0 : Int32)
    · have f60 := (f31.keep K58)
      obtain ⟨v61, T61, L61, X61, Q61, st61⟩ := kV (y := y65) (z := y65) X58 hx hZ hown (t71 hw SB0 b28 vs (O0.keep k58 hws) hs0) f60 (nf_of (x := y65) (y' := y65) (args := #[]) (mvT hZ (w_ hw 438 rfl)) rfl) (w_ hw 435 rfl) (w_ hw 436 rfl) (w_ hw 438 rfl) (w_ hw 437 rfl) (w_ hw 215 rfl) (w_ hw 439 rfl) e58 (g := (mkF m 214 #[vi x0, vi x1, vi x2, vi x3, vi x4, vi 1, vi va, vi vb, vi vc, vr b5, vi va, vi vs, vr b28, vi 1] [(.int vs), (.ref b28)])) rfl hml rfl (argsL := [(.int vs)]) (rest := []) (lenOf pd35 rfl) rfl rfl (W := 0) rfl (D at_214)
      obtain ⟨rfl, M61, e61⟩ := Q61
      have N61 := N58.app M61
      refine ⟨some (.int 1), T61, _, _, _, X61, (fun hh => absurd hh (by decide)), (by rw [e61]; exact ⟨rfl, N61⟩), (by decide), (by decide), fun fs hr => pre59 _ ?_⟩
      show SA p e below T58 m 169 #[vi x0, vi x1, vi x2, vi x3, vi x4, vi 1, vi va, vi vb, vi vc, vr b5, vi va, vi vs, vr b28, un] [] _
      refine XS.iload X58.here hx rfl (D at_169) rfl ?_
      refine XS.ifYes X58.here hx rfl (pc0 := 171) (pc' := 203) rfl (D at_171) rfl ((if0 _ _).trans (teq hs0).1) (by decide) (by decide) ?_
      refine XS.iconst X58.here hx rfl (D at_203) ?_
      refine XS.goto X58.here hx rfl (pc0 := 204) (pc' := 208) rfl (D at_204) (by decide) (by decide) ?_
      refine XS.istore X58.here hx rfl (D at_208) rfl (l' := #[vi x0, vi x1, vi x2, vi x3, vi x4, vi 1, vi va, vi vb, vi vc, vr b5, vi va, vi vs, vr b28, vi 1]) rfl ?_
      refine XS.aload X58.here hx rfl (D at_210) rfl rfl ?_
      refine XS.iload X58.here hx rfl (D at_212) rfl ?_
      refine st61 _ ?_
      refine XS.iload X61.here hx rfl (D at_217) rfl ?_
      refine XS.icmpNo X61.here hx rfl (D at_219) rfl (teq (by decide : ((1 : Int32) = (1 : Int32)))).2 ?_
      refine XS.iconst X61.here hx rfl (D at_222) ?_
      refine XS.goto X61.here hx rfl (pc0 := 223) (pc' := 227) rfl (D at_223) (by decide) (by decide) ?_
      show SA p e below T61 m 227 #[vi x0, vi x1, vi x2, vi x3, vi x4, vi 1, vi va, vi vb, vi vc, vr b5, vi va, vi vs, vr b28, vi 1] [(.int 1)] _
      exact retN X61 hx (t := .boolean) hrt (by simp) (D at_227) hr
    have hj := fk1 ha hs.1 hs.2 hs0
    have hel := hj.2.2.trans (if_neg id)
    have f62 := (f31.keep K58)
    obtain ⟨v63, T63, L63, X63, Q63, st63⟩ := kV (y := y65) (z := y65) X58 hx hZ hown (t73 hw SB0 b28 vs b58_0 ((0 : Int32) + va) (up (fun _ => 0) (((0 : Int32) + va) - (1 : Int32)) (1 : Int32)) (O0.keep k58 hws) hs0 f62 F58_0 F58_2 hj.1 hj.2.1 hel) f62 (nf_of (x := y65) (y' := y65) (args := #[]) (mvT hZ (w_ hw 438 rfl)) rfl) (w_ hw 435 rfl) (w_ hw 436 rfl) (w_ hw 438 rfl) (w_ hw 437 rfl) (w_ hw 215 rfl) (w_ hw 439 rfl) e58 (g := (mkF m 214 #[vi x0, vi x1, vi x2, vi x3, vi x4, vi 1, vi va, vi vb, vi vc, vr b5, vi va, vi vs, vr b28, vi 0] [(.int vs), (.ref b28)])) rfl hml rfl (argsL := [(.int vs)]) (rest := []) (lenOf pd35 rfl) rfl rfl (W := 0) rfl (D at_214)
    obtain ⟨rfl, M63, e63⟩ := Q63
    have N63 := N58.app M63
    refine ⟨some (.int 1), T63, _, _, _, X63, (fun hh => absurd hh (by decide)), (by rw [e63]; exact ⟨rfl, N63⟩), (by decide), (by decide), fun fs hr => pre59 _ ?_⟩
    show SA p e below T58 m 169 #[vi x0, vi x1, vi x2, vi x3, vi x4, vi 1, vi va, vi vb, vi vc, vr b5, vi va, vi vs, vr b28, un] [] _
    refine XS.iload X58.here hx rfl (D at_169) rfl ?_
    refine XS.ifNo X58.here hx rfl (D at_171) rfl ((if0 _ _).trans (feq hs0).1) ?_
    refine XS.iload X58.here hx rfl (D at_174) rfl ?_
    refine XS.iconst X58.here hx rfl (D at_176) ?_
    refine XS.icmpYes X58.here hx rfl (pc0 := 177) (pc' := 187) rfl (D at_177) rfl (tlt (by decide : ((1 : Int32) < (2 : Int32)))).1 (by decide) (by decide) ?_
    refine XS.iload X58.here hx rfl (D at_187) rfl ?_
    refine XS.iconst X58.here hx rfl (D at_189) ?_
    refine XS.icmpYes X58.here hx rfl (pc0 := 190) (pc' := 207) rfl (D at_190) rfl (tlt (by decide : ((1 : Int32) < (3 : Int32)))).1 (by decide) (by decide) ?_
    refine XS.iconst X58.here hx rfl (D at_207) ?_
    refine XS.istore X58.here hx rfl (D at_208) rfl (l' := #[vi x0, vi x1, vi x2, vi x3, vi x4, vi 1, vi va, vi vb, vi vc, vr b5, vi va, vi vs, vr b28, vi 0]) rfl ?_
    refine XS.aload X58.here hx rfl (D at_210) rfl rfl ?_
    refine XS.iload X58.here hx rfl (D at_212) rfl ?_
    refine st63 _ ?_
    refine XS.iload X63.here hx rfl (D at_217) rfl ?_
    refine XS.icmpNo X63.here hx rfl (D at_219) rfl (teq (by decide : ((0 : Int32) = (0 : Int32)))).2 ?_
    refine XS.iconst X63.here hx rfl (D at_222) ?_
    refine XS.goto X63.here hx rfl (pc0 := 223) (pc' := 227) rfl (D at_223) (by decide) (by decide) ?_
    show SA p e below T63 m 227 #[vi x0, vi x1, vi x2, vi x3, vi x4, vi 1, vi va, vi vb, vi vc, vr b5, vi va, vi vs, vr b28, vi 0] [(.int 1)] _
    exact retN X63 hx (t := .boolean) hrt (by simp) (D at_227) hr
  · rw [hn] at pre26
    obtain ⟨v64, T64, L64, X64, Q64, st64⟩ := kS X25 hx hZ hown (t76 hw SB0  (O0.keep k25 hws) ) (w_ hw 29 rfl) (w_ hw 30 rfl) (w_ hw 31 rfl) (w_ hw 32 rfl) e25 (g := (mkF m 68 #[vi x0, vi x1, vi x2, vi x3, vi x4, vi 2, vi va, vi vb, vi vc, vr b5, un, un, un, un] [(.int 98), (.ref b5)])) rfl hml rfl (argsL := [(.int 98)]) (rest := [(.ref b5)]) (lenOf pd4 rfl) rfl rfl (W := 1) rfl (D at_68)
    obtain ⟨h64, e64⟩ : ∃ z, T64.heap = z := ⟨_, rfl⟩
    rw [e64] at Q64
    obtain ⟨b64_0, b64_1, c64_2, rfl, M64, K64, y64_0, y64_1, F64_0, F64_1, F64_2, F64_3, F64_4, F64_5, F64_6⟩ := Q64
    have N64 := N25.app M64
    have z64_b64_0 := Nat.le_trans k25.1 y64_0
    have z64_b64_1 := Nat.le_trans k25.1 y64_1
    have k64 := k25.trans K64 all0
    obtain ⟨v65, T65, L65, X65, Q65, st65⟩ := kS X64 hx hZ hown (tst hw SB0 vb (O0.keep k64 hws) hbb) (w_ hw 53 rfl) (w_ hw 54 rfl) (w_ hw 55 rfl) (w_ hw 56 rfl) e64 (g := (mkF m 73 #[vi x0, vi x1, vi x2, vi x3, vi x4, vi 2, vi va, vi vb, vi vc, vr b5, un, un, un, un] [(.int vb), (.ref b64_0), (.ref b5)])) rfl hml rfl (argsL := [(.int vb)]) (rest := [(.ref b64_0), (.ref b5)]) (lenOf pd10 rfl) rfl rfl (W := 2) rfl (D at_73)
    obtain ⟨h65, e65⟩ : ∃ z, T65.heap = z := ⟨_, rfl⟩
    rw [e65] at Q65
    obtain ⟨b65_0, rfl, M65, K65, y65_0, F65_0, F65_1⟩ := Q65
    have N65 := N64.app M65
    have z65_b65_0 := Nat.le_trans k64.1 y65_0
    have k65 := k64.trans K65 all0
    have f66 := (F64_0.keep K65)
    have f67 := (F64_3.keep K65 nin0)
    have f68 := (F64_4.keep K65 nin0)
    have f69 := (F64_2.keep K65 nin0)
    have f70 := (F64_1.keep K65 nin0)
    have f71 := (F64_6.keep K65 nin0)
    have f72 := (((f15.keep K25).keep K64).keep K65)
    have f73 := ((F25_6.keep K64 nin0).keep K65 nin0)
    have f74 := ((F25_20.keep K64 nin0).keep K65 nin0)
    have f75 := ((F25_4.keep K64 nin0).keep K65 nin0)
    have f76 := ((F25_5.keep K64 nin0).keep K65 nin0)
    have f77 := ((F25_7.keep K64 nin0).keep K65 nin0)
    have f78 := ((F25_8.keep K64 nin0).keep K65 nin0)
    have f79 := ((F25_9.keep K64 nin0).keep K65 nin0)
    have f80 := ((F25_10.keep K64 nin0).keep K65 nin0)
    have f81 := ((F25_11.keep K64 nin0).keep K65 nin0)
    have f82 := ((F25_12.keep K64 nin0).keep K65 nin0)
    have f83 := ((F25_13.keep K64).keep K65)
    have f84 := ((F25_14.keep K64 nin0).keep K65 nin0)
    have f85 := ((F25_15.keep K64 nin0).keep K65 nin0)
    have f86 := ((F25_16.keep K64 nin0).keep K65 nin0)
    have f87 := ((F25_17.keep K64 nin0).keep K65 nin0)
    have f88 := ((F25_18.keep K64 nin0).keep K65 nin0)
    have f89 := ((F25_19.keep K64).keep K65)
    obtain ⟨v90, T90, L90, X90, Q90, st90⟩ := kG X65 hx hZ hown (t83 hw SB0 b5 b64_0 b65_0 b64_1 c64_2 b25_1 b25_0 c25_2 b7_0 b8_0 (O0.keep k65 hws) f66 f67 f68 f69 f70 f71 f72 f73 f74 f75 f76 f77 f78 f79 f80 f81 f82 f83 f84 f85 f86 f87 f88 f89 F25_21 (Nat.le_trans Z0 z64_b64_0) (Nat.le_trans Z0 z5) (Nat.le_trans Z0 z25_b25_0) (Nat.le_trans Z0 z25_b25_1)) f72 (w_ hw 115 rfl) (mvT hZ (w_ hw 117 rfl)) (iw1 hw) e65 (g := (mkF m 76 #[vi x0, vi x1, vi x2, vi x3, vi x4, vi 2, vi va, vi vb, vi vc, vr b5, un, un, un, un] [(.ref b65_0), (.ref b64_0), (.ref b5)])) rfl hml rfl (argsL := [(.ref b64_0), (.ref b65_0)]) (rest := []) (lenOf pd22 rfl) rfl rfl (W := 0) rfl (D at_76)
    obtain ⟨h90, e90⟩ : ∃ z, T90.heap = z := ⟨_, rfl⟩
    rw [e90] at Q90
    obtain ⟨b90_0, rfl, M90, K90, y90_0, F90_0, F90_1, F90_2, F90_3, F90_4, F90_5, F90_6, F90_7, F90_8, F90_9, F90_10, F90_11, F90_12, F90_13, F90_14, F90_15, F90_16, F90_17, F90_18, F90_19, F90_20, F90_21, F90_22, F90_23⟩ := Q90
    have N90 := N65.app M90
    have z90_b90_0 := Nat.le_trans k65.1 y90_0
    have k90 := k65.trans K90 (allS (Or.inr z64_b64_0) (allS (Or.inr z5) (allS (Or.inr z25_b25_0) (allS (Or.inr z25_b25_1) all0))))
    have pre91 : ∀ t, SA p e below T90 m 149 #[vi x0, vi x1, vi x2, vi x3, vi x4, vi 2, vi va, vi vb, vi vc, vr b5, vi (va + vb), un, un, un] [(.int ((x4 &&& (2147483647 : Int32)) % (va + vb)))] t → Steps p.tables e below E0 t := fun tt kk => pre26 tt (by
      show SA p e below T25 m 58 #[vi x0, vi x1, vi x2, vi x3, vi x4, vi 2, vi va, vi vb, vi vc, vr b5, un, un, un, un] [] _
      refine XS.iload X25.here hx rfl (D at_58) rfl ?_
      refine XS.iconst X25.here hx rfl (D at_60) ?_
      refine XS.icmpNo X25.here hx rfl (D at_61) rfl (flt (by decide : ¬ ((2 : Int32) < (2 : Int32)))).1 ?_
      refine XS.aload X25.here hx rfl (D at_64) rfl rfl ?_
      refine XS.bipush X25.here hx rfl (D at_66) ?_
      refine st64 _ ?_
      refine XS.iload X64.here hx rfl (D at_71) rfl ?_
      refine st65 _ ?_
      refine st90 _ ?_
      refine XS.pop X90.here hx rfl (D at_81) rfl rfl ?_
      refine XS.iload X90.here hx rfl (D at_82) rfl ?_
      refine XS.iconst X90.here hx rfl (D at_84) ?_
      refine XS.icmpYes X90.here hx rfl (pc0 := 85) (pc' := 106) rfl (D at_85) rfl (tlt (by decide : ((2 : Int32) < (3 : Int32)))).1 (by decide) (by decide) ?_
      refine XS.iload X90.here hx rfl (D at_106) rfl ?_
      refine XS.iconst X90.here hx rfl (D at_108) ?_
      refine XS.icmpYes X90.here hx rfl (pc0 := 109) (pc' := 117) rfl (D at_109) rfl (feq (by decide : ¬ ((2 : Int32) = (1 : Int32)))).2 (by decide) (by decide) ?_
      refine XS.iload X90.here hx rfl (D at_117) rfl ?_
      refine XS.iconst X90.here hx rfl (D at_119) ?_
      refine XS.icmpNo X90.here hx rfl (D at_120) rfl (teq (by decide : ((2 : Int32) = (2 : Int32)))).2 ?_
      refine XS.iload X90.here hx rfl (D at_123) rfl ?_
      refine XS.iload X90.here hx rfl (D at_125) rfl ?_
      refine XS.iadd X90.here hx rfl (D at_127) rfl ?_
      refine XS.goto X90.here hx rfl (pc0 := 128) (pc' := 139) rfl (D at_128) (by decide) (by decide) ?_
      refine XS.istore X90.here hx rfl (D at_139) rfl (l' := #[vi x0, vi x1, vi x2, vi x3, vi x4, vi 2, vi va, vi vb, vi vc, vr b5, vi (va + vb), un, un, un]) rfl ?_
      refine XS.iload X90.here hx rfl (D at_141) rfl ?_
      refine X90.ldcInt hx hown (mvT hZ (w_ hw 0 rfl)) (g := (mkF m 143 #[vi x0, vi x1, vi x2, vi x3, vi x4, vi 2, vi va, vi vb, vi vc, vr b5, vi (va + vb), un, un, un] [(.int x4)])) rfl (D at_143) _ ?_
      show SA p e below T90 m 145 #[vi x0, vi x1, vi x2, vi x3, vi x4, vi 2, vi va, vi vb, vi vc, vr b5, vi (va + vb), un, un, un] [(.int 2147483647), (.int x4)] _
      refine XS.iand X90.here hx rfl (D at_145) rfl ?_
      refine XS.iload X90.here hx rfl (D at_146) rfl ?_
      refine iremM X90 hx rfl (D at_148) rfl (nz2 ha hbb) ?_
      exact kk)
    obtain ⟨vs, evs⟩ : ∃ z, z = ((x4 &&& (2147483647 : Int32)) % (va + vb)) := ⟨_, rfl⟩
    rw [← evs] at pre91
    have hs := (evs ▸ sm x4 _ (pos2 ha hbb) : ¬ vs < 0 ∧ vs < (va + vb))
    obtain ⟨T92, h92, X92, e92, E92, A92, D92, -, st92⟩ := newO X90 hx hZ hown (w_ hw 213 rfl) (w_ hw 214 rfl) (w_ hw 215 rfl) e90 (g := (mkF m 151 #[vi x0, vi x1, vi x2, vi x3, vi x4, vi 2, vi va, vi vb, vi vc, vr b5, vi (va + vb), vi vs, un, un] [])) rfl (D at_151) (by decide) (by decide)
    obtain ⟨b92, g92⟩ : ∃ z, z = h90.size := ⟨_, rfl⟩
    rw [← g92] at A92 D92 st92
    have z92 : h0.size ≤ b92 := Nat.le_trans k90.1 (Nat.le_of_eq g92.symm)
    have k92 := k90.ext E92
    have F92_226 : P23 Z h92 b92 .null := D92 (Or.inr (w_ hw 226 rfl)) (ty := (.object "java/util/Map")) (by decide)
    have F92_386 : P24 Z h92 b92 .null := D92 (Or.inr (w_ hw 386 rfl)) (ty := (.array .boolean)) (by decide)
    have F92_416 : P25 Z h92 b92 .null := D92 (Or.inr (w_ hw 416 rfl)) (ty := (.array .int)) (by decide)
    have F92_430 : P26 Z h92 b92 .null := D92 (Or.inr (w_ hw 430 rfl)) (ty := (.array .int)) (by decide)
    have F92_432 : P27 Z h92 b92 .null := D92 (Or.inr (w_ hw 432 rfl)) (ty := (.array .int)) (by decide)
    have F92_434 : P28 Z h92 b92 .null := D92 (Or.inr (w_ hw 434 rfl)) (ty := (.array .int)) (by decide)
    obtain ⟨T93, h93, X93, e93, E93, A93, D93, -, st93⟩ := newO X92 hx hZ hown (w_ hw 57 rfl) (w_ hw 58 rfl) (w_ hw 59 rfl) e92 (g := (mkF m 157 #[vi x0, vi x1, vi x2, vi x3, vi x4, vi 2, vi va, vi vb, vi vc, vr b5, vi (va + vb), vi vs, un, un] [(.ref b5), (.ref b92), (.ref b92)])) rfl (D at_157) (by decide) (by decide)
    obtain ⟨b93, g93⟩ : ∃ z, z = h92.size := ⟨_, rfl⟩
    rw [← g93] at A93 D93 st93
    have z93 : h0.size ≤ b93 := Nat.le_trans k92.1 (Nat.le_of_eq g93.symm)
    have k93 := k92.ext E93
    have F93_77 : P14 Z h93 b93 (.int 0) := D93 (Or.inl (w_ hw 77 rfl)) (ty := .int) (by decide)
    have F93_80 : P15 Z h93 b93 .null := D93 (Or.inl (w_ hw 80 rfl)) (ty := (.array (.object "java/lang/Object"))) (by decide)
    have F93_93 : P16 Z h93 b93 (.int 0) := D93 (Or.inl (w_ hw 93 rfl)) (ty := .int) (by decide)
    obtain ⟨v94, T94, L94, X94, Q94, st94⟩ := kI X93 hx hZ hown (t10 hw SB0 b93 (O0.keep k93 hws) A93 F93_77 F93_80 F93_93 (Nat.le_trans Z0 z93)) rfl (w_ hw 60 rfl) (w_ hw 61 rfl) (w_ hw 59 rfl) (w_ hw 62 rfl) e93 (g := (mkF m 161 #[vi x0, vi x1, vi x2, vi x3, vi x4, vi 2, vi va, vi vb, vi vc, vr b5, vi (va + vb), vi vs, un, un] [(.ref b93), (.ref b93), (.ref b5), (.ref b92), (.ref b92)])) rfl hml rfl (argsL := []) (rest := [(.ref b93), (.ref b5), (.ref b92), (.ref b92)]) (lenOf pd0 rfl) rfl rfl (W := 4) rfl (D at_161)
    obtain ⟨h94, e94⟩ : ∃ z, T94.heap = z := ⟨_, rfl⟩
    rw [e94] at Q94
    obtain ⟨rfl, M94, K94, F94_0, F94_1, F94_2⟩ := Q94
    have N94 := N90.app M94
    have k94 := k93.trans K94 (allS (Or.inr z93) all0)
    have f95 := ((A92.ext E93).keep K94)
    have f97 := (A93.keep K94)
    have ne96 : b92 ≠ b93 := Exa.ne f95 f97 (by decide)
    have f98 := ((F92_226.ext E93).keep K94 (ninS ne96 nin0))
    have f99 := ((F92_386.ext E93).keep K94 (ninS ne96 nin0))
    have f100 := ((F92_416.ext E93).keep K94 (ninS ne96 nin0))
    have f101 := ((F92_430.ext E93).keep K94 (ninS ne96 nin0))
    have f102 := ((F92_432.ext E93).keep K94 (ninS ne96 nin0))
    have f103 := ((F92_434.ext E93).keep K94 (ninS ne96 nin0))
    have f104 := ((((f72.keep K90).ext E92).ext E93).keep K94)
    have ne105 : b5 ≠ b93 := Exa.ne f104 f97 (by decide)
    have f106 := (((F90_12.ext E92).ext E93).keep K94 (ninS ne105 nin0))
    have f107 := (((F90_9.ext E92).ext E93).keep K94 (ninS ne105 nin0))
    have f108 := (((F90_10.ext E92).ext E93).keep K94 (ninS ne105 nin0))
    have f110 := ((((f83.keep K90).ext E92).ext E93).keep K94)
    have ne109 : b25_0 ≠ b93 := Exa.ne f110 f97 (by decide)
    have f111 := (((F90_16.ext E92).ext E93).keep K94 (ninS ne109 nin0))
    have f112 := (((F90_14.ext E92).ext E93).keep K94 (ninS ne109 nin0))
    have f113 := (((((((f9.keep K25).keep K64).keep K65).keep K90).ext E92).ext E93).keep K94)
    have f115 := ((((f89.keep K90).ext E92).ext E93).keep K94)
    have ne114 : b7_0 ≠ b25_1 := Exa.ne f113 f115 (by decide)
    have ne116 : b7_0 ≠ b25_0 := Exa.ne f113 f110 (by decide)
    have ne117 : b7_0 ≠ b5 := Exa.ne f113 f104 (by decide)
    have ne118 : b7_0 ≠ b64_0 := Nat.ne_of_lt (Nat.lt_of_lt_of_le (f9.keep K25).lt y64_0)
    have ne119 : b7_0 ≠ b93 := Exa.ne f113 f97 (by decide)
    have f120 := ((((((F25_0.keep K64 nin0).keep K65 nin0).keep K90 (ninS ne118 (ninS ne117 (ninS ne116 (ninS ne114 nin0))))).ext E92).ext E93).keep K94 (ninS ne119 nin0))
    have f121 := (((F90_15.ext E92).ext E93).keep K94 (ninS ne109 nin0))
    have f122 := (((((((F8_0.keep K25).keep K64).keep K65).keep K90).ext E92).ext E93).keep K94)
    have ne123 : b8_0 ≠ b5 := Exa.ne f122 f104 (by decide)
    have ne124 : b8_0 ≠ b7_0 := Exa.ne f122 f113 (by decide)
    have ne125 : b8_0 ≠ b25_1 := Exa.ne f122 f115 (by decide)
    have ne126 : b8_0 ≠ b25_0 := Exa.ne f122 f110 (by decide)
    have f128 := ((((f66.keep K90).ext E92).ext E93).keep K94)
    have ne127 : b8_0 ≠ b64_0 := Exa.ne f122 f128 (by decide)
    have ne129 : b8_0 ≠ b93 := Nat.ne_of_lt (Nat.lt_of_lt_of_le (((((F8_0.keep K25).keep K64).keep K65).keep K90).ext E92).lt (Nat.le_of_eq g93.symm))
    have f130 := (((((((F8_1.keep K25 (ninS ne124 (ninS ne123 nin0))).keep K64 nin0).keep K65 nin0).keep K90 (ninS ne127 (ninS ne123 (ninS ne126 (ninS ne125 nin0))))).ext E92).ext E93).keep K94 (ninS ne129 nin0))
    have f132 := (((F90_19.ext E92).ext E93).keep K94)
    have ne131 : b90_0 ≠ b93 := Exa.ne f132 f97 (by decide)
    have f133 := (((F90_23.ext E92).ext E93).keep K94 (ninS ne131 nin0))
    have f134 := (((F90_21.ext E92).ext E93).keep K94 (ninS ne131 nin0))
    have ne135 : b64_0 ≠ b93 := Exa.ne f128 f97 (by decide)
    have f136 := (((F90_0.ext E92).ext E93).keep K94 (ninS ne135 nin0))
    have f137 := (((F90_22.ext E92).ext E93).keep K94 (ninS ne131 nin0))
    have f138 := ((((F65_0.keep K90).ext E92).ext E93).keep K94)
    have ne139 : b65_0 ≠ b25_1 := Exa.ne f138 f115 (by decide)
    have ne140 : b65_0 ≠ b25_0 := Exa.ne f138 f110 (by decide)
    have ne141 : b65_0 ≠ b5 := Exa.ne f138 f104 (by decide)
    have ne142 : b65_0 ≠ b64_0 := Exa.ne f138 f128 (by decide)
    have ne143 : b65_0 ≠ b93 := Nat.ne_of_lt (Nat.lt_of_lt_of_le ((F65_0.keep K90).ext E92).lt (Nat.le_of_eq g93.symm))
    have f144 := ((((F65_1.keep K90 (ninS ne142 (ninS ne141 (ninS ne140 (ninS ne139 nin0))))).ext E92).ext E93).keep K94 (ninS ne143 nin0))
    obtain ⟨v145, T145, L145, X145, Q145, st145⟩ := kI X94 hx hZ hown (t99 hw SB0 b92 b5 b93 b25_0 b90_0 b7_0 b8_0 va b64_0 b65_0 vb (O0.keep k94 hws) f95 f98 f99 f100 f101 f102 f103 f104 f106 f107 f108 f111 f110 f112 f113 f120 f121 f122 f130 f133 f132 f134 f128 ha f136 f137 f138 f144 hbb f97 F94_2 (Nat.le_trans Z0 z92) (Nat.le_trans Z0 z5)) rfl (w_ hw 216 rfl) (w_ hw 217 rfl) (w_ hw 215 rfl) (w_ hw 218 rfl) e94 (g := (mkF m 164 #[vi x0, vi x1, vi x2, vi x3, vi x4, vi 2, vi va, vi vb, vi vc, vr b5, vi (va + vb), vi vs, un, un] [(.ref b93), (.ref b5), (.ref b92), (.ref b92)])) rfl hml rfl (argsL := [(.ref b5), (.ref b93)]) (rest := [(.ref b92)]) (lenOf pd34 rfl) rfl rfl (W := 1) rfl (D at_164)
    obtain ⟨h145, e145⟩ : ∃ z, T145.heap = z := ⟨_, rfl⟩
    rw [e145] at Q145
    obtain ⟨b145_0, rfl, M145, K145, y145_0, F145_0, F145_1, F145_2⟩ := Q145
    have N145 := N94.app M145
    have z145_b145_0 := Nat.le_trans k94.1 y145_0
    have k145 := k94.trans K145 (allS (Or.inr z92) (allS (Or.inr z5) all0))
    have pre146 : ∀ t, SA p e below T145 m 169 #[vi x0, vi x1, vi x2, vi x3, vi x4, vi 2, vi va, vi vb, vi vc, vr b5, vi (va + vb), vi vs, vr b92, un] [] t → Steps p.tables e below E0 t := fun tt kk => pre91 tt (by
      show SA p e below T90 m 149 #[vi x0, vi x1, vi x2, vi x3, vi x4, vi 2, vi va, vi vb, vi vc, vr b5, vi (va + vb), un, un, un] [(.int vs)] _
      refine XS.istore X90.here hx rfl (D at_149) rfl (l' := #[vi x0, vi x1, vi x2, vi x3, vi x4, vi 2, vi va, vi vb, vi vc, vr b5, vi (va + vb), vi vs, un, un]) rfl ?_
      refine st92 _ ?_
      refine XS.dup X92.here hx rfl (D at_154) rfl rfl ?_
      refine XS.aload X92.here hx rfl (D at_155) rfl rfl ?_
      refine st93 _ ?_
      refine XS.dup X93.here hx rfl (D at_160) rfl rfl ?_
      refine st94 _ ?_
      refine st145 _ ?_
      refine XS.astore X145.here hx rfl (D at_167) rfl rfl (l' := #[vi x0, vi x1, vi x2, vi x3, vi x4, vi 2, vi va, vi vb, vi vc, vr b5, vi (va + vb), vi vs, vr b92, un]) rfl ?_
      exact kk)
    by_cases hs0 : vs = (0 : Int32)
    · have f147 := (f95.keep K145)
      obtain ⟨v148, T148, L148, X148, Q148, st148⟩ := kV (y := y65) (z := y65) X145 hx hZ hown (t71 hw SB0 b92 vs (O0.keep k145 hws) hs0) f147 (nf_of (x := y65) (y' := y65) (args := #[]) (mvT hZ (w_ hw 438 rfl)) rfl) (w_ hw 435 rfl) (w_ hw 436 rfl) (w_ hw 438 rfl) (w_ hw 437 rfl) (w_ hw 215 rfl) (w_ hw 439 rfl) e145 (g := (mkF m 214 #[vi x0, vi x1, vi x2, vi x3, vi x4, vi 2, vi va, vi vb, vi vc, vr b5, vi (va + vb), vi vs, vr b92, vi 1] [(.int vs), (.ref b92)])) rfl hml rfl (argsL := [(.int vs)]) (rest := []) (lenOf pd35 rfl) rfl rfl (W := 0) rfl (D at_214)
      obtain ⟨rfl, M148, e148⟩ := Q148
      have N148 := N145.app M148
      refine ⟨some (.int 1), T148, _, _, _, X148, (fun hh => absurd hh (by decide)), (by rw [e148]; exact ⟨rfl, N148⟩), (by decide), (by decide), fun fs hr => pre146 _ ?_⟩
      show SA p e below T145 m 169 #[vi x0, vi x1, vi x2, vi x3, vi x4, vi 2, vi va, vi vb, vi vc, vr b5, vi (va + vb), vi vs, vr b92, un] [] _
      refine XS.iload X145.here hx rfl (D at_169) rfl ?_
      refine XS.ifYes X145.here hx rfl (pc0 := 171) (pc' := 203) rfl (D at_171) rfl ((if0 _ _).trans (teq hs0).1) (by decide) (by decide) ?_
      refine XS.iconst X145.here hx rfl (D at_203) ?_
      refine XS.goto X145.here hx rfl (pc0 := 204) (pc' := 208) rfl (D at_204) (by decide) (by decide) ?_
      refine XS.istore X145.here hx rfl (D at_208) rfl (l' := #[vi x0, vi x1, vi x2, vi x3, vi x4, vi 2, vi va, vi vb, vi vc, vr b5, vi (va + vb), vi vs, vr b92, vi 1]) rfl ?_
      refine XS.aload X145.here hx rfl (D at_210) rfl rfl ?_
      refine XS.iload X145.here hx rfl (D at_212) rfl ?_
      refine st148 _ ?_
      refine XS.iload X148.here hx rfl (D at_217) rfl ?_
      refine XS.icmpNo X148.here hx rfl (D at_219) rfl (teq (by decide : ((1 : Int32) = (1 : Int32)))).2 ?_
      refine XS.iconst X148.here hx rfl (D at_222) ?_
      refine XS.goto X148.here hx rfl (pc0 := 223) (pc' := 227) rfl (D at_223) (by decide) (by decide) ?_
      show SA p e below T148 m 227 #[vi x0, vi x1, vi x2, vi x3, vi x4, vi 2, vi va, vi vb, vi vc, vr b5, vi (va + vb), vi vs, vr b92, vi 1] [(.int 1)] _
      exact retN X148 hx (t := .boolean) hrt (by simp) (D at_227) hr
    by_cases hs1 : vs = va
    · have hj := fk2 ha hbb hs.1 hs.2 hs0
      have hel := hj.2.2.trans (if_pos hs1)
      have f149 := (f95.keep K145)
      obtain ⟨v150, T150, L150, X150, Q150, st150⟩ := kV (y := y65) (z := y65) X145 hx hZ hown (t101 hw SB0 b92 vs b145_0 (((0 : Int32) + va) + vb) (up (up (fun _ => 0) (((0 : Int32) + va) - (1 : Int32)) (1 : Int32)) ((((0 : Int32) + va) + vb) - (1 : Int32)) (1 : Int32)) (O0.keep k145 hws) hs0 f149 F145_0 F145_2 hj.1 hj.2.1 hel) f149 (nf_of (x := y65) (y' := y65) (args := #[]) (mvT hZ (w_ hw 438 rfl)) rfl) (w_ hw 435 rfl) (w_ hw 436 rfl) (w_ hw 438 rfl) (w_ hw 437 rfl) (w_ hw 215 rfl) (w_ hw 439 rfl) e145 (g := (mkF m 214 #[vi x0, vi x1, vi x2, vi x3, vi x4, vi 2, vi va, vi vb, vi vc, vr b5, vi (va + vb), vi vs, vr b92, vi 1] [(.int vs), (.ref b92)])) rfl hml rfl (argsL := [(.int vs)]) (rest := []) (lenOf pd35 rfl) rfl rfl (W := 0) rfl (D at_214)
      obtain ⟨rfl, M150, e150⟩ := Q150
      have N150 := N145.app M150
      refine ⟨some (.int 1), T150, _, _, _, X150, (fun hh => absurd hh (by decide)), (by rw [e150]; exact ⟨rfl, N150⟩), (by decide), (by decide), fun fs hr => pre146 _ ?_⟩
      show SA p e below T145 m 169 #[vi x0, vi x1, vi x2, vi x3, vi x4, vi 2, vi va, vi vb, vi vc, vr b5, vi (va + vb), vi vs, vr b92, un] [] _
      refine XS.iload X145.here hx rfl (D at_169) rfl ?_
      refine XS.ifNo X145.here hx rfl (D at_171) rfl ((if0 _ _).trans (feq hs0).1) ?_
      refine XS.iload X145.here hx rfl (D at_174) rfl ?_
      refine XS.iconst X145.here hx rfl (D at_176) ?_
      refine XS.icmpNo X145.here hx rfl (D at_177) rfl (flt (by decide : ¬ ((2 : Int32) < (2 : Int32)))).1 ?_
      refine XS.iload X145.here hx rfl (D at_180) rfl ?_
      refine XS.iload X145.here hx rfl (D at_182) rfl ?_
      refine XS.icmpYes X145.here hx rfl (pc0 := 184) (pc' := 203) rfl (D at_184) rfl (teq hs1).1 (by decide) (by decide) ?_
      refine XS.iconst X145.here hx rfl (D at_203) ?_
      refine XS.goto X145.here hx rfl (pc0 := 204) (pc' := 208) rfl (D at_204) (by decide) (by decide) ?_
      refine XS.istore X145.here hx rfl (D at_208) rfl (l' := #[vi x0, vi x1, vi x2, vi x3, vi x4, vi 2, vi va, vi vb, vi vc, vr b5, vi (va + vb), vi vs, vr b92, vi 1]) rfl ?_
      refine XS.aload X145.here hx rfl (D at_210) rfl rfl ?_
      refine XS.iload X145.here hx rfl (D at_212) rfl ?_
      refine st150 _ ?_
      refine XS.iload X150.here hx rfl (D at_217) rfl ?_
      refine XS.icmpNo X150.here hx rfl (D at_219) rfl (teq (by decide : ((1 : Int32) = (1 : Int32)))).2 ?_
      refine XS.iconst X150.here hx rfl (D at_222) ?_
      refine XS.goto X150.here hx rfl (pc0 := 223) (pc' := 227) rfl (D at_223) (by decide) (by decide) ?_
      show SA p e below T150 m 227 #[vi x0, vi x1, vi x2, vi x3, vi x4, vi 2, vi va, vi vb, vi vc, vr b5, vi (va + vb), vi vs, vr b92, vi 1] [(.int 1)] _
      exact retN X150 hx (t := .boolean) hrt (by simp) (D at_227) hr
    have hj := fk2 ha hbb hs.1 hs.2 hs0
    have hel := hj.2.2.trans (if_neg hs1)
    have f151 := (f95.keep K145)
    obtain ⟨v152, T152, L152, X152, Q152, st152⟩ := kV (y := y65) (z := y65) X145 hx hZ hown (t73 hw SB0 b92 vs b145_0 (((0 : Int32) + va) + vb) (up (up (fun _ => 0) (((0 : Int32) + va) - (1 : Int32)) (1 : Int32)) ((((0 : Int32) + va) + vb) - (1 : Int32)) (1 : Int32)) (O0.keep k145 hws) hs0 f151 F145_0 F145_2 hj.1 hj.2.1 hel) f151 (nf_of (x := y65) (y' := y65) (args := #[]) (mvT hZ (w_ hw 438 rfl)) rfl) (w_ hw 435 rfl) (w_ hw 436 rfl) (w_ hw 438 rfl) (w_ hw 437 rfl) (w_ hw 215 rfl) (w_ hw 439 rfl) e145 (g := (mkF m 214 #[vi x0, vi x1, vi x2, vi x3, vi x4, vi 2, vi va, vi vb, vi vc, vr b5, vi (va + vb), vi vs, vr b92, vi 0] [(.int vs), (.ref b92)])) rfl hml rfl (argsL := [(.int vs)]) (rest := []) (lenOf pd35 rfl) rfl rfl (W := 0) rfl (D at_214)
    obtain ⟨rfl, M152, e152⟩ := Q152
    have N152 := N145.app M152
    refine ⟨some (.int 1), T152, _, _, _, X152, (fun hh => absurd hh (by decide)), (by rw [e152]; exact ⟨rfl, N152⟩), (by decide), (by decide), fun fs hr => pre146 _ ?_⟩
    show SA p e below T145 m 169 #[vi x0, vi x1, vi x2, vi x3, vi x4, vi 2, vi va, vi vb, vi vc, vr b5, vi (va + vb), vi vs, vr b92, un] [] _
    refine XS.iload X145.here hx rfl (D at_169) rfl ?_
    refine XS.ifNo X145.here hx rfl (D at_171) rfl ((if0 _ _).trans (feq hs0).1) ?_
    refine XS.iload X145.here hx rfl (D at_174) rfl ?_
    refine XS.iconst X145.here hx rfl (D at_176) ?_
    refine XS.icmpNo X145.here hx rfl (D at_177) rfl (flt (by decide : ¬ ((2 : Int32) < (2 : Int32)))).1 ?_
    refine XS.iload X145.here hx rfl (D at_180) rfl ?_
    refine XS.iload X145.here hx rfl (D at_182) rfl ?_
    refine XS.icmpNo X145.here hx rfl (D at_184) rfl (feq hs1).1 ?_
    refine XS.iload X145.here hx rfl (D at_187) rfl ?_
    refine XS.iconst X145.here hx rfl (D at_189) ?_
    refine XS.icmpYes X145.here hx rfl (pc0 := 190) (pc' := 207) rfl (D at_190) rfl (tlt (by decide : ((2 : Int32) < (3 : Int32)))).1 (by decide) (by decide) ?_
    refine XS.iconst X145.here hx rfl (D at_207) ?_
    refine XS.istore X145.here hx rfl (D at_208) rfl (l' := #[vi x0, vi x1, vi x2, vi x3, vi x4, vi 2, vi va, vi vb, vi vc, vr b5, vi (va + vb), vi vs, vr b92, vi 0]) rfl ?_
    refine XS.aload X145.here hx rfl (D at_210) rfl rfl ?_
    refine XS.iload X145.here hx rfl (D at_212) rfl ?_
    refine st152 _ ?_
    refine XS.iload X152.here hx rfl (D at_217) rfl ?_
    refine XS.icmpNo X152.here hx rfl (D at_219) rfl (teq (by decide : ((0 : Int32) = (0 : Int32)))).2 ?_
    refine XS.iconst X152.here hx rfl (D at_222) ?_
    refine XS.goto X152.here hx rfl (pc0 := 223) (pc' := 227) rfl (D at_223) (by decide) (by decide) ?_
    show SA p e below T152 m 227 #[vi x0, vi x1, vi x2, vi x3, vi x4, vi 2, vi va, vi vb, vi vc, vr b5, vi (va + vb), vi vs, vr b92, vi 0] [(.int 1)] _
    exact retN X152 hx (t := .boolean) hrt (by simp) (D at_227) hr
  · rw [hn] at pre26
    obtain ⟨v153, T153, L153, X153, Q153, st153⟩ := kS X25 hx hZ hown (t76 hw SB0  (O0.keep k25 hws) ) (w_ hw 29 rfl) (w_ hw 30 rfl) (w_ hw 31 rfl) (w_ hw 32 rfl) e25 (g := (mkF m 68 #[vi x0, vi x1, vi x2, vi x3, vi x4, vi 3, vi va, vi vb, vi vc, vr b5, un, un, un, un] [(.int 98), (.ref b5)])) rfl hml rfl (argsL := [(.int 98)]) (rest := [(.ref b5)]) (lenOf pd4 rfl) rfl rfl (W := 1) rfl (D at_68)
    obtain ⟨h153, e153⟩ : ∃ z, T153.heap = z := ⟨_, rfl⟩
    rw [e153] at Q153
    obtain ⟨b153_0, b153_1, c153_2, rfl, M153, K153, y153_0, y153_1, F153_0, F153_1, F153_2, F153_3, F153_4, F153_5, F153_6⟩ := Q153
    have N153 := N25.app M153
    have z153_b153_0 := Nat.le_trans k25.1 y153_0
    have z153_b153_1 := Nat.le_trans k25.1 y153_1
    have k153 := k25.trans K153 all0
    obtain ⟨v154, T154, L154, X154, Q154, st154⟩ := kS X153 hx hZ hown (tst hw SB0 vb (O0.keep k153 hws) hbb) (w_ hw 53 rfl) (w_ hw 54 rfl) (w_ hw 55 rfl) (w_ hw 56 rfl) e153 (g := (mkF m 73 #[vi x0, vi x1, vi x2, vi x3, vi x4, vi 3, vi va, vi vb, vi vc, vr b5, un, un, un, un] [(.int vb), (.ref b153_0), (.ref b5)])) rfl hml rfl (argsL := [(.int vb)]) (rest := [(.ref b153_0), (.ref b5)]) (lenOf pd10 rfl) rfl rfl (W := 2) rfl (D at_73)
    obtain ⟨h154, e154⟩ : ∃ z, T154.heap = z := ⟨_, rfl⟩
    rw [e154] at Q154
    obtain ⟨b154_0, rfl, M154, K154, y154_0, F154_0, F154_1⟩ := Q154
    have N154 := N153.app M154
    have z154_b154_0 := Nat.le_trans k153.1 y154_0
    have k154 := k153.trans K154 all0
    have f155 := (F153_0.keep K154)
    have f156 := (F153_3.keep K154 nin0)
    have f157 := (F153_4.keep K154 nin0)
    have f158 := (F153_2.keep K154 nin0)
    have f159 := (F153_1.keep K154 nin0)
    have f160 := (F153_6.keep K154 nin0)
    have f161 := (((f15.keep K25).keep K153).keep K154)
    have f162 := ((F25_6.keep K153 nin0).keep K154 nin0)
    have f163 := ((F25_20.keep K153 nin0).keep K154 nin0)
    have f164 := ((F25_4.keep K153 nin0).keep K154 nin0)
    have f165 := ((F25_5.keep K153 nin0).keep K154 nin0)
    have f166 := ((F25_7.keep K153 nin0).keep K154 nin0)
    have f167 := ((F25_8.keep K153 nin0).keep K154 nin0)
    have f168 := ((F25_9.keep K153 nin0).keep K154 nin0)
    have f169 := ((F25_10.keep K153 nin0).keep K154 nin0)
    have f170 := ((F25_11.keep K153 nin0).keep K154 nin0)
    have f171 := ((F25_12.keep K153 nin0).keep K154 nin0)
    have f172 := ((F25_13.keep K153).keep K154)
    have f173 := ((F25_14.keep K153 nin0).keep K154 nin0)
    have f174 := ((F25_15.keep K153 nin0).keep K154 nin0)
    have f175 := ((F25_16.keep K153 nin0).keep K154 nin0)
    have f176 := ((F25_17.keep K153 nin0).keep K154 nin0)
    have f177 := ((F25_18.keep K153 nin0).keep K154 nin0)
    have f178 := ((F25_19.keep K153).keep K154)
    obtain ⟨v179, T179, L179, X179, Q179, st179⟩ := kG X154 hx hZ hown (t83 hw SB0 b5 b153_0 b154_0 b153_1 c153_2 b25_1 b25_0 c25_2 b7_0 b8_0 (O0.keep k154 hws) f155 f156 f157 f158 f159 f160 f161 f162 f163 f164 f165 f166 f167 f168 f169 f170 f171 f172 f173 f174 f175 f176 f177 f178 F25_21 (Nat.le_trans Z0 z153_b153_0) (Nat.le_trans Z0 z5) (Nat.le_trans Z0 z25_b25_0) (Nat.le_trans Z0 z25_b25_1)) f161 (w_ hw 115 rfl) (mvT hZ (w_ hw 117 rfl)) (iw1 hw) e154 (g := (mkF m 76 #[vi x0, vi x1, vi x2, vi x3, vi x4, vi 3, vi va, vi vb, vi vc, vr b5, un, un, un, un] [(.ref b154_0), (.ref b153_0), (.ref b5)])) rfl hml rfl (argsL := [(.ref b153_0), (.ref b154_0)]) (rest := []) (lenOf pd22 rfl) rfl rfl (W := 0) rfl (D at_76)
    obtain ⟨h179, e179⟩ : ∃ z, T179.heap = z := ⟨_, rfl⟩
    rw [e179] at Q179
    obtain ⟨b179_0, rfl, M179, K179, y179_0, F179_0, F179_1, F179_2, F179_3, F179_4, F179_5, F179_6, F179_7, F179_8, F179_9, F179_10, F179_11, F179_12, F179_13, F179_14, F179_15, F179_16, F179_17, F179_18, F179_19, F179_20, F179_21, F179_22, F179_23⟩ := Q179
    have N179 := N154.app M179
    have z179_b179_0 := Nat.le_trans k154.1 y179_0
    have k179 := k154.trans K179 (allS (Or.inr z153_b153_0) (allS (Or.inr z5) (allS (Or.inr z25_b25_0) (allS (Or.inr z25_b25_1) all0))))
    obtain ⟨v180, T180, L180, X180, Q180, st180⟩ := kS X179 hx hZ hown (t104 hw SB0  (O0.keep k179 hws) ) (w_ hw 29 rfl) (w_ hw 30 rfl) (w_ hw 31 rfl) (w_ hw 32 rfl) e179 (g := (mkF m 92 #[vi x0, vi x1, vi x2, vi x3, vi x4, vi 3, vi va, vi vb, vi vc, vr b5, un, un, un, un] [(.int 99), (.ref b5)])) rfl hml rfl (argsL := [(.int 99)]) (rest := [(.ref b5)]) (lenOf pd4 rfl) rfl rfl (W := 1) rfl (D at_92)
    obtain ⟨h180, e180⟩ : ∃ z, T180.heap = z := ⟨_, rfl⟩
    rw [e180] at Q180
    obtain ⟨b180_0, b180_1, c180_2, rfl, M180, K180, y180_0, y180_1, F180_0, F180_1, F180_2, F180_3, F180_4, F180_5, F180_6⟩ := Q180
    have N180 := N179.app M180
    have z180_b180_0 := Nat.le_trans k179.1 y180_0
    have z180_b180_1 := Nat.le_trans k179.1 y180_1
    have k180 := k179.trans K180 all0
    obtain ⟨v181, T181, L181, X181, Q181, st181⟩ := kS X180 hx hZ hown (tst hw SB0 vc (O0.keep k180 hws) hcc) (w_ hw 53 rfl) (w_ hw 54 rfl) (w_ hw 55 rfl) (w_ hw 56 rfl) e180 (g := (mkF m 97 #[vi x0, vi x1, vi x2, vi x3, vi x4, vi 3, vi va, vi vb, vi vc, vr b5, un, un, un, un] [(.int vc), (.ref b180_0), (.ref b5)])) rfl hml rfl (argsL := [(.int vc)]) (rest := [(.ref b180_0), (.ref b5)]) (lenOf pd10 rfl) rfl rfl (W := 2) rfl (D at_97)
    obtain ⟨h181, e181⟩ : ∃ z, T181.heap = z := ⟨_, rfl⟩
    rw [e181] at Q181
    obtain ⟨b181_0, rfl, M181, K181, y181_0, F181_0, F181_1⟩ := Q181
    have N181 := N180.app M181
    have z181_b181_0 := Nat.le_trans k180.1 y181_0
    have k181 := k180.trans K181 all0
    have f182 := (F180_0.keep K181)
    have f183 := (F180_3.keep K181 nin0)
    have f184 := (F180_4.keep K181 nin0)
    have f185 := (F180_2.keep K181 nin0)
    have f186 := (F180_1.keep K181 nin0)
    have f187 := (F180_6.keep K181 nin0)
    have f188 := (((f161.keep K179).keep K180).keep K181)
    have f189 := ((F179_6.keep K180 nin0).keep K181 nin0)
    have f190 := ((F179_18.keep K180 nin0).keep K181 nin0)
    have f191 := ((F179_4.keep K180 nin0).keep K181 nin0)
    have f192 := ((F179_5.keep K180 nin0).keep K181 nin0)
    have f193 := ((F179_7.keep K180 nin0).keep K181 nin0)
    have f194 := ((F179_8.keep K180 nin0).keep K181 nin0)
    have f195 := ((F179_9.keep K180 nin0).keep K181 nin0)
    have f196 := ((F179_10.keep K180 nin0).keep K181 nin0)
    have f197 := ((F179_11.keep K180 nin0).keep K181 nin0)
    have f198 := ((F179_12.keep K180 nin0).keep K181 nin0)
    have f199 := ((F179_19.keep K180).keep K181)
    have f200 := ((F179_20.keep K180 nin0).keep K181 nin0)
    have f201 := ((F179_21.keep K180 nin0).keep K181 nin0)
    have f202 := ((F179_22.keep K180 nin0).keep K181 nin0)
    have f203 := ((F179_23.keep K180 nin0).keep K181 nin0)
    have f204 := (((f178.keep K179).keep K180).keep K181)
    obtain ⟨v205, T205, L205, X205, Q205, st205⟩ := kG X181 hx hZ hown (t111 hw SB0 b5 b180_0 b181_0 b180_1 c180_2 b25_1 b25_0 b179_0 c25_2 b153_0 b154_0 (O0.keep k181 hws) f182 f183 f184 f185 f186 f187 f188 f189 f190 f191 f192 f193 f194 f195 f196 f197 f198 f199 f200 f201 f202 f203 f204 F25_21 (Nat.le_trans Z0 z180_b180_0) (Nat.le_trans Z0 z5) (Nat.le_trans Z0 z179_b179_0) (Nat.le_trans Z0 z25_b25_1)) f188 (w_ hw 115 rfl) (mvT hZ (w_ hw 117 rfl)) (iw1 hw) e181 (g := (mkF m 100 #[vi x0, vi x1, vi x2, vi x3, vi x4, vi 3, vi va, vi vb, vi vc, vr b5, un, un, un, un] [(.ref b181_0), (.ref b180_0), (.ref b5)])) rfl hml rfl (argsL := [(.ref b180_0), (.ref b181_0)]) (rest := []) (lenOf pd22 rfl) rfl rfl (W := 0) rfl (D at_100)
    obtain ⟨h205, e205⟩ : ∃ z, T205.heap = z := ⟨_, rfl⟩
    rw [e205] at Q205
    obtain ⟨b205_0, rfl, M205, K205, y205_0, F205_0, F205_1, F205_2, F205_3, F205_4, F205_5, F205_6, F205_7, F205_8, F205_9, F205_10, F205_11, F205_12, F205_13, F205_14, F205_15, F205_16, F205_17, F205_18, F205_19, F205_20, F205_21, F205_22⟩ := Q205
    have N205 := N181.app M205
    have z205_b205_0 := Nat.le_trans k181.1 y205_0
    have k205 := k181.trans K205 (allS (Or.inr z180_b180_0) (allS (Or.inr z5) (allS (Or.inr z179_b179_0) (allS (Or.inr z25_b25_1) all0))))
    have pre206 : ∀ t, SA p e below T205 m 149 #[vi x0, vi x1, vi x2, vi x3, vi x4, vi 3, vi va, vi vb, vi vc, vr b5, vi ((va + vb) + vc), un, un, un] [(.int ((x4 &&& (2147483647 : Int32)) % ((va + vb) + vc)))] t → Steps p.tables e below E0 t := fun tt kk => pre26 tt (by
      show SA p e below T25 m 58 #[vi x0, vi x1, vi x2, vi x3, vi x4, vi 3, vi va, vi vb, vi vc, vr b5, un, un, un, un] [] _
      refine XS.iload X25.here hx rfl (D at_58) rfl ?_
      refine XS.iconst X25.here hx rfl (D at_60) ?_
      refine XS.icmpNo X25.here hx rfl (D at_61) rfl (flt (by decide : ¬ ((3 : Int32) < (2 : Int32)))).1 ?_
      refine XS.aload X25.here hx rfl (D at_64) rfl rfl ?_
      refine XS.bipush X25.here hx rfl (D at_66) ?_
      refine st153 _ ?_
      refine XS.iload X153.here hx rfl (D at_71) rfl ?_
      refine st154 _ ?_
      refine st179 _ ?_
      refine XS.pop X179.here hx rfl (D at_81) rfl rfl ?_
      refine XS.iload X179.here hx rfl (D at_82) rfl ?_
      refine XS.iconst X179.here hx rfl (D at_84) ?_
      refine XS.icmpNo X179.here hx rfl (D at_85) rfl (flt (by decide : ¬ ((3 : Int32) < (3 : Int32)))).1 ?_
      refine XS.aload X179.here hx rfl (D at_88) rfl rfl ?_
      refine XS.bipush X179.here hx rfl (D at_90) ?_
      refine st180 _ ?_
      refine XS.iload X180.here hx rfl (D at_95) rfl ?_
      refine st181 _ ?_
      refine st205 _ ?_
      refine XS.pop X205.here hx rfl (D at_105) rfl rfl ?_
      refine XS.iload X205.here hx rfl (D at_106) rfl ?_
      refine XS.iconst X205.here hx rfl (D at_108) ?_
      refine XS.icmpYes X205.here hx rfl (pc0 := 109) (pc' := 117) rfl (D at_109) rfl (feq (by decide : ¬ ((3 : Int32) = (1 : Int32)))).2 (by decide) (by decide) ?_
      refine XS.iload X205.here hx rfl (D at_117) rfl ?_
      refine XS.iconst X205.here hx rfl (D at_119) ?_
      refine XS.icmpYes X205.here hx rfl (pc0 := 120) (pc' := 131) rfl (D at_120) rfl (feq (by decide : ¬ ((3 : Int32) = (2 : Int32)))).2 (by decide) (by decide) ?_
      refine XS.iload X205.here hx rfl (D at_131) rfl ?_
      refine XS.iload X205.here hx rfl (D at_133) rfl ?_
      refine XS.iadd X205.here hx rfl (D at_135) rfl ?_
      refine XS.iload X205.here hx rfl (D at_136) rfl ?_
      refine XS.iadd X205.here hx rfl (D at_138) rfl ?_
      refine XS.istore X205.here hx rfl (D at_139) rfl (l' := #[vi x0, vi x1, vi x2, vi x3, vi x4, vi 3, vi va, vi vb, vi vc, vr b5, vi ((va + vb) + vc), un, un, un]) rfl ?_
      refine XS.iload X205.here hx rfl (D at_141) rfl ?_
      refine X205.ldcInt hx hown (mvT hZ (w_ hw 0 rfl)) (g := (mkF m 143 #[vi x0, vi x1, vi x2, vi x3, vi x4, vi 3, vi va, vi vb, vi vc, vr b5, vi ((va + vb) + vc), un, un, un] [(.int x4)])) rfl (D at_143) _ ?_
      show SA p e below T205 m 145 #[vi x0, vi x1, vi x2, vi x3, vi x4, vi 3, vi va, vi vb, vi vc, vr b5, vi ((va + vb) + vc), un, un, un] [(.int 2147483647), (.int x4)] _
      refine XS.iand X205.here hx rfl (D at_145) rfl ?_
      refine XS.iload X205.here hx rfl (D at_146) rfl ?_
      refine iremM X205 hx rfl (D at_148) rfl (nz3 ha hbb hcc) ?_
      exact kk)
    obtain ⟨vs, evs⟩ : ∃ z, z = ((x4 &&& (2147483647 : Int32)) % ((va + vb) + vc)) := ⟨_, rfl⟩
    rw [← evs] at pre206
    have hs := (evs ▸ sm x4 _ (pos3 ha hbb hcc) : ¬ vs < 0 ∧ vs < ((va + vb) + vc))
    obtain ⟨T207, h207, X207, e207, E207, A207, D207, -, st207⟩ := newO X205 hx hZ hown (w_ hw 213 rfl) (w_ hw 214 rfl) (w_ hw 215 rfl) e205 (g := (mkF m 151 #[vi x0, vi x1, vi x2, vi x3, vi x4, vi 3, vi va, vi vb, vi vc, vr b5, vi ((va + vb) + vc), vi vs, un, un] [])) rfl (D at_151) (by decide) (by decide)
    obtain ⟨b207, g207⟩ : ∃ z, z = h205.size := ⟨_, rfl⟩
    rw [← g207] at A207 D207 st207
    have z207 : h0.size ≤ b207 := Nat.le_trans k205.1 (Nat.le_of_eq g207.symm)
    have k207 := k205.ext E207
    have F207_226 : P23 Z h207 b207 .null := D207 (Or.inr (w_ hw 226 rfl)) (ty := (.object "java/util/Map")) (by decide)
    have F207_386 : P24 Z h207 b207 .null := D207 (Or.inr (w_ hw 386 rfl)) (ty := (.array .boolean)) (by decide)
    have F207_416 : P25 Z h207 b207 .null := D207 (Or.inr (w_ hw 416 rfl)) (ty := (.array .int)) (by decide)
    have F207_430 : P26 Z h207 b207 .null := D207 (Or.inr (w_ hw 430 rfl)) (ty := (.array .int)) (by decide)
    have F207_432 : P27 Z h207 b207 .null := D207 (Or.inr (w_ hw 432 rfl)) (ty := (.array .int)) (by decide)
    have F207_434 : P28 Z h207 b207 .null := D207 (Or.inr (w_ hw 434 rfl)) (ty := (.array .int)) (by decide)
    obtain ⟨T208, h208, X208, e208, E208, A208, D208, -, st208⟩ := newO X207 hx hZ hown (w_ hw 57 rfl) (w_ hw 58 rfl) (w_ hw 59 rfl) e207 (g := (mkF m 157 #[vi x0, vi x1, vi x2, vi x3, vi x4, vi 3, vi va, vi vb, vi vc, vr b5, vi ((va + vb) + vc), vi vs, un, un] [(.ref b5), (.ref b207), (.ref b207)])) rfl (D at_157) (by decide) (by decide)
    obtain ⟨b208, g208⟩ : ∃ z, z = h207.size := ⟨_, rfl⟩
    rw [← g208] at A208 D208 st208
    have z208 : h0.size ≤ b208 := Nat.le_trans k207.1 (Nat.le_of_eq g208.symm)
    have k208 := k207.ext E208
    have F208_77 : P14 Z h208 b208 (.int 0) := D208 (Or.inl (w_ hw 77 rfl)) (ty := .int) (by decide)
    have F208_80 : P15 Z h208 b208 .null := D208 (Or.inl (w_ hw 80 rfl)) (ty := (.array (.object "java/lang/Object"))) (by decide)
    have F208_93 : P16 Z h208 b208 (.int 0) := D208 (Or.inl (w_ hw 93 rfl)) (ty := .int) (by decide)
    obtain ⟨v209, T209, L209, X209, Q209, st209⟩ := kI X208 hx hZ hown (t10 hw SB0 b208 (O0.keep k208 hws) A208 F208_77 F208_80 F208_93 (Nat.le_trans Z0 z208)) rfl (w_ hw 60 rfl) (w_ hw 61 rfl) (w_ hw 59 rfl) (w_ hw 62 rfl) e208 (g := (mkF m 161 #[vi x0, vi x1, vi x2, vi x3, vi x4, vi 3, vi va, vi vb, vi vc, vr b5, vi ((va + vb) + vc), vi vs, un, un] [(.ref b208), (.ref b208), (.ref b5), (.ref b207), (.ref b207)])) rfl hml rfl (argsL := []) (rest := [(.ref b208), (.ref b5), (.ref b207), (.ref b207)]) (lenOf pd0 rfl) rfl rfl (W := 4) rfl (D at_161)
    obtain ⟨h209, e209⟩ : ∃ z, T209.heap = z := ⟨_, rfl⟩
    rw [e209] at Q209
    obtain ⟨rfl, M209, K209, F209_0, F209_1, F209_2⟩ := Q209
    have N209 := N205.app M209
    have k209 := k208.trans K209 (allS (Or.inr z208) all0)
    have f210 := ((A207.ext E208).keep K209)
    have f212 := (A208.keep K209)
    have ne211 : b207 ≠ b208 := Exa.ne f210 f212 (by decide)
    have f213 := ((F207_226.ext E208).keep K209 (ninS ne211 nin0))
    have f214 := ((F207_386.ext E208).keep K209 (ninS ne211 nin0))
    have f215 := ((F207_416.ext E208).keep K209 (ninS ne211 nin0))
    have f216 := ((F207_430.ext E208).keep K209 (ninS ne211 nin0))
    have f217 := ((F207_432.ext E208).keep K209 (ninS ne211 nin0))
    have f218 := ((F207_434.ext E208).keep K209 (ninS ne211 nin0))
    have f219 := ((((f188.keep K205).ext E207).ext E208).keep K209)
    have ne220 : b5 ≠ b208 := Exa.ne f219 f212 (by decide)
    have f221 := (((F205_12.ext E207).ext E208).keep K209 (ninS ne220 nin0))
    have f222 := (((F205_9.ext E207).ext E208).keep K209 (ninS ne220 nin0))
    have f223 := (((F205_10.ext E207).ext E208).keep K209 (ninS ne220 nin0))
    have f225 := (((((((f172.keep K179).keep K180).keep K181).keep K205).ext E207).ext E208).keep K209)
    have f226 := ((((f204.keep K205).ext E207).ext E208).keep K209)
    have ne224 : b25_0 ≠ b25_1 := Exa.ne f225 f226 (by decide)
    have ne227 : b25_0 ≠ b179_0 := Nat.ne_of_lt (Nat.lt_of_lt_of_le f172.lt y179_0)
    have ne228 : b25_0 ≠ b5 := Exa.ne f225 f219 (by decide)
    have f230 := ((((f182.keep K205).ext E207).ext E208).keep K209)
    have ne229 : b25_0 ≠ b180_0 := Exa.ne f225 f230 (by decide)
    have ne231 : b25_0 ≠ b208 := Exa.ne f225 f212 (by decide)
    have f232 := ((((((F179_16.keep K180 nin0).keep K181 nin0).keep K205 (ninS ne229 (ninS ne228 (ninS ne227 (ninS ne224 nin0))))).ext E207).ext E208).keep K209 (ninS ne231 nin0))
    have f233 := ((((((F179_14.keep K180 nin0).keep K181 nin0).keep K205 (ninS ne229 (ninS ne228 (ninS ne227 (ninS ne224 nin0))))).ext E207).ext E208).keep K209 (ninS ne231 nin0))
    have f234 := ((((((((((f9.keep K25).keep K153).keep K154).keep K179).keep K180).keep K181).keep K205).ext E207).ext E208).keep K209)
    have ne235 : b7_0 ≠ b25_1 := Exa.ne f234 f226 (by decide)
    have ne236 : b7_0 ≠ b25_0 := Exa.ne f234 f225 (by decide)
    have ne237 : b7_0 ≠ b5 := Exa.ne f234 f219 (by decide)
    have ne238 : b7_0 ≠ b153_0 := Nat.ne_of_lt (Nat.lt_of_lt_of_le (f9.keep K25).lt y153_0)
    have f240 := ((((f199.keep K205).ext E207).ext E208).keep K209)
    have ne239 : b7_0 ≠ b179_0 := Exa.ne f234 f240 (by decide)
    have ne241 : b7_0 ≠ b180_0 := Nat.ne_of_lt (Nat.lt_of_lt_of_le ((((f9.keep K25).keep K153).keep K154).keep K179).lt y180_0)
    have ne242 : b7_0 ≠ b208 := Exa.ne f234 f212 (by decide)
    have f243 := (((((((((F25_0.keep K153 nin0).keep K154 nin0).keep K179 (ninS ne238 (ninS ne237 (ninS ne236 (ninS ne235 nin0))))).keep K180 nin0).keep K181 nin0).keep K205 (ninS ne241 (ninS ne237 (ninS ne239 (ninS ne235 nin0))))).ext E207).ext E208).keep K209 (ninS ne242 nin0))
    have f244 := ((((((F179_15.keep K180 nin0).keep K181 nin0).keep K205 (ninS ne229 (ninS ne228 (ninS ne227 (ninS ne224 nin0))))).ext E207).ext E208).keep K209 (ninS ne231 nin0))
    have f245 := ((((((((((F8_0.keep K25).keep K153).keep K154).keep K179).keep K180).keep K181).keep K205).ext E207).ext E208).keep K209)
    have ne246 : b8_0 ≠ b5 := Exa.ne f245 f219 (by decide)
    have ne247 : b8_0 ≠ b7_0 := Exa.ne f245 f234 (by decide)
    have ne248 : b8_0 ≠ b25_1 := Exa.ne f245 f226 (by decide)
    have ne249 : b8_0 ≠ b25_0 := Exa.ne f245 f225 (by decide)
    have f251 := (((((((f155.keep K179).keep K180).keep K181).keep K205).ext E207).ext E208).keep K209)
    have ne250 : b8_0 ≠ b153_0 := Exa.ne f245 f251 (by decide)
    have ne252 : b8_0 ≠ b179_0 := Exa.ne f245 f240 (by decide)
    have ne253 : b8_0 ≠ b180_0 := Exa.ne f245 f230 (by decide)
    have ne254 : b8_0 ≠ b208 := Nat.ne_of_lt (Nat.lt_of_lt_of_le ((((((((F8_0.keep K25).keep K153).keep K154).keep K179).keep K180).keep K181).keep K205).ext E207).lt (Nat.le_of_eq g208.symm))
    have f255 := ((((((((((F8_1.keep K25 (ninS ne247 (ninS ne246 nin0))).keep K153 nin0).keep K154 nin0).keep K179 (ninS ne250 (ninS ne246 (ninS ne249 (ninS ne248 nin0))))).keep K180 nin0).keep K181 nin0).keep K205 (ninS ne253 (ninS ne246 (ninS ne252 (ninS ne248 nin0))))).ext E207).ext E208).keep K209 (ninS ne254 nin0))
    have ne256 : b179_0 ≠ b208 := Exa.ne f240 f212 (by decide)
    have f257 := (((F205_16.ext E207).ext E208).keep K209 (ninS ne256 nin0))
    have f258 := (((F205_14.ext E207).ext E208).keep K209 (ninS ne256 nin0))
    have ne259 : b153_0 ≠ b25_1 := Exa.ne f251 f226 (by decide)
    have ne260 : b153_0 ≠ b179_0 := Exa.ne f251 f240 (by decide)
    have ne261 : b153_0 ≠ b5 := Exa.ne f251 f219 (by decide)
    have ne262 : b153_0 ≠ b180_0 := Nat.ne_of_lt (Nat.lt_of_lt_of_le (f155.keep K179).lt y180_0)
    have ne263 : b153_0 ≠ b208 := Exa.ne f251 f212 (by decide)
    have f264 := ((((((F179_0.keep K180 nin0).keep K181 nin0).keep K205 (ninS ne262 (ninS ne261 (ninS ne260 (ninS ne259 nin0))))).ext E207).ext E208).keep K209 (ninS ne263 nin0))
    have f265 := (((F205_15.ext E207).ext E208).keep K209 (ninS ne256 nin0))
    have f266 := (((((((F154_0.keep K179).keep K180).keep K181).keep K205).ext E207).ext E208).keep K209)
    have ne267 : b154_0 ≠ b25_1 := Exa.ne f266 f226 (by decide)
    have ne268 : b154_0 ≠ b25_0 := Exa.ne f266 f225 (by decide)
    have ne269 : b154_0 ≠ b5 := Exa.ne f266 f219 (by decide)
    have ne270 : b154_0 ≠ b153_0 := Exa.ne f266 f251 (by decide)
    have ne271 : b154_0 ≠ b179_0 := Exa.ne f266 f240 (by decide)
    have ne272 : b154_0 ≠ b180_0 := Exa.ne f266 f230 (by decide)
    have ne273 : b154_0 ≠ b208 := Nat.ne_of_lt (Nat.lt_of_lt_of_le (((((F154_0.keep K179).keep K180).keep K181).keep K205).ext E207).lt (Nat.le_of_eq g208.symm))
    have f274 := (((((((F154_1.keep K179 (ninS ne270 (ninS ne269 (ninS ne268 (ninS ne267 nin0))))).keep K180 nin0).keep K181 nin0).keep K205 (ninS ne272 (ninS ne269 (ninS ne271 (ninS ne267 nin0))))).ext E207).ext E208).keep K209 (ninS ne273 nin0))
    have f276 := (((F205_18.ext E207).ext E208).keep K209)
    have ne275 : b205_0 ≠ b208 := Exa.ne f276 f212 (by decide)
    have f277 := (((F205_22.ext E207).ext E208).keep K209 (ninS ne275 nin0))
    have f278 := (((F205_20.ext E207).ext E208).keep K209 (ninS ne275 nin0))
    have ne279 : b180_0 ≠ b208 := Exa.ne f230 f212 (by decide)
    have f280 := (((F205_0.ext E207).ext E208).keep K209 (ninS ne279 nin0))
    have f281 := (((F205_21.ext E207).ext E208).keep K209 (ninS ne275 nin0))
    have f282 := ((((F181_0.keep K205).ext E207).ext E208).keep K209)
    have ne283 : b181_0 ≠ b25_1 := Exa.ne f282 f226 (by decide)
    have ne284 : b181_0 ≠ b179_0 := Exa.ne f282 f240 (by decide)
    have ne285 : b181_0 ≠ b5 := Exa.ne f282 f219 (by decide)
    have ne286 : b181_0 ≠ b180_0 := Exa.ne f282 f230 (by decide)
    have ne287 : b181_0 ≠ b208 := Nat.ne_of_lt (Nat.lt_of_lt_of_le ((F181_0.keep K205).ext E207).lt (Nat.le_of_eq g208.symm))
    have f288 := ((((F181_1.keep K205 (ninS ne286 (ninS ne285 (ninS ne284 (ninS ne283 nin0))))).ext E207).ext E208).keep K209 (ninS ne287 nin0))
    obtain ⟨v289, T289, L289, X289, Q289, st289⟩ := kI X209 hx hZ hown (t125 hw SB0 b207 b5 b208 b25_0 b179_0 b7_0 b8_0 va b205_0 b153_0 b154_0 vb b180_0 b181_0 vc (O0.keep k209 hws) f210 f213 f214 f215 f216 f217 f218 f219 f221 f222 f223 f232 f225 f233 f234 f243 f244 f245 f255 f257 f240 f258 f251 ha f264 f265 f266 f274 f277 f276 f278 f230 hbb f280 f281 f282 f288 hcc f212 F209_2 (Nat.le_trans Z0 z207) (Nat.le_trans Z0 z5)) rfl (w_ hw 216 rfl) (w_ hw 217 rfl) (w_ hw 215 rfl) (w_ hw 218 rfl) e209 (g := (mkF m 164 #[vi x0, vi x1, vi x2, vi x3, vi x4, vi 3, vi va, vi vb, vi vc, vr b5, vi ((va + vb) + vc), vi vs, un, un] [(.ref b208), (.ref b5), (.ref b207), (.ref b207)])) rfl hml rfl (argsL := [(.ref b5), (.ref b208)]) (rest := [(.ref b207)]) (lenOf pd34 rfl) rfl rfl (W := 1) rfl (D at_164)
    obtain ⟨h289, e289⟩ : ∃ z, T289.heap = z := ⟨_, rfl⟩
    rw [e289] at Q289
    obtain ⟨b289_0, rfl, M289, K289, y289_0, F289_0, F289_1, F289_2⟩ := Q289
    have N289 := N209.app M289
    have z289_b289_0 := Nat.le_trans k209.1 y289_0
    have k289 := k209.trans K289 (allS (Or.inr z207) (allS (Or.inr z5) all0))
    have pre290 : ∀ t, SA p e below T289 m 169 #[vi x0, vi x1, vi x2, vi x3, vi x4, vi 3, vi va, vi vb, vi vc, vr b5, vi ((va + vb) + vc), vi vs, vr b207, un] [] t → Steps p.tables e below E0 t := fun tt kk => pre206 tt (by
      show SA p e below T205 m 149 #[vi x0, vi x1, vi x2, vi x3, vi x4, vi 3, vi va, vi vb, vi vc, vr b5, vi ((va + vb) + vc), un, un, un] [(.int vs)] _
      refine XS.istore X205.here hx rfl (D at_149) rfl (l' := #[vi x0, vi x1, vi x2, vi x3, vi x4, vi 3, vi va, vi vb, vi vc, vr b5, vi ((va + vb) + vc), vi vs, un, un]) rfl ?_
      refine st207 _ ?_
      refine XS.dup X207.here hx rfl (D at_154) rfl rfl ?_
      refine XS.aload X207.here hx rfl (D at_155) rfl rfl ?_
      refine st208 _ ?_
      refine XS.dup X208.here hx rfl (D at_160) rfl rfl ?_
      refine st209 _ ?_
      refine st289 _ ?_
      refine XS.astore X289.here hx rfl (D at_167) rfl rfl (l' := #[vi x0, vi x1, vi x2, vi x3, vi x4, vi 3, vi va, vi vb, vi vc, vr b5, vi ((va + vb) + vc), vi vs, vr b207, un]) rfl ?_
      exact kk)
    by_cases hs0 : vs = (0 : Int32)
    · have f291 := (f210.keep K289)
      obtain ⟨v292, T292, L292, X292, Q292, st292⟩ := kV (y := y65) (z := y65) X289 hx hZ hown (t71 hw SB0 b207 vs (O0.keep k289 hws) hs0) f291 (nf_of (x := y65) (y' := y65) (args := #[]) (mvT hZ (w_ hw 438 rfl)) rfl) (w_ hw 435 rfl) (w_ hw 436 rfl) (w_ hw 438 rfl) (w_ hw 437 rfl) (w_ hw 215 rfl) (w_ hw 439 rfl) e289 (g := (mkF m 214 #[vi x0, vi x1, vi x2, vi x3, vi x4, vi 3, vi va, vi vb, vi vc, vr b5, vi ((va + vb) + vc), vi vs, vr b207, vi 1] [(.int vs), (.ref b207)])) rfl hml rfl (argsL := [(.int vs)]) (rest := []) (lenOf pd35 rfl) rfl rfl (W := 0) rfl (D at_214)
      obtain ⟨rfl, M292, e292⟩ := Q292
      have N292 := N289.app M292
      refine ⟨some (.int 1), T292, _, _, _, X292, (fun hh => absurd hh (by decide)), (by rw [e292]; exact ⟨rfl, N292⟩), (by decide), (by decide), fun fs hr => pre290 _ ?_⟩
      show SA p e below T289 m 169 #[vi x0, vi x1, vi x2, vi x3, vi x4, vi 3, vi va, vi vb, vi vc, vr b5, vi ((va + vb) + vc), vi vs, vr b207, un] [] _
      refine XS.iload X289.here hx rfl (D at_169) rfl ?_
      refine XS.ifYes X289.here hx rfl (pc0 := 171) (pc' := 203) rfl (D at_171) rfl ((if0 _ _).trans (teq hs0).1) (by decide) (by decide) ?_
      refine XS.iconst X289.here hx rfl (D at_203) ?_
      refine XS.goto X289.here hx rfl (pc0 := 204) (pc' := 208) rfl (D at_204) (by decide) (by decide) ?_
      refine XS.istore X289.here hx rfl (D at_208) rfl (l' := #[vi x0, vi x1, vi x2, vi x3, vi x4, vi 3, vi va, vi vb, vi vc, vr b5, vi ((va + vb) + vc), vi vs, vr b207, vi 1]) rfl ?_
      refine XS.aload X289.here hx rfl (D at_210) rfl rfl ?_
      refine XS.iload X289.here hx rfl (D at_212) rfl ?_
      refine st292 _ ?_
      refine XS.iload X292.here hx rfl (D at_217) rfl ?_
      refine XS.icmpNo X292.here hx rfl (D at_219) rfl (teq (by decide : ((1 : Int32) = (1 : Int32)))).2 ?_
      refine XS.iconst X292.here hx rfl (D at_222) ?_
      refine XS.goto X292.here hx rfl (pc0 := 223) (pc' := 227) rfl (D at_223) (by decide) (by decide) ?_
      show SA p e below T292 m 227 #[vi x0, vi x1, vi x2, vi x3, vi x4, vi 3, vi va, vi vb, vi vc, vr b5, vi ((va + vb) + vc), vi vs, vr b207, vi 1] [(.int 1)] _
      exact retN X292 hx (t := .boolean) hrt (by simp) (D at_227) hr
    by_cases hs1 : vs = va
    · have hj := fk3 ha hbb hcc hs.1 hs.2 hs0
      have hel := hj.2.2.trans (if_pos (Or.inl hs1))
      have f293 := (f210.keep K289)
      obtain ⟨v294, T294, L294, X294, Q294, st294⟩ := kV (y := y65) (z := y65) X289 hx hZ hown (t101 hw SB0 b207 vs b289_0 ((((0 : Int32) + va) + vb) + vc) (up (up (up (fun _ => 0) (((0 : Int32) + va) - (1 : Int32)) (1 : Int32)) ((((0 : Int32) + va) + vb) - (1 : Int32)) (1 : Int32)) (((((0 : Int32) + va) + vb) + vc) - (1 : Int32)) (1 : Int32)) (O0.keep k289 hws) hs0 f293 F289_0 F289_2 hj.1 hj.2.1 hel) f293 (nf_of (x := y65) (y' := y65) (args := #[]) (mvT hZ (w_ hw 438 rfl)) rfl) (w_ hw 435 rfl) (w_ hw 436 rfl) (w_ hw 438 rfl) (w_ hw 437 rfl) (w_ hw 215 rfl) (w_ hw 439 rfl) e289 (g := (mkF m 214 #[vi x0, vi x1, vi x2, vi x3, vi x4, vi 3, vi va, vi vb, vi vc, vr b5, vi ((va + vb) + vc), vi vs, vr b207, vi 1] [(.int vs), (.ref b207)])) rfl hml rfl (argsL := [(.int vs)]) (rest := []) (lenOf pd35 rfl) rfl rfl (W := 0) rfl (D at_214)
      obtain ⟨rfl, M294, e294⟩ := Q294
      have N294 := N289.app M294
      refine ⟨some (.int 1), T294, _, _, _, X294, (fun hh => absurd hh (by decide)), (by rw [e294]; exact ⟨rfl, N294⟩), (by decide), (by decide), fun fs hr => pre290 _ ?_⟩
      show SA p e below T289 m 169 #[vi x0, vi x1, vi x2, vi x3, vi x4, vi 3, vi va, vi vb, vi vc, vr b5, vi ((va + vb) + vc), vi vs, vr b207, un] [] _
      refine XS.iload X289.here hx rfl (D at_169) rfl ?_
      refine XS.ifNo X289.here hx rfl (D at_171) rfl ((if0 _ _).trans (feq hs0).1) ?_
      refine XS.iload X289.here hx rfl (D at_174) rfl ?_
      refine XS.iconst X289.here hx rfl (D at_176) ?_
      refine XS.icmpNo X289.here hx rfl (D at_177) rfl (flt (by decide : ¬ ((3 : Int32) < (2 : Int32)))).1 ?_
      refine XS.iload X289.here hx rfl (D at_180) rfl ?_
      refine XS.iload X289.here hx rfl (D at_182) rfl ?_
      refine XS.icmpYes X289.here hx rfl (pc0 := 184) (pc' := 203) rfl (D at_184) rfl (teq hs1).1 (by decide) (by decide) ?_
      refine XS.iconst X289.here hx rfl (D at_203) ?_
      refine XS.goto X289.here hx rfl (pc0 := 204) (pc' := 208) rfl (D at_204) (by decide) (by decide) ?_
      refine XS.istore X289.here hx rfl (D at_208) rfl (l' := #[vi x0, vi x1, vi x2, vi x3, vi x4, vi 3, vi va, vi vb, vi vc, vr b5, vi ((va + vb) + vc), vi vs, vr b207, vi 1]) rfl ?_
      refine XS.aload X289.here hx rfl (D at_210) rfl rfl ?_
      refine XS.iload X289.here hx rfl (D at_212) rfl ?_
      refine st294 _ ?_
      refine XS.iload X294.here hx rfl (D at_217) rfl ?_
      refine XS.icmpNo X294.here hx rfl (D at_219) rfl (teq (by decide : ((1 : Int32) = (1 : Int32)))).2 ?_
      refine XS.iconst X294.here hx rfl (D at_222) ?_
      refine XS.goto X294.here hx rfl (pc0 := 223) (pc' := 227) rfl (D at_223) (by decide) (by decide) ?_
      show SA p e below T294 m 227 #[vi x0, vi x1, vi x2, vi x3, vi x4, vi 3, vi va, vi vb, vi vc, vr b5, vi ((va + vb) + vc), vi vs, vr b207, vi 1] [(.int 1)] _
      exact retN X294 hx (t := .boolean) hrt (by simp) (D at_227) hr
    by_cases hs2 : vs = (va + vb)
    · have hj := fk3 ha hbb hcc hs.1 hs.2 hs0
      have hel := hj.2.2.trans (if_pos (Or.inr hs2))
      have f295 := (f210.keep K289)
      obtain ⟨v296, T296, L296, X296, Q296, st296⟩ := kV (y := y65) (z := y65) X289 hx hZ hown (t101 hw SB0 b207 vs b289_0 ((((0 : Int32) + va) + vb) + vc) (up (up (up (fun _ => 0) (((0 : Int32) + va) - (1 : Int32)) (1 : Int32)) ((((0 : Int32) + va) + vb) - (1 : Int32)) (1 : Int32)) (((((0 : Int32) + va) + vb) + vc) - (1 : Int32)) (1 : Int32)) (O0.keep k289 hws) hs0 f295 F289_0 F289_2 hj.1 hj.2.1 hel) f295 (nf_of (x := y65) (y' := y65) (args := #[]) (mvT hZ (w_ hw 438 rfl)) rfl) (w_ hw 435 rfl) (w_ hw 436 rfl) (w_ hw 438 rfl) (w_ hw 437 rfl) (w_ hw 215 rfl) (w_ hw 439 rfl) e289 (g := (mkF m 214 #[vi x0, vi x1, vi x2, vi x3, vi x4, vi 3, vi va, vi vb, vi vc, vr b5, vi ((va + vb) + vc), vi vs, vr b207, vi 1] [(.int vs), (.ref b207)])) rfl hml rfl (argsL := [(.int vs)]) (rest := []) (lenOf pd35 rfl) rfl rfl (W := 0) rfl (D at_214)
      obtain ⟨rfl, M296, e296⟩ := Q296
      have N296 := N289.app M296
      refine ⟨some (.int 1), T296, _, _, _, X296, (fun hh => absurd hh (by decide)), (by rw [e296]; exact ⟨rfl, N296⟩), (by decide), (by decide), fun fs hr => pre290 _ ?_⟩
      show SA p e below T289 m 169 #[vi x0, vi x1, vi x2, vi x3, vi x4, vi 3, vi va, vi vb, vi vc, vr b5, vi ((va + vb) + vc), vi vs, vr b207, un] [] _
      refine XS.iload X289.here hx rfl (D at_169) rfl ?_
      refine XS.ifNo X289.here hx rfl (D at_171) rfl ((if0 _ _).trans (feq hs0).1) ?_
      refine XS.iload X289.here hx rfl (D at_174) rfl ?_
      refine XS.iconst X289.here hx rfl (D at_176) ?_
      refine XS.icmpNo X289.here hx rfl (D at_177) rfl (flt (by decide : ¬ ((3 : Int32) < (2 : Int32)))).1 ?_
      refine XS.iload X289.here hx rfl (D at_180) rfl ?_
      refine XS.iload X289.here hx rfl (D at_182) rfl ?_
      refine XS.icmpNo X289.here hx rfl (D at_184) rfl (feq hs1).1 ?_
      refine XS.iload X289.here hx rfl (D at_187) rfl ?_
      refine XS.iconst X289.here hx rfl (D at_189) ?_
      refine XS.icmpNo X289.here hx rfl (D at_190) rfl (flt (by decide : ¬ ((3 : Int32) < (3 : Int32)))).1 ?_
      refine XS.iload X289.here hx rfl (D at_193) rfl ?_
      refine XS.iload X289.here hx rfl (D at_195) rfl ?_
      refine XS.iload X289.here hx rfl (D at_197) rfl ?_
      refine XS.iadd X289.here hx rfl (D at_199) rfl ?_
      refine XS.icmpNo X289.here hx rfl (D at_200) rfl (teq hs2).2 ?_
      refine XS.iconst X289.here hx rfl (D at_203) ?_
      show SA p e below T289 m 204 #[vi x0, vi x1, vi x2, vi x3, vi x4, vi 3, vi va, vi vb, vi vc, vr b5, vi ((va + vb) + vc), vi vs, vr b207, un] [(.int 1)] _
      refine XS.goto X289.here hx rfl (pc0 := 204) (pc' := 208) rfl (D at_204) (by decide) (by decide) ?_
      refine XS.istore X289.here hx rfl (D at_208) rfl (l' := #[vi x0, vi x1, vi x2, vi x3, vi x4, vi 3, vi va, vi vb, vi vc, vr b5, vi ((va + vb) + vc), vi vs, vr b207, vi 1]) rfl ?_
      refine XS.aload X289.here hx rfl (D at_210) rfl rfl ?_
      refine XS.iload X289.here hx rfl (D at_212) rfl ?_
      refine st296 _ ?_
      refine XS.iload X296.here hx rfl (D at_217) rfl ?_
      refine XS.icmpNo X296.here hx rfl (D at_219) rfl (teq (by decide : ((1 : Int32) = (1 : Int32)))).2 ?_
      refine XS.iconst X296.here hx rfl (D at_222) ?_
      refine XS.goto X296.here hx rfl (pc0 := 223) (pc' := 227) rfl (D at_223) (by decide) (by decide) ?_
      show SA p e below T296 m 227 #[vi x0, vi x1, vi x2, vi x3, vi x4, vi 3, vi va, vi vb, vi vc, vr b5, vi ((va + vb) + vc), vi vs, vr b207, vi 1] [(.int 1)] _
      exact retN X296 hx (t := .boolean) hrt (by simp) (D at_227) hr
    have hj := fk3 ha hbb hcc hs.1 hs.2 hs0
    have hel := hj.2.2.trans (if_neg (fun q => q.elim hs1 hs2))
    have f297 := (f210.keep K289)
    obtain ⟨v298, T298, L298, X298, Q298, st298⟩ := kV (y := y65) (z := y65) X289 hx hZ hown (t73 hw SB0 b207 vs b289_0 ((((0 : Int32) + va) + vb) + vc) (up (up (up (fun _ => 0) (((0 : Int32) + va) - (1 : Int32)) (1 : Int32)) ((((0 : Int32) + va) + vb) - (1 : Int32)) (1 : Int32)) (((((0 : Int32) + va) + vb) + vc) - (1 : Int32)) (1 : Int32)) (O0.keep k289 hws) hs0 f297 F289_0 F289_2 hj.1 hj.2.1 hel) f297 (nf_of (x := y65) (y' := y65) (args := #[]) (mvT hZ (w_ hw 438 rfl)) rfl) (w_ hw 435 rfl) (w_ hw 436 rfl) (w_ hw 438 rfl) (w_ hw 437 rfl) (w_ hw 215 rfl) (w_ hw 439 rfl) e289 (g := (mkF m 214 #[vi x0, vi x1, vi x2, vi x3, vi x4, vi 3, vi va, vi vb, vi vc, vr b5, vi ((va + vb) + vc), vi vs, vr b207, vi 0] [(.int vs), (.ref b207)])) rfl hml rfl (argsL := [(.int vs)]) (rest := []) (lenOf pd35 rfl) rfl rfl (W := 0) rfl (D at_214)
    obtain ⟨rfl, M298, e298⟩ := Q298
    have N298 := N289.app M298
    refine ⟨some (.int 1), T298, _, _, _, X298, (fun hh => absurd hh (by decide)), (by rw [e298]; exact ⟨rfl, N298⟩), (by decide), (by decide), fun fs hr => pre290 _ ?_⟩
    show SA p e below T289 m 169 #[vi x0, vi x1, vi x2, vi x3, vi x4, vi 3, vi va, vi vb, vi vc, vr b5, vi ((va + vb) + vc), vi vs, vr b207, un] [] _
    refine XS.iload X289.here hx rfl (D at_169) rfl ?_
    refine XS.ifNo X289.here hx rfl (D at_171) rfl ((if0 _ _).trans (feq hs0).1) ?_
    refine XS.iload X289.here hx rfl (D at_174) rfl ?_
    refine XS.iconst X289.here hx rfl (D at_176) ?_
    refine XS.icmpNo X289.here hx rfl (D at_177) rfl (flt (by decide : ¬ ((3 : Int32) < (2 : Int32)))).1 ?_
    refine XS.iload X289.here hx rfl (D at_180) rfl ?_
    refine XS.iload X289.here hx rfl (D at_182) rfl ?_
    refine XS.icmpNo X289.here hx rfl (D at_184) rfl (feq hs1).1 ?_
    refine XS.iload X289.here hx rfl (D at_187) rfl ?_
    refine XS.iconst X289.here hx rfl (D at_189) ?_
    refine XS.icmpNo X289.here hx rfl (D at_190) rfl (flt (by decide : ¬ ((3 : Int32) < (3 : Int32)))).1 ?_
    refine XS.iload X289.here hx rfl (D at_193) rfl ?_
    refine XS.iload X289.here hx rfl (D at_195) rfl ?_
    refine XS.iload X289.here hx rfl (D at_197) rfl ?_
    refine XS.iadd X289.here hx rfl (D at_199) rfl ?_
    refine XS.icmpYes X289.here hx rfl (pc0 := 200) (pc' := 207) rfl (D at_200) rfl (feq hs2).2 (by decide) (by decide) ?_
    refine XS.iconst X289.here hx rfl (D at_207) ?_
    show SA p e below T289 m 208 #[vi x0, vi x1, vi x2, vi x3, vi x4, vi 3, vi va, vi vb, vi vc, vr b5, vi ((va + vb) + vc), vi vs, vr b207, un] [(.int 0)] _
    refine XS.istore X289.here hx rfl (D at_208) rfl (l' := #[vi x0, vi x1, vi x2, vi x3, vi x4, vi 3, vi va, vi vb, vi vc, vr b5, vi ((va + vb) + vc), vi vs, vr b207, vi 0]) rfl ?_
    refine XS.aload X289.here hx rfl (D at_210) rfl rfl ?_
    refine XS.iload X289.here hx rfl (D at_212) rfl ?_
    refine st298 _ ?_
    refine XS.iload X298.here hx rfl (D at_217) rfl ?_
    refine XS.icmpNo X298.here hx rfl (D at_219) rfl (teq (by decide : ((0 : Int32) = (0 : Int32)))).2 ?_
    refine XS.iconst X298.here hx rfl (D at_222) ?_
    refine XS.goto X298.here hx rfl (pc0 := 223) (pc' := 227) rfl (D at_223) (by decide) (by decide) ?_
    show SA p e below T298 m 227 #[vi x0, vi x1, vi x2, vi x3, vi x4, vi 3, vi va, vi vb, vi vc, vr b5, vi ((va + vb) + vc), vi vs, vr b207, vi 0] [(.int 1)] _
    exact retN X298 hx (t := .boolean) hrt (by simp) (D at_227) hr
theorem own_alike (s : State) : s.vm.Alike s.vm := (State.Warmed39.refl s).alike
theorem own_len {args : Array Value} {s : State} {t : Term} {b : Addr} {cl : Cell} {ty : FieldType} {k : Int32} (ev : t.eval args s none [] s = some (.ref b)) (A : Arr s s.heap b cl ty) (h : (Jvm.Cond.eq (.length t) (.int k)).value args s none s [] = some true) : cl.slots.size < 2 ^ 31 ∧ cl.slots.size.toInt32 = k := by
  have e := own_eq_int h
  have ha : s.arrayAt? b = some cl := Arr.fin (own_alike s) A
  by_cases hl : cl.slots.size < 2 ^ 31
  · rw [len_f ev ha hl] at e; exact ⟨hl, by simpa using e⟩
  · simp [Term.eval, ev, ha, hl] at e
theorem own_size {cl : Cell} {k : Int32} (h : cl.slots.size < 2 ^ 31 ∧ cl.slots.size.toInt32 = k) (hk : ¬ k < 0) : cl.slots.size = k.toNatClampNeg := by
  obtain ⟨h1, rfl⟩ := h
  have := len_toInt h1
  have h2 := nat_of hk
  omega
theorem own_all {args : Array Value} {s : State} {t : Term} {b : Addr} {cl : Cell} {c : Jvm.Cond} (ev : t.eval args s none [] s = some (.ref b)) (harr : s.arrayAt? b = some cl) (h : (Jvm.Cond.all t c).value args s none s [] = some true) : ∀ j, j < cl.slots.size → c.value args s none s [j] = some true := by
  intro j hj
  simp only [Cond.value, ev, harr] at h
  exact Example.SumArray.foldl_all _ _ (fun _ => rfl) (fun x _ hx => by
    cases x with
    | none => rfl
    | some b => cases b <;> first | rfl | exact absurd rfl hx) cl.slots.size h j hj
theorem own_cache {args : Array Value} {s : State} {t : Term} {b : Addr} {cl : Cell} (ev : ∀ idx, t.eval args s none idx s = some (.ref b)) (A : Arr s s.heap b cl (.object "java/lang/Integer")) (S : cl.slots.size = (256 : Int32).toNatClampNeg) (h : (Jvm.Cond.all t (Jvm.Cond.and (Jvm.Cond.exactly (Jvm.Term.elem t (Jvm.Term.index 0)) "java/lang/Integer") (Jvm.Cond.eq (Jvm.Term.field (Jvm.Term.elem t (Jvm.Term.index 0)) "java/lang/Integer" "value" "I") (Jvm.Term.sub (Jvm.Term.index 0) (Jvm.Term.int 128))))).value args s none s [] = some true) :
    ∀ i : Nat, i < 256 → ∃ w : Addr, cl.slots[i]? = some (.ref w) ∧ Exa s s.heap w "java/lang/Integer" ∧ Fld s s.heap w "java/lang/Integer" "value" "I" (.int (i.toInt32 - 128)) := by
  intro i hi
  have harr : s.arrayAt? b = some cl := Arr.fin (own_alike s) A
  have q := own_all (ev []) harr h i (by rw [S]; exact hi)
  obtain ⟨q1, q2⟩ := and_e q
  have k1 : ∀ i : Nat, i < 256 → i.toInt32.toNatClampNeg = i ∧ ¬ i.toInt32 < 0 ∧ i < 2 ^ 31 := by decide +kernel
  obtain ⟨c1, c2, c3⟩ := k1 i hi
  obtain ⟨w, cf, cell, k, e1, e2, e3, e4, e5, e6, e7⟩ := Cond.exactly_spec (show (Jvm.Cond.exactly (Jvm.Term.elem t (Jvm.Term.index 0)) "java/lang/Integer").holds args s none s [i] = true by simp [Cond.holds, q1])
  have ei : (Term.index 0).eval args s none [i] s = some (.int i.toInt32) := by simp [Term.eval]
  have hin := (elem_in e1 (ev [i]) ei A.1).2
  rw [c1] at hin
  refine ⟨w, hin, ?_, ?_⟩
  · subst e6
    exact ⟨cell, k, e3, e2, e4, e5, e7⟩
  · refine Fld.start ?_
    obtain ⟨x, y, h1, h2, k1, k2⟩ := cmp_v (Or.inl q2)
    have e8 : ((Jvm.Term.index 0).sub (Jvm.Term.int 128)).eval args s none [i] s = some (.int (i.toInt32 - 128)) := by simp [Term.eval]
    cases e8.symm.trans h2
    rw [fld_at e1] at h1
    rw [h1]
    have q3 := q2
    simp only [Cond.value, fld_at e1, h1, e8] at q3
    cases x <;> simp at q3 ⊢
    exact q3
set_option maxRecDepth 65536 in
set_option maxHeartbeats 40000000 in
theorem comes_1 {Post : Tables → Env → Array Value → State → Outcome → State → Prop} (hpost : ∀ tb e args s v u, (limb_1_1.after args s (.returned v) u = true ∧ limb_1_2.after args s (.returned v) u = true ∧ True) → FrameEnd s (.returned v) u (Jvm.fieldLocs frame_1_writes args s ++ Jvm.arrayLocs frame_1_arrays args s ++ Jvm.staticLocs frame_1_statics s) 80 512 → Post tb e args s (.returned v) u) :
    ArmFor flags0 classFile x code maxLocals ret World_1 tables_1 room_1 Calls_1 rest_1 Pre_1 Post := by
  intro l hfl _ _ p e ha hc hk s m args below hf hA hF happ hP
  obtain ⟨hcalls, hrest, hpre⟩ := hP
  obtain ⟨-, -, -, hnamed, -, -, -, hat⟩ := (Spec.applies_iff hf).mp happ
  obtain ⟨hg, hn⟩ := and_e (Cond.before_iff.mp (show (Jvm.Cond.and given_1 narrow_1).before args s = true from hpre))
  obtain ⟨g0, g0r⟩ := and_e hg
  obtain ⟨g1, g1r⟩ := and_e g0r
  obtain ⟨g2, g2r⟩ := and_e g1r
  obtain ⟨g3, g3r⟩ := and_e g2r
  obtain ⟨g4, g4r⟩ := and_e g3r
  obtain ⟨w0_, w1_, w2_, w3_, w4_, rfl⟩ : ∃ w0_ w1_ w2_ w3_ w4_ : Value, args = #[w0_, w1_, w2_, w3_, w4_] := by
    have hs : args.size = 5 := by simpa [Cond.value, given_1] using g0
    obtain ⟨L⟩ := args
    match L, hs with
    | [w0_, w1_, w2_, w3_, w4_], _ => exact ⟨w0_, w1_, w2_, w3_, w4_, rfl⟩
  have hw := fun d (hd : d ∈ tables_1) => atoms_spec (ws := Jvm.Cond.code x code maxLocals ret :: tables_1) hat d (List.mem_cons_of_mem _ hd)
  have hfit : Fit s := fun {y c} hc i hi => by
    obtain ⟨ha, rfl⟩ := Array.getElem?_eq_some_iff.mp hc
    have q := List.all_eq_true.mp ((Array.all_eq_true_iff_forall_mem.mp hF) _ (Array.getElem_mem ha)) i (List.mem_range.mpr hi)
    simpa [Array.getElem?_eq_getElem hi] using q
  obtain ⟨i0, ei0⟩ := is_v g1
  obtain rfl : w0_ = (.int i0) := Option.some.inj ei0
  obtain ⟨i1, ei1⟩ := is_v g2
  obtain rfl : w1_ = (.int i1) := Option.some.inj ei1
  obtain ⟨i2, ei2⟩ := is_v g3
  obtain rfl : w2_ = (.int i2) := Option.some.inj ei2
  obtain ⟨i3, ei3⟩ := is_v g4
  obtain rfl : w3_ = (.int i3) := Option.some.inj ei3
  obtain ⟨i4, ei4⟩ := is_v g4r
  obtain rfl : w4_ = (.int i4) := Option.some.inj ei4
  obtain ⟨hsets, hown0⟩ := atoms_of _ (rest_1_c_eq ▸ (show rest_1_c.before _ s = true from hrest))
  obtain ⟨cv, ecv⟩ := is_v (Cond.before_iff.mp (hsets _ (List.mem_of_getElem? (i := 1) rfl)))
  have S0 : Sta s s.heap "java/lang/String" "COMPACT_STRINGS" "Z" (.int cv) := Sta.start ecv (Or.inl (hsets _ (List.mem_of_getElem? (i := 0) rfl)))
  have c0 : ¬ (cv = (0 : Int32)) := gotF (Cond.eq_ints ecv (Term.int_eval (0))) (not_v (Cond.before_iff.mp (hsets _ (List.mem_of_getElem? (i := 2) rfl))))
  obtain ⟨de, ede⟩ := arr_v (Cond.before_iff.mp (hsets _ (List.mem_of_getElem? (i := 15) rfl)))
  have S1 : Sta s s.heap "java/util/ArrayList" "DEFAULTCAPACITY_EMPTY_ELEMENTDATA" "[Ljava/lang/Object;" (.ref de) := Sta.start ede (Or.inr ⟨(hw _ (List.mem_of_getElem? (i := 59) rfl)), (hsets _ (List.mem_of_getElem? (i := 11) rfl))⟩)
  obtain ⟨cd, AD⟩ := Arr.start ede (Cond.before_iff.mp (hsets _ (List.mem_of_getElem? (i := 15) rfl)))
  have SD := own_size (own_len ede AD (Cond.before_iff.mp (hsets _ (List.mem_of_getElem? (i := 17) rfl)))) (by decide)
  have ehi := own_eq_int (Cond.before_iff.mp (hsets _ (List.mem_of_getElem? (i := 21) rfl)))
  have S2 : Sta s s.heap "java/lang/Integer$IntegerCache" "high" "I" (.int 127) := Sta.start ehi (Or.inl (hsets _ (List.mem_of_getElem? (i := 19) rfl)))
  obtain ⟨ca, eca⟩ := arr_v (Cond.before_iff.mp (hsets _ (List.mem_of_getElem? (i := 22) rfl)))
  have S3 : Sta s s.heap "java/lang/Integer$IntegerCache" "cache" "[Ljava/lang/Integer;" (.ref ca) := Sta.start eca (Or.inr ⟨(hw _ (List.mem_of_getElem? (i := 344) rfl)), (hsets _ (List.mem_of_getElem? (i := 20) rfl))⟩)
  obtain ⟨cl, AC⟩ := Arr.start eca (Cond.before_iff.mp (hsets _ (List.mem_of_getElem? (i := 22) rfl)))
  have SC := own_size (own_len eca AC (Cond.before_iff.mp (hsets _ (List.mem_of_getElem? (i := 24) rfl)))) (by decide)
  have HC := own_cache (fun _ => eca) AC SC (Cond.before_iff.mp (hsets _ (List.mem_of_getElem? (i := 25) rfl)))
  have SB0 : SB s cv de ca := ⟨S0, c0, S1, ⟨cd, AD, SD, by decide⟩, S2, S3, cl, AC, SC, HC⟩
  have O0 : OL s s.heap.size s.heap := ⟨rfl, Nat.le_refl _, fun _ _ q => q⟩
  obtain ⟨n, o, h1, h2, h3, _, L, rfl, ⟨rfl, N⟩, hq⟩ := law0 (l := l) hw SB0 tables_1 i0 i1 i2 i3 i4 O0 p e ha hc hk s m _ below hf ((Spec.applies_iff_loose hf).mp happ).1 ⟨rfl, State.Warmed39.refl s, rfl⟩ trivial
  refine ⟨n, _, h1, h2, h3, hpost _ _ _ _ _ _ ⟨Cond.after_iff.mpr rfl, Cond.after_iff.mpr (eq_i res_at (Term.int_eval (1)) rfl), trivial⟩ ⟨hq.1, hq.2.1, (hq.2.2.sift fun y hy => Or.inr (N y hy)).mono (by decide) (by decide)⟩⟩
theorem main_1_1 : Claimed_1_1 := comes_1 fun _ _ _ _ _ _ h hF => ⟨h.1, hF⟩
theorem main_1_2 : Claimed_1_2 := comes_1 fun _ _ _ _ _ _ h hF => ⟨h.2.1, hF⟩
end Jvm.Pilot.@@N@@
namespace Jvm.Pilot.@@N@@
open Jvm Jvm.ClassFile Sem Op Lib Jvm.Free Jvm.Stand Jvm.Pilot.@@N@@.Jvm.D
/-! MADE BY PROGRAM (witnessworld.py) out of the Statement's table words and the real class files: 49 classes; the members and pool entries that the words name. The judged class is class 1, her method 1. -/
namespace start1
open Jvm.ClassFile
def u (s : String) : CpInfo := .utf8 (stringToUtf16 s)
/-- a pool by its gaps: so many unusable entries, then the entry; so many at the end -/
def gap : Nat → List CpInfo → List CpInfo
  | 0, r => r
  | n + 1, r => .unusable :: gap n r
def poolList (es : List (Nat × CpInfo)) (last : Nat) : List CpInfo := es.foldr (fun e r => gap e.1 (e.2 :: r)) (gap last [])
def pool (es : List (Nat × CpInfo)) (last : Nat) : Array CpInfo := ⟨poolList es last⟩
def fileOf (pool : Array CpInfo) (this : Nat) (attrs : Array Attribute := #[]) (ms : Array MethodInfo := #[]) (fl : Nat := 33) (sup : Nat := 0) (ifs : Array Nat := #[]) (fds : Array FieldInfo := #[]) : ClassFile where
  minorVersion := 0
  majorVersion := 65
  constantPool := pool
  accessFlags := fl
  thisClass := this
  superClass := sup
  interfaces := ifs
  fields := fds
  methods := ms
  attributes := attrs
def plain (name : String) (sup : Option ClassId) : Class where
  name := name
  kind := .ordinary
  loader := none
  accessFlags := 33
  super := sup
  interfaces := #[]
  cf := none
  fields := #[]
  methods := #[]
  instanceTypes := #[]
  staticTypes := #[]
  resolved := #[]
  callSites := []
  init := .initialized
  statics := none
  mirror := none
def pool0 : Array CpInfo := pool [(5, u "<init>"), (0, u "()V"), (1, .class_ 10), (1, u "java/lang/Object"), (16, u "hashCode"), (0, u "()I"), (67, u "clone"), (0, u "()Ljava/lang/Object;")] 26
def k0c0 : Code := ⟨0, 1, object_method_1_code, #[], #[]⟩
def k0m0 : Method := ⟨"<init>", "()V", ⟨[], none⟩, 1, some k0c0⟩
def k0m1 : Method := ⟨"hashCode", "()I", ⟨[], some .int⟩, 257, none⟩
def k0m2 : Method := ⟨"clone", "()Ljava/lang/Object;", ⟨[], some (.object "java/lang/Object")⟩, 260, none⟩
/-- java/lang/Object -/
def k0 : Class := { plain "java/lang/Object" none with
  cf := some (fileOf pool0 8 #[] #[⟨1, 5, 6, #[]⟩, ⟨257, 27, 28, #[]⟩, ⟨260, 96, 97, #[]⟩] 33 0 #[] #[])
  methods := #[k0m0, k0m1, k0m2]
  resolved := Array.replicate 124 none }
def pool1 : Array CpInfo := pool [(2, .class_ 4), (0, .nameAndType 5 6), (0, u "java/lang/Object"), (0, u "<init>"), (0, u "()V"), (0, .integer 2147483647), (0, .class_ 9), (0, u "java/util/LinkedHashMap"), (0, .methodref 8 3), (0, .methodref 12 13), (0, .class_ 14), (0, .nameAndType 15 16), (0, u "java/lang/String"), (0, u "valueOf"), (0, u "(C)Ljava/lang/String;"), (0, .methodref 18 19), (0, .class_ 20), (0, .nameAndType 21 22), (0, u "com/example/derivant/derivant/model/NextStateRelationIsFirstPinLaw"), (0, u "states"), (0, u "(I)Ljava/util/List;"), (0, .interfaceMethodref 24 25), (0, .class_ 26), (0, .nameAndType 27 28), (0, u "java/util/Map"), (0, u "put"), (0, u "(Ljava/lang/Object;Ljava/lang/Object;)Ljava/lang/Object;"), (0, .class_ 30), (0, u "com/example/derivant/derivant/model/NextStateRelation"), (0, .class_ 32), (0, u "java/util/ArrayList"), (0, .methodref 31 3), (0, .methodref 29 35), (0, .nameAndType 5 36), (0, u "(Ljava/util/Map;Ljava/util/List;)V"), (0, .methodref 29 38), (0, .nameAndType 39 40), (0, u "isFirst"), (0, u "(I)Z"), (0, .interfaceMethodref 42 43), (0, .class_ 44), (0, .nameAndType 45 46), (0, u "java/util/List"), (0, u "add"), (0, u "(Ljava/lang/Object;)Z"), (2, u "law"), (0, u "(IIIII)Z")] 5
def k1m0 : Method := ⟨"<init>", "()V", ⟨[], none⟩, 1, none⟩
def k1c1 : Code := ⟨5, 14, code, #[], #[]⟩
def k1m1 : Method := ⟨"law", "(IIIII)Z", ⟨[.int, .int, .int, .int, .int], some .boolean⟩, 9, some k1c1⟩
def k1c2 : Code := ⟨2, 2, method_3_code, #[], #[]⟩
def k1m2 : Method := ⟨"states", "(I)Ljava/util/List;", ⟨[.int], some (.object "java/util/List")⟩, 10, some k1c2⟩
/-- com/example/derivant/derivant/model/NextStateRelationIsFirstPinLaw -/
def k1 : Class := { plain "com/example/derivant/derivant/model/NextStateRelationIsFirstPinLaw" (some 0) with
  accessFlags := 49
  cf := some (fileOf pool1 18 #[] #[⟨1, 5, 6, #[]⟩, ⟨9, 49, 50, #[]⟩, ⟨10, 21, 22, #[]⟩] 49 2 #[] #[])
  methods := #[k1m0, k1m1, k1m2]
  resolved := Array.replicate 56 none }
def pool2 : Array CpInfo := pool [(2, .class_ 4), (1, u "java/util/Map"), (0, u "get"), (0, u "(Ljava/lang/Object;)Ljava/lang/Object;"), (11, u "entrySet"), (0, u "()Ljava/util/Set;"), (16, .class_ 37), (0, u "java/util/Map$Entry"), (25, u "(Ljava/lang/Object;Ljava/lang/Object;)Ljava/lang/Object;"), (5, u "put"), (23, .class_ 94), (0, u "java/lang/Object")] 168
def k2m0 : Method := ⟨"get", "(Ljava/lang/Object;)Ljava/lang/Object;", ⟨[(.object "java/lang/Object")], some (.object "java/lang/Object")⟩, 1025, none⟩
def k2m1 : Method := ⟨"put", "(Ljava/lang/Object;Ljava/lang/Object;)Ljava/lang/Object;", ⟨[(.object "java/lang/Object"), (.object "java/lang/Object")], some (.object "java/lang/Object")⟩, 1025, none⟩
def k2m2 : Method := ⟨"entrySet", "()Ljava/util/Set;", ⟨[], some (.object "java/util/Set")⟩, 1025, none⟩
/-- java/util/Map -/
def k2 : Class := { plain "java/util/Map" (some 0) with
  accessFlags := 1537
  cf := some (fileOf pool2 2 #[.nestMembers #[36]] #[⟨1025, 5, 6, #[]⟩, ⟨1025, 69, 63, #[]⟩, ⟨1025, 18, 19, #[]⟩] 1537 93 #[] #[])
  methods := #[k2m0, k2m1, k2m2]
  resolved := Array.replicate 263 none }
def pool3 : Array CpInfo := pool [(1, .methodref 2 3), (0, .class_ 4), (0, .nameAndType 5 6), (0, u "java/lang/Object"), (0, u "<init>"), (0, u "()V"), (1, .class_ 10), (1, u "java/util/AbstractMap"), (42, .class_ 54), (0, u "java/util/Map"), (9, u "keySet"), (0, u "Ljava/util/Set;"), (0, .class_ 67), (0, u "java/util/AbstractMap$1"), (5, u "values"), (0, u "Ljava/util/Collection;"), (0, .class_ 76), (0, u "java/util/AbstractMap$2"), (104, .class_ 182), (0, u "java/util/AbstractMap$ViewCollection"), (0, .class_ 184), (0, u "java/util/AbstractMap$SimpleImmutableEntry"), (0, .class_ 186), (0, u "java/util/AbstractMap$SimpleEntry"), (0, .class_ 188), (0, u "java/util/AbstractMap$2$1"), (0, .class_ 190), (0, u "java/util/AbstractMap$1$1")] 5
def k3c0 : Code := ⟨1, 1, jdk_71_method_1_code, #[], #[]⟩
def k3m0 : Method := ⟨"<init>", "()V", ⟨[], none⟩, 4, some k3c0⟩
/-- java/util/AbstractMap -/
def k3 : Class := { plain "java/util/AbstractMap" (some 0) with
  accessFlags := 1057
  interfaces := #[2]
  cf := some (fileOf pool3 8 #[.nestMembers #[181, 183, 185, 75, 187, 66, 189]] #[⟨4, 5, 6, #[]⟩] 1057 2 #[53] #[⟨128, 64, 65, #[]⟩, ⟨128, 73, 74, #[]⟩])
  fields := #[⟨"keySet", .object "java/util/Set", 128, 0, 0⟩, ⟨"values", .object "java/util/Collection", 128, 1, 0⟩]
  methods := #[k3m0]
  instanceTypes := #[(.object "java/util/Set"), (.object "java/util/Collection")]
  resolved := Array.replicate 196 none }
def pool4 : Array CpInfo := pool [(1, .class_ 2), (0, u "java/lang/Cloneable"), (0, .class_ 4), (0, u "java/lang/Object")] 2
/-- java/lang/Cloneable -/
def k4 : Class := { plain "java/lang/Cloneable" (some 0) with
  accessFlags := 1537
  cf := some (fileOf pool4 1 #[] #[] 1537 3 #[] #[])
  resolved := Array.replicate 7 none }
def pool5 : Array CpInfo := pool [(1, .class_ 2), (0, u "java/io/Serializable"), (0, .class_ 4), (0, u "java/lang/Object")] 2
/-- java/io/Serializable -/
def k5 : Class := { plain "java/io/Serializable" (some 0) with
  accessFlags := 1537
  cf := some (fileOf pool5 1 #[] #[] 1537 3 #[] #[])
  resolved := Array.replicate 7 none }
def pool6 : Array CpInfo := pool [(1, .methodref 2 3), (0, .class_ 4), (0, .nameAndType 5 6), (0, u "java/lang/Object"), (0, u "hashCode"), (0, u "()I"), (26, u "(Ljava/lang/Object;)I"), (6, .class_ 41), (0, u "java/util/HashMap"), (1, .methodref 44 45), (0, .class_ 46), (0, .nameAndType 47 48), (0, u "java/util/AbstractMap"), (0, u "<init>"), (0, u "()V"), (32, .fieldref 40 82), (0, .nameAndType 83 84), (0, u "loadFactor"), (0, u "F"), (3, .fieldref 40 89), (0, .nameAndType 90 91), (0, u "threshold"), (0, u "I"), (0, .float 1061158912), (8, .class_ 103), (1, u "java/util/Map"), (0, u "size"), (0, .fieldref 40 106), (0, .nameAndType 107 108), (0, u "table"), (0, u "[Ljava/util/HashMap$Node;"), (8, .methodref 40 118), (0, .nameAndType 119 120), (0, u "resize"), (0, u "()[Ljava/util/HashMap$Node;"), (2, u "entrySet"), (25, .methodref 40 150), (0, .nameAndType 151 33), (0, u "hash"), (0, .methodref 40 153), (0, .nameAndType 154 155), (0, u "putVal"), (0, u "(ILjava/lang/Object;Ljava/lang/Object;ZZ)Ljava/lang/Object;"), (0, .fieldref 40 157), (0, .nameAndType 104 91), (0, .methodref 40 159), (0, .nameAndType 160 161), (0, u "getNode"), (0, u "(Ljava/lang/Object;)Ljava/util/HashMap$Node;"), (0, .fieldref 163 164), (0, .class_ 165), (0, .nameAndType 166 167), (0, u "java/util/HashMap$Node"), (0, u "value"), (0, u "Ljava/lang/Object;"), (0, .fieldref 163 169), (0, .nameAndType 151 91), (0, .fieldref 163 171), (0, .nameAndType 172 167), (0, u "key"), (7, .class_ 181), (0, u "java/util/HashMap$TreeNode"), (4, .methodref 40 187), (0, .nameAndType 188 189), (0, u "newNode"), (0, u "(ILjava/lang/Object;Ljava/lang/Object;Ljava/util/HashMap$Node;)Ljava/util/HashMap$Node;"), (12, .fieldref 40 203), (0, .nameAndType 204 91), (0, u "modCount"), (0, .methodref 40 206), (0, .nameAndType 207 208), (0, u "afterNodeInsertion"), (0, u "(Z)V"), (33, u "Ljava/util/Set;"), (0, .class_ 244), (0, u "java/util/HashMap$KeySet"), (18, .class_ 264), (0, u "java/util/HashMap$Values"), (3, .class_ 269), (0, u "java/util/HashMap$EntrySet"), (9, u "(Ljava/lang/Object;)Ljava/lang/Object;"), (7, u "(Ljava/lang/Object;Ljava/lang/Object;)Ljava/lang/Object;"), (46, u "get"), (11, .class_ 348), (1, u "java/util/HashMap$UnsafeHolder"), (26, .methodref 163 376), (0, .nameAndType 47 377), (0, u "(ILjava/lang/Object;Ljava/lang/Object;Ljava/util/HashMap$Node;)V"), (14, .class_ 393), (0, u "java/lang/Cloneable"), (0, .class_ 395), (0, u "java/io/Serializable"), (0, u "serialVersionUID"), (0, u "J"), (3, u "DEFAULT_INITIAL_CAPACITY"), (1, u "MAXIMUM_CAPACITY"), (0, u "DEFAULT_LOAD_FACTOR"), (0, u "TREEIFY_THRESHOLD"), (1, u "UNTREEIFY_THRESHOLD"), (1, u "MIN_TREEIFY_CAPACITY"), (60, u "put"), (125, .class_ 597), (0, u "java/util/HashMap$EntrySpliterator"), (0, .class_ 599), (0, u "java/util/HashMap$ValueSpliterator"), (0, .class_ 601), (0, u "java/util/HashMap$KeySpliterator"), (0, .class_ 603), (0, u "java/util/HashMap$HashMapSpliterator"), (0, .class_ 605), (0, u "java/util/HashMap$EntryIterator"), (0, .class_ 607), (0, u "java/util/HashMap$ValueIterator"), (0, .class_ 609), (0, u "java/util/HashMap$KeyIterator"), (0, .class_ 611), (0, u "java/util/HashMap$HashIterator")] 17
def k6c0 : Code := ⟨3, 2, jdk_69_method_1_code, #[], #[]⟩
def k6m0 : Method := ⟨"hash", "(Ljava/lang/Object;)I", ⟨[(.object "java/lang/Object")], some .int⟩, 24, some k6c0⟩
def k6c1 : Code := ⟨2, 1, jdk_69_method_7_code, #[], #[]⟩
def k6m1 : Method := ⟨"<init>", "()V", ⟨[], none⟩, 1, some k6c1⟩
def k6c2 : Code := ⟨2, 3, jdk_69_method_12_code, #[], #[]⟩
def k6m2 : Method := ⟨"get", "(Ljava/lang/Object;)Ljava/lang/Object;", ⟨[(.object "java/lang/Object")], some (.object "java/lang/Object")⟩, 1, some k6c2⟩
def k6c3 : Code := ⟨4, 8, jdk_69_method_13_code, #[], #[]⟩
def k6m3 : Method := ⟨"getNode", "(Ljava/lang/Object;)Ljava/util/HashMap$Node;", ⟨[(.object "java/lang/Object")], some (.object "java/util/HashMap$Node")⟩, 16, some k6c3⟩
def k6c4 : Code := ⟨6, 3, jdk_69_method_15_code, #[], #[]⟩
def k6m4 : Method := ⟨"put", "(Ljava/lang/Object;Ljava/lang/Object;)Ljava/lang/Object;", ⟨[(.object "java/lang/Object"), (.object "java/lang/Object")], some (.object "java/lang/Object")⟩, 1, some k6c4⟩
def k6c5 : Code := ⟨7, 13, jdk_69_method_16_code, #[], #[]⟩
def k6m5 : Method := ⟨"putVal", "(ILjava/lang/Object;Ljava/lang/Object;ZZ)Ljava/lang/Object;", ⟨[.int, (.object "java/lang/Object"), (.object "java/lang/Object"), .boolean, .boolean], some (.object "java/lang/Object")⟩, 16, some k6c5⟩
def k6c6 : Code := ⟨5, 14, jdk_69_method_17_code, #[], #[]⟩
def k6m6 : Method := ⟨"resize", "()[Ljava/util/HashMap$Node;", ⟨[], some (.array (.object "java/util/HashMap$Node"))⟩, 16, some k6c6⟩
def k6c7 : Code := ⟨6, 5, jdk_69_method_46_code, #[], #[]⟩
def k6m7 : Method := ⟨"newNode", "(ILjava/lang/Object;Ljava/lang/Object;Ljava/util/HashMap$Node;)Ljava/util/HashMap$Node;", ⟨[.int, (.object "java/lang/Object"), (.object "java/lang/Object"), (.object "java/util/HashMap$Node")], some (.object "java/util/HashMap$Node")⟩, 0, some k6c7⟩
def k6c8 : Code := ⟨0, 2, jdk_69_method_52_code, #[], #[]⟩
def k6m8 : Method := ⟨"afterNodeInsertion", "(Z)V", ⟨[.boolean], none⟩, 0, some k6c8⟩
/-- java/util/HashMap -/
def k6 : Class := { plain "java/util/HashMap" (some 3) with
  interfaces := #[2, 4, 5]
  cf := some (fileOf pool6 40 #[.nestMembers #[180, 596, 598, 600, 602, 604, 606, 608, 610, 346, 268, 263, 243, 163]] #[⟨24, 151, 33, #[]⟩, ⟨1, 47, 48, #[]⟩, ⟨1, 334, 279, #[]⟩, ⟨16, 160, 161, #[]⟩, ⟨1, 470, 287, #[]⟩, ⟨16, 154, 155, #[]⟩, ⟨16, 119, 120, #[]⟩, ⟨0, 188, 189, #[]⟩, ⟨0, 207, 208, #[]⟩] 33 44 #[101, 392, 394] #[⟨26, 396, 397, #[]⟩, ⟨24, 401, 91, #[]⟩, ⟨24, 403, 91, #[]⟩, ⟨24, 404, 84, #[]⟩, ⟨24, 405, 91, #[]⟩, ⟨24, 407, 91, #[]⟩, ⟨24, 409, 91, #[]⟩, ⟨128, 107, 108, #[]⟩, ⟨128, 123, 242, #[]⟩, ⟨128, 104, 91, #[]⟩, ⟨128, 204, 91, #[]⟩, ⟨0, 90, 91, #[]⟩, ⟨16, 83, 84, #[]⟩])
  fields := #[⟨"serialVersionUID", .long, 26, 0, 0⟩, ⟨"DEFAULT_INITIAL_CAPACITY", .int, 24, 1, 0⟩, ⟨"MAXIMUM_CAPACITY", .int, 24, 2, 0⟩, ⟨"DEFAULT_LOAD_FACTOR", .float, 24, 3, 0⟩, ⟨"TREEIFY_THRESHOLD", .int, 24, 4, 0⟩, ⟨"UNTREEIFY_THRESHOLD", .int, 24, 5, 0⟩, ⟨"MIN_TREEIFY_CAPACITY", .int, 24, 6, 0⟩, ⟨"table", .array (.object "java/util/HashMap$Node"), 128, 2, 0⟩, ⟨"entrySet", .object "java/util/Set", 128, 3, 0⟩, ⟨"size", .int, 128, 4, 0⟩, ⟨"modCount", .int, 128, 5, 0⟩, ⟨"threshold", .int, 0, 6, 0⟩, ⟨"loadFactor", .float, 16, 7, 0⟩]
  methods := #[k6m0, k6m1, k6m2, k6m3, k6m4, k6m5, k6m6, k6m7, k6m8]
  instanceTypes := #[(.object "java/util/Set"), (.object "java/util/Collection"), (.array (.object "java/util/HashMap$Node")), (.object "java/util/Set"), .int, .int, .int, .float]
  staticTypes := #[.long, .int, .int, .float, .int, .int, .int]
  resolved := Array.replicate 629 none }
def pool7 : Array CpInfo := pool [(2, .class_ 4), (1, u "java/util/SequencedMap"), (38, .class_ 44), (0, u "java/util/SequencedMap$1SeqKeySet"), (3, .class_ 49), (0, u "java/util/SequencedMap$1SeqValues"), (1, .class_ 52), (0, u "java/util/SequencedMap$1SeqEntrySet"), (1, .class_ 55), (0, u "java/lang/Object"), (0, .class_ 57), (0, u "java/util/Map")] 48
/-- java/util/SequencedMap -/
def k7 : Class := { plain "java/util/SequencedMap" (some 0) with
  accessFlags := 1537
  interfaces := #[2]
  cf := some (fileOf pool7 2 #[.nestMembers #[51, 48, 43]] #[] 1537 54 #[56] #[])
  resolved := Array.replicate 106 none }
def pool8 : Array CpInfo := pool [(1, .fieldref 2 3), (0, .class_ 4), (0, .nameAndType 5 6), (0, u "java/util/LinkedHashMap"), (0, u "putMode"), (0, u "I"), (0, .fieldref 2 8), (0, .nameAndType 9 10), (0, u "head"), (0, u "Ljava/util/LinkedHashMap$Entry;"), (0, .fieldref 2 12), (0, .nameAndType 13 10), (0, u "tail"), (0, .fieldref 15 16), (0, .class_ 17), (0, .nameAndType 18 10), (0, u "java/util/LinkedHashMap$Entry"), (0, u "after"), (0, .fieldref 15 20), (0, .nameAndType 21 10), (0, u "before"), (1, .class_ 25), (1, u "java/util/HashMap"), (1, u "()V"), (0, .methodref 15 29), (0, .nameAndType 30 31), (0, u "<init>"), (0, u "(ILjava/lang/Object;Ljava/lang/Object;Ljava/util/HashMap$Node;)V"), (0, .methodref 2 33), (0, .nameAndType 34 35), (0, u "linkNodeAtEnd"), (0, u "(Ljava/util/LinkedHashMap$Entry;)V"), (17, .methodref 2 54), (0, .nameAndType 55 56), (0, u "removeEldestEntry"), (0, u "(Ljava/util/Map$Entry;)Z"), (7, .fieldref 2 65), (0, .nameAndType 66 67), (0, u "accessOrder"), (0, u "Z"), (19, .methodref 23 88), (0, .nameAndType 30 27), (27, u "()Ljava/util/SequencedSet;"), (3, u "Ljava/util/Set;"), (0, .class_ 122), (0, u "java/util/LinkedHashMap$LinkedKeySet"), (1, .nameAndType 30 125), (0, u "(Ljava/util/LinkedHashMap;Z)V"), (0, .class_ 127), (0, u "java/util/SequencedSet"), (15, .class_ 144), (0, u "java/util/LinkedHashMap$LinkedValues"), (3, .methodref 2 149), (0, .nameAndType 150 116), (0, u "sequencedEntrySet"), (0, .fieldref 2 152), (0, .nameAndType 153 120), (0, u "entrySet"), (0, .class_ 155), (0, u "java/util/LinkedHashMap$LinkedEntrySet"), (0, .methodref 154 124), (43, .class_ 201), (0, u "java/util/LinkedHashMap$ReversedLinkedHashMapView"), (3, .class_ 206), (0, u "java/util/SequencedMap"), (0, u "serialVersionUID"), (0, u "J"), (5, u "PUT_NORM"), (1, u "PUT_FIRST"), (1, u "PUT_LAST"), (18, u "newNode"), (0, u "(ILjava/lang/Object;Ljava/lang/Object;Ljava/util/HashMap$Node;)Ljava/util/HashMap$Node;"), (22, u "afterNodeInsertion"), (0, u "(Z)V"), (35, u "()Ljava/util/Set;"), (63, .class_ 363), (0, u "java/util/LinkedHashMap$LinkedEntryIterator"), (0, .class_ 365), (0, u "java/util/LinkedHashMap$LinkedValueIterator"), (0, .class_ 367), (0, u "java/util/LinkedHashMap$LinkedKeyIterator"), (0, .class_ 369), (0, u "java/util/LinkedHashMap$LinkedHashIterator")] 16
def k8c0 : Code := ⟨2, 3, jdk_94_method_1_code, #[], #[]⟩
def k8m0 : Method := ⟨"linkNodeAtEnd", "(Ljava/util/LinkedHashMap$Entry;)V", ⟨[(.object "java/util/LinkedHashMap$Entry")], none⟩, 2, some k8c0⟩
def k8c1 : Code := ⟨6, 6, jdk_94_method_4_code, #[], #[]⟩
def k8m1 : Method := ⟨"newNode", "(ILjava/lang/Object;Ljava/lang/Object;Ljava/util/HashMap$Node;)Ljava/util/HashMap$Node;", ⟨[.int, (.object "java/lang/Object"), (.object "java/lang/Object"), (.object "java/util/HashMap$Node")], some (.object "java/util/HashMap$Node")⟩, 0, some k8c1⟩
def k8c2 : Code := ⟨6, 4, jdk_94_method_9_code, #[], #[]⟩
def k8m2 : Method := ⟨"afterNodeInsertion", "(Z)V", ⟨[.boolean], none⟩, 0, some k8c2⟩
def k8c3 : Code := ⟨2, 1, jdk_94_method_16_code, #[], #[]⟩
def k8m3 : Method := ⟨"<init>", "()V", ⟨[], none⟩, 1, some k8c3⟩
def k8c4 : Code := ⟨1, 2, jdk_94_method_23_code, #[], #[]⟩
def k8m4 : Method := ⟨"removeEldestEntry", "(Ljava/util/Map$Entry;)Z", ⟨[(.object "java/util/Map$Entry")], some .boolean⟩, 4, some k8c4⟩
def k8c5 : Code := ⟨1, 1, jdk_94_method_32_code, #[], #[]⟩
def k8m5 : Method := ⟨"entrySet", "()Ljava/util/Set;", ⟨[], some (.object "java/util/Set")⟩, 1, some k8c5⟩
def k8c6 : Code := ⟨4, 3, jdk_94_method_33_code, #[], #[]⟩
def k8m6 : Method := ⟨"sequencedEntrySet", "()Ljava/util/SequencedSet;", ⟨[], some (.object "java/util/SequencedSet")⟩, 1, some k8c6⟩
/-- java/util/LinkedHashMap -/
def k8 : Class := { plain "java/util/LinkedHashMap" (some 6) with
  interfaces := #[7]
  cf := some (fileOf pool8 2 #[.nestMembers #[200, 362, 364, 366, 368, 154, 143, 121, 15]] #[⟨2, 34, 35, #[]⟩, ⟨0, 237, 238, #[]⟩, ⟨0, 261, 262, #[]⟩, ⟨1, 30, 27, #[]⟩, ⟨4, 55, 56, #[]⟩, ⟨1, 153, 298, #[]⟩, ⟨1, 150, 116, #[]⟩] 33 23 #[205] #[⟨26, 207, 208, #[]⟩, ⟨128, 9, 10, #[]⟩, ⟨128, 13, 10, #[]⟩, ⟨16, 66, 67, #[]⟩, ⟨24, 214, 6, #[]⟩, ⟨24, 216, 6, #[]⟩, ⟨24, 218, 6, #[]⟩, ⟨128, 5, 6, #[]⟩])
  fields := #[⟨"serialVersionUID", .long, 26, 0, 0⟩, ⟨"head", .object "java/util/LinkedHashMap$Entry", 128, 8, 0⟩, ⟨"tail", .object "java/util/LinkedHashMap$Entry", 128, 9, 0⟩, ⟨"accessOrder", .boolean, 16, 10, 0⟩, ⟨"PUT_NORM", .int, 24, 1, 0⟩, ⟨"PUT_FIRST", .int, 24, 2, 0⟩, ⟨"PUT_LAST", .int, 24, 3, 0⟩, ⟨"putMode", .int, 128, 11, 0⟩]
  methods := #[k8m0, k8m1, k8m2, k8m3, k8m4, k8m5, k8m6]
  instanceTypes := #[(.object "java/util/Set"), (.object "java/util/Collection"), (.array (.object "java/util/HashMap$Node")), (.object "java/util/Set"), .int, .int, .int, .float, (.object "java/util/LinkedHashMap$Entry"), (.object "java/util/LinkedHashMap$Entry"), .boolean, .int]
  staticTypes := #[.long, .int, .int, .int]
  resolved := Array.replicate 386 none }
def pool9 : Array CpInfo := pool [(1, .class_ 2), (0, u "java/lang/Comparable"), (0, .class_ 4), (0, u "java/lang/Object")] 7
/-- java/lang/Comparable -/
def k9 : Class := { plain "java/lang/Comparable" (some 0) with
  accessFlags := 1537
  cf := some (fileOf pool9 1 #[] #[] 1537 3 #[] #[])
  resolved := Array.replicate 12 none }
def pool10 : Array CpInfo := pool [(2, .class_ 4), (1, u "java/lang/CharSequence"), (42, .class_ 48), (0, u "java/lang/CharSequence$1CodePointIterator"), (10, .class_ 60), (0, u "java/lang/CharSequence$1CharIterator"), (5, .class_ 67), (0, u "java/lang/Object")] 63
/-- java/lang/CharSequence -/
def k10 : Class := { plain "java/lang/CharSequence" (some 0) with
  accessFlags := 1537
  cf := some (fileOf pool10 2 #[.nestMembers #[47, 59]] #[] 1537 66 #[] #[])
  resolved := Array.replicate 131 none }
def pool11 : Array CpInfo := pool [(1, .class_ 2), (0, u "java/lang/constant/Constable"), (0, .class_ 4), (0, u "java/lang/Object")] 6
/-- java/lang/constant/Constable -/
def k11 : Class := { plain "java/lang/constant/Constable" (some 0) with
  accessFlags := 1537
  cf := some (fileOf pool11 1 #[] #[] 1537 3 #[] #[])
  resolved := Array.replicate 11 none }
def pool12 : Array CpInfo := pool [(1, .class_ 2), (0, u "java/lang/constant/ConstantDesc"), (0, .class_ 4), (0, u "java/lang/Object")] 32
/-- java/lang/constant/ConstantDesc -/
def k12 : Class := { plain "java/lang/constant/ConstantDesc" (some 0) with
  accessFlags := 1537
  cf := some (fileOf pool12 1 #[] #[] 1537 3 #[] #[])
  resolved := Array.replicate 37 none }
def pool13 : Array CpInfo := pool [(1, .methodref 2 3), (0, .class_ 4), (0, .nameAndType 5 6), (0, u "java/lang/Object"), (0, u "<init>"), (0, u "()V"), (2, .fieldref 10 11), (0, .class_ 12), (0, .nameAndType 13 14), (0, u "java/lang/String"), (0, u "value"), (0, u "[B"), (0, .fieldref 10 16), (0, .nameAndType 17 18), (0, u "coder"), (0, u "B"), (0, .fieldref 10 20), (0, .nameAndType 21 22), (0, u "hash"), (0, u "I"), (0, .fieldref 10 24), (0, .nameAndType 25 26), (0, u "hashIsZero"), (0, u "Z"), (11, .fieldref 10 39), (0, .nameAndType 40 26), (0, u "COMPACT_STRINGS"), (12, u "toBytes"), (53, .class_ 109), (1, u "java/lang/StringLatin1"), (32, u "()Z"), (66, .methodref 10 210), (0, .nameAndType 5 211), (0, u "([BB)V"), (122, u "()I"), (34, u "(C)Z"), (122, .methodref 10 493), (0, .nameAndType 494 142), (0, u "isLatin1"), (80, .class_ 576), (0, u "java/lang/CharSequence"), (22, u "CASE_INSENSITIVE_ORDER"), (0, u "Ljava/util/Comparator;"), (27, .methodref 107 629), (0, .nameAndType 630 631), (0, u "hashCode"), (0, u "([B)I"), (150, u "valueOf"), (0, u "(C)Ljava/lang/String;"), (231, .methodref 107 1016), (0, .nameAndType 1017 369), (0, u "canEncode"), (0, .methodref 107 1019), (0, .nameAndType 53 1020), (0, u "(C)[B"), (80, u "serialPersistentFields"), (0, u "[Ljava/io/ObjectStreamField;"), (0, .class_ 1104), (0, u "java/lang/String$CaseInsensitiveComparator"), (1, .class_ 1107), (0, u "java/io/Serializable"), (0, .class_ 1109), (0, u "java/lang/Comparable"), (0, .class_ 1111), (0, u "java/lang/constant/Constable"), (0, .class_ 1113), (0, u "java/lang/constant/ConstantDesc"), (2, u "serialVersionUID"), (0, u "J"), (3, u "REPL"), (0, u "C"), (2, u "LATIN1"), (1, u "UTF16")] 323
def k13m0 : Method := ⟨"<init>", "()V", ⟨[], none⟩, 1, none⟩
def k13c1 : Code := ⟨2, 2, jdk_42_method_78_code, #[], #[]⟩
def k13m1 : Method := ⟨"hashCode", "()I", ⟨[], some .int⟩, 1, some k13c1⟩
def k13c2 : Code := ⟨4, 1, jdk_42_method_139_code, #[], #[]⟩
def k13m2 : Method := ⟨"valueOf", "(C)Ljava/lang/String;", ⟨[.char], some (.object "java/lang/String")⟩, 9, some k13c2⟩
def k13c3 : Code := ⟨2, 3, jdk_42_method_151_code, #[], #[]⟩
def k13m3 : Method := ⟨"<init>", "([BB)V", ⟨[(.array .byte), .byte], none⟩, 0, some k13c3⟩
def k13c4 : Code := ⟨1, 1, jdk_42_method_154_code, #[], #[]⟩
def k13m4 : Method := ⟨"isLatin1", "()Z", ⟨[], some .boolean⟩, 0, some k13c4⟩
/-- java/lang/String -/
def k13 : Class := { plain "java/lang/String" (some 0) with
  accessFlags := 49
  interfaces := #[5, 9, 10, 11, 12]
  cf := some (fileOf pool13 10 #[.nestMembers #[1103]] #[⟨1, 5, 6, #[]⟩, ⟨1, 630, 334, #[]⟩, ⟨9, 782, 783, #[]⟩, ⟨0, 5, 211, #[]⟩, ⟨0, 494, 142, #[]⟩] 49 2 #[1106, 1108, 575, 1110, 1112] #[⟨18, 13, 14, #[]⟩, ⟨18, 17, 18, #[]⟩, ⟨2, 21, 22, #[]⟩, ⟨2, 25, 26, #[]⟩, ⟨26, 1116, 1117, #[]⟩, ⟨24, 40, 26, #[]⟩, ⟨26, 1101, 1102, #[]⟩, ⟨26, 1121, 1122, #[]⟩, ⟨25, 599, 600, #[]⟩, ⟨24, 1125, 18, #[]⟩, ⟨24, 1127, 18, #[]⟩])
  fields := #[⟨"value", .array .byte, 18, 0, 0⟩, ⟨"coder", .byte, 18, 1, 0⟩, ⟨"hash", .int, 2, 2, 0⟩, ⟨"hashIsZero", .boolean, 2, 3, 0⟩, ⟨"serialVersionUID", .long, 26, 0, 0⟩, ⟨"COMPACT_STRINGS", .boolean, 24, 1, 0⟩, ⟨"serialPersistentFields", .array (.object "java/io/ObjectStreamField"), 26, 2, 0⟩, ⟨"REPL", .char, 26, 3, 0⟩, ⟨"CASE_INSENSITIVE_ORDER", .object "java/util/Comparator", 25, 4, 0⟩, ⟨"LATIN1", .byte, 24, 5, 0⟩, ⟨"UTF16", .byte, 24, 6, 0⟩]
  methods := #[k13m0, k13m1, k13m2, k13m3, k13m4]
  instanceTypes := #[(.array .byte), .byte, .int, .boolean]
  staticTypes := #[.long, .boolean, (.array (.object "java/io/ObjectStreamField")), .char, (.object "java/util/Comparator"), .byte, .byte]
  resolved := Array.replicate 1451 none
  statics := some 0 }
def pool14 : Array CpInfo := pool [(4, .class_ 6), (1, u "java/lang/Object"), (0, u "<init>"), (0, u "()V"), (5, .class_ 16), (1, u "java/lang/StringLatin1"), (40, u "([B)I"), (32, u "canEncode"), (14, u "(C)Z"), (15, u "$assertionsDisabled"), (0, u "Z"), (98, .class_ 223), (1, u "java/lang/StringLatin1$LinesSpliterator"), (74, u "hashCode"), (81, u "toBytes"), (1, u "(C)[B"), (7, .class_ 391), (0, u "java/lang/StringLatin1$CharsSpliterator")] 3
def k14m0 : Method := ⟨"<init>", "()V", ⟨[], none⟩, 0, none⟩
def k14c1 : Code := ⟨2, 1, jdk_43_method_3_code, #[], #[]⟩
def k14m1 : Method := ⟨"canEncode", "(C)Z", ⟨[.char], some .boolean⟩, 9, some k14c1⟩
def k14c2 : Code := ⟨5, 1, jdk_43_method_21_code, #[], #[]⟩
def k14m2 : Method := ⟨"hashCode", "([B)I", ⟨[(.array .byte)], some .int⟩, 9, some k14c2⟩
def k14c3 : Code := ⟨4, 1, jdk_43_method_46_code, #[], #[]⟩
def k14m3 : Method := ⟨"toBytes", "(C)[B", ⟨[.char], some (.array .byte)⟩, 9, some k14c3⟩
/-- java/lang/StringLatin1 -/
def k14 : Class := { plain "java/lang/StringLatin1" (some 0) with
  accessFlags := 48
  cf := some (fileOf pool14 14 #[.nestMembers #[390, 221]] #[⟨0, 7, 8, #[]⟩, ⟨9, 90, 105, #[]⟩, ⟨9, 298, 57, #[]⟩, ⟨9, 380, 382, #[]⟩] 48 4 #[] #[⟨4120, 121, 122, #[]⟩])
  fields := #[⟨"$assertionsDisabled", .boolean, 4120, 0, 0⟩]
  methods := #[k14m0, k14m1, k14m2, k14m3]
  staticTypes := #[.boolean]
  resolved := Array.replicate 395 none }
def pool15 : Array CpInfo := pool [(8, .class_ 10), (1, u "java/lang/Iterable"), (24, .class_ 36), (0, u "java/lang/Object")] 25
/-- java/lang/Iterable -/
def k15 : Class := { plain "java/lang/Iterable" (some 0) with
  accessFlags := 1537
  cf := some (fileOf pool15 8 #[] #[] 1537 35 #[] #[])
  resolved := Array.replicate 62 none }
def pool16 : Array CpInfo := pool [(10, .class_ 12), (1, u "java/util/Collection"), (47, .class_ 61), (0, u "java/lang/Object"), (0, .class_ 63), (0, u "java/lang/Iterable")] 51
/-- java/util/Collection -/
def k16 : Class := { plain "java/util/Collection" (some 0) with
  accessFlags := 1537
  interfaces := #[15]
  cf := some (fileOf pool16 10 #[] #[] 1537 60 #[62] #[])
  resolved := Array.replicate 115 none }
def pool17 : Array CpInfo := pool [(1, .methodref 2 3), (0, .class_ 4), (0, .nameAndType 5 6), (0, u "java/lang/Object"), (0, u "<init>"), (0, u "()V"), (1, .class_ 10), (1, u "java/util/AbstractCollection"), (66, .class_ 78), (0, u "java/util/Collection")] 81
def k17c0 : Code := ⟨1, 1, jdk_22_method_1_code, #[], #[]⟩
def k17m0 : Method := ⟨"<init>", "()V", ⟨[], none⟩, 4, some k17c0⟩
/-- java/util/AbstractCollection -/
def k17 : Class := { plain "java/util/AbstractCollection" (some 0) with
  accessFlags := 1057
  interfaces := #[16]
  cf := some (fileOf pool17 8 #[] #[⟨4, 5, 6, #[]⟩] 1057 2 #[77] #[])
  methods := #[k17m0]
  resolved := Array.replicate 160 none }
def pool18 : Array CpInfo := pool [(8, .class_ 10), (1, u "java/util/SequencedCollection"), (15, .class_ 27), (0, u "java/lang/Object"), (0, .class_ 29), (0, u "java/util/Collection")] 27
/-- java/util/SequencedCollection -/
def k18 : Class := { plain "java/util/SequencedCollection" (some 0) with
  accessFlags := 1537
  interfaces := #[16]
  cf := some (fileOf pool18 8 #[] #[] 1537 26 #[28] #[])
  resolved := Array.replicate 57 none }
def pool19 : Array CpInfo := pool [(8, .class_ 10), (1, u "java/util/List"), (49, u "add"), (3, u "(Ljava/lang/Object;)Z"), (14, u "size"), (0, u "()I"), (22, .class_ 104), (0, u "java/lang/Object"), (15, .class_ 121), (0, u "java/util/SequencedCollection")] 129
def k19m0 : Method := ⟨"size", "()I", ⟨[], some .int⟩, 1025, none⟩
def k19m1 : Method := ⟨"add", "(Ljava/lang/Object;)Z", ⟨[(.object "java/lang/Object")], some .boolean⟩, 1025, none⟩
/-- java/util/List -/
def k19 : Class := { plain "java/util/List" (some 0) with
  accessFlags := 1537
  interfaces := #[18]
  cf := some (fileOf pool19 8 #[] #[⟨1025, 79, 80, #[]⟩, ⟨1025, 60, 64, #[]⟩] 1537 103 #[120] #[])
  methods := #[k19m0, k19m1]
  resolved := Array.replicate 251 none }
def pool20 : Array CpInfo := pool [(1, .methodref 2 3), (0, .class_ 4), (0, .nameAndType 5 6), (0, u "java/util/AbstractCollection"), (0, u "<init>"), (0, u "()V"), (0, .fieldref 8 9), (0, .class_ 10), (0, .nameAndType 11 12), (0, u "java/util/AbstractList"), (0, u "modCount"), (0, u "I"), (64, .class_ 78), (0, u "java/util/AbstractList$Itr"), (3, .class_ 83), (0, u "java/util/AbstractList$ListItr"), (9, .class_ 94), (0, u "java/util/AbstractList$RandomAccessSubList"), (3, .class_ 99), (0, u "java/util/AbstractList$SubList"), (33, .class_ 134), (0, u "java/util/List"), (73, .class_ 209), (0, u "java/util/AbstractList$SubList$1"), (0, .class_ 211), (0, u "java/util/AbstractList$RandomAccessSpliterator")] 6
def k20c0 : Code := ⟨2, 1, jdk_39_method_1_code, #[], #[]⟩
def k20m0 : Method := ⟨"<init>", "()V", ⟨[], none⟩, 4, some k20c0⟩
/-- java/util/AbstractList -/
def k20 : Class := { plain "java/util/AbstractList" (some 17) with
  accessFlags := 1057
  interfaces := #[19]
  cf := some (fileOf pool20 8 #[.nestMembers #[93, 98, 208, 210, 82, 77]] #[⟨4, 5, 6, #[]⟩] 1057 2 #[133] #[⟨132, 11, 12, #[]⟩])
  fields := #[⟨"modCount", .int, 132, 0, 0⟩]
  methods := #[k20m0]
  instanceTypes := #[.int]
  resolved := Array.replicate 218 none }
def pool21 : Array CpInfo := pool [(1, .class_ 2), (0, u "java/util/RandomAccess"), (0, .class_ 4), (0, u "java/lang/Object")] 2
/-- java/util/RandomAccess -/
def k21 : Class := { plain "java/util/RandomAccess" (some 0) with
  accessFlags := 1537
  cf := some (fileOf pool21 1 #[] #[] 1537 3 #[] #[])
  resolved := Array.replicate 7 none }
def pool22 : Array CpInfo := pool [(1, .methodref 2 3), (0, .class_ 4), (0, .nameAndType 5 6), (0, u "java/util/AbstractList"), (0, u "<init>"), (0, u "()V"), (0, .class_ 8), (0, u "java/lang/Object"), (0, .fieldref 10 11), (0, .class_ 12), (0, .nameAndType 13 14), (0, u "java/util/ArrayList"), (0, u "elementData"), (0, u "[Ljava/lang/Object;"), (2, u "EMPTY_ELEMENTDATA"), (21, .fieldref 10 40), (0, .nameAndType 41 14), (0, u "DEFAULTCAPACITY_EMPTY_ELEMENTDATA"), (5, u "()[Ljava/lang/Object;"), (0, .fieldref 10 49), (0, .nameAndType 50 51), (0, u "size"), (0, u "I"), (11, .fieldref 10 64), (0, .nameAndType 65 51), (0, u "modCount"), (3, .methodref 10 70), (0, .nameAndType 71 72), (0, u "grow"), (0, u "(I)[Ljava/lang/Object;"), (6, .methodref 80 81), (0, .class_ 82), (0, .nameAndType 83 84), (0, u "java/lang/Math"), (0, u "max"), (0, u "(II)I"), (11, u "(Ljava/lang/Object;)Z"), (32, .methodref 10 130), (0, .nameAndType 71 47), (0, .methodref 10 132), (0, .nameAndType 133 134), (0, u "add"), (0, u "(Ljava/lang/Object;[Ljava/lang/Object;I)V"), (13, .class_ 149), (0, u "java/util/List"), (36, u "()I"), (75, .class_ 263), (0, u "java/util/ArrayList$ListItr"), (3, .class_ 268), (0, u "java/util/ArrayList$Itr"), (7, .class_ 277), (0, u "java/util/ArrayList$SubList"), (12, .class_ 291), (0, u "java/util/ArrayList$ArrayListSpliterator"), (37, .class_ 330), (0, u "java/util/RandomAccess"), (0, .class_ 332), (0, u "java/lang/Cloneable"), (0, .class_ 334), (0, u "java/io/Serializable"), (0, u "serialVersionUID"), (0, u "J"), (3, u "DEFAULT_CAPACITY"), (159, .class_ 501), (0, u "java/util/ArrayList$SubList$2"), (0, .class_ 503), (0, u "java/util/ArrayList$SubList$1")] 5
def k22c0 : Code := ⟨2, 1, jdk_38_method_2_code, #[], #[]⟩
def k22m0 : Method := ⟨"<init>", "()V", ⟨[], none⟩, 1, some k22c0⟩
def k22c1 : Code := ⟨4, 4, jdk_38_method_6_code, #[], #[]⟩
def k22m1 : Method := ⟨"grow", "(I)[Ljava/lang/Object;", ⟨[.int], some (.array (.object "java/lang/Object"))⟩, 2, some k22c1⟩
def k22c2 : Code := ⟨3, 1, jdk_38_method_7_code, #[], #[]⟩
def k22m2 : Method := ⟨"grow", "()[Ljava/lang/Object;", ⟨[], some (.array (.object "java/lang/Object"))⟩, 2, some k22c2⟩
def k22c3 : Code := ⟨1, 1, jdk_38_method_8_code, #[], #[]⟩
def k22m3 : Method := ⟨"size", "()I", ⟨[], some .int⟩, 1, some k22c3⟩
def k22c4 : Code := ⟨3, 4, jdk_38_method_24_code, #[], #[]⟩
def k22m4 : Method := ⟨"add", "(Ljava/lang/Object;[Ljava/lang/Object;I)V", ⟨[(.object "java/lang/Object"), (.array (.object "java/lang/Object")), .int], none⟩, 2, some k22c4⟩
def k22c5 : Code := ⟨4, 2, jdk_38_method_25_code, #[], #[]⟩
def k22m5 : Method := ⟨"add", "(Ljava/lang/Object;)Z", ⟨[(.object "java/lang/Object")], some .boolean⟩, 1, some k22c5⟩
/-- java/util/ArrayList -/
def k22 : Class := { plain "java/util/ArrayList" (some 20) with
  interfaces := #[19, 21, 4, 5]
  cf := some (fileOf pool22 10 #[.nestMembers #[290, 276, 500, 502, 262, 267]] #[⟨1, 5, 6, #[]⟩, ⟨2, 71, 72, #[]⟩, ⟨2, 71, 47, #[]⟩, ⟨1, 50, 186, #[]⟩, ⟨2, 133, 134, #[]⟩, ⟨1, 133, 96, #[]⟩] 33 2 #[148, 329, 331, 333] #[⟨26, 335, 336, #[]⟩, ⟨26, 340, 51, #[]⟩, ⟨26, 17, 14, #[]⟩, ⟨26, 41, 14, #[]⟩, ⟨128, 13, 14, #[]⟩, ⟨2, 50, 51, #[]⟩])
  fields := #[⟨"serialVersionUID", .long, 26, 0, 0⟩, ⟨"DEFAULT_CAPACITY", .int, 26, 1, 0⟩, ⟨"EMPTY_ELEMENTDATA", .array (.object "java/lang/Object"), 26, 2, 0⟩, ⟨"DEFAULTCAPACITY_EMPTY_ELEMENTDATA", .array (.object "java/lang/Object"), 26, 3, 0⟩, ⟨"elementData", .array (.object "java/lang/Object"), 128, 1, 0⟩, ⟨"size", .int, 2, 2, 0⟩]
  methods := #[k22m0, k22m1, k22m2, k22m3, k22m4, k22m5]
  instanceTypes := #[.int, (.array (.object "java/lang/Object")), .int]
  staticTypes := #[.long, .int, (.array (.object "java/lang/Object")), (.array (.object "java/lang/Object"))]
  resolved := Array.replicate 509 none
  statics := some 1 }
def pool23 : Array CpInfo := pool [(1, .class_ 2), (0, u "java/lang/Math"), (1, .class_ 6), (1, u "java/lang/Object"), (0, u "<init>"), (0, u "()V"), (89, .class_ 100), (1, u "java/lang/Math$RandomNumberGeneratorHolder"), (71, u "negativeZeroFloatBits"), (0, u "J"), (2, u "negativeZeroDoubleBits"), (21, u "max"), (46, u "$assertionsDisabled"), (0, u "Z"), (88, u "(II)I"), (2, u "twoToTheDoubleScaleDown"), (0, u "D"), (4, u "twoToTheDoubleScaleUp"), (9, u "E"), (3, u "PI"), (2, u "TAU"), (2, u "DEGREES_TO_RADIANS"), (0, u "RADIANS_TO_DEGREES")] 94
def k23m0 : Method := ⟨"<init>", "()V", ⟨[], none⟩, 2, none⟩
def k23c1 : Code := ⟨2, 2, jdk_29_method_65_code, #[], #[]⟩
def k23m1 : Method := ⟨"max", "(II)I", ⟨[.int, .int], some .int⟩, 9, some k23c1⟩
/-- java/lang/Math -/
def k23 : Class := { plain "java/lang/Math" (some 0) with
  accessFlags := 49
  cf := some (fileOf pool23 1 #[.nestMembers #[98]] #[⟨2, 7, 8, #[]⟩, ⟨9, 198, 335, #[]⟩] 49 4 #[] #[⟨25, 354, 339, #[]⟩, ⟨25, 358, 339, #[]⟩, ⟨25, 361, 339, #[]⟩, ⟨26, 364, 339, #[]⟩, ⟨26, 365, 339, #[]⟩, ⟨26, 172, 173, #[]⟩, ⟨26, 176, 173, #[]⟩, ⟨8, 344, 339, #[]⟩, ⟨8, 338, 339, #[]⟩, ⟨4120, 245, 246, #[]⟩])
  fields := #[⟨"E", .double, 25, 0, 0⟩, ⟨"PI", .double, 25, 1, 0⟩, ⟨"TAU", .double, 25, 2, 0⟩, ⟨"DEGREES_TO_RADIANS", .double, 26, 3, 0⟩, ⟨"RADIANS_TO_DEGREES", .double, 26, 4, 0⟩, ⟨"negativeZeroFloatBits", .long, 26, 5, 0⟩, ⟨"negativeZeroDoubleBits", .long, 26, 6, 0⟩, ⟨"twoToTheDoubleScaleUp", .double, 8, 7, 0⟩, ⟨"twoToTheDoubleScaleDown", .double, 8, 8, 0⟩, ⟨"$assertionsDisabled", .boolean, 4120, 9, 0⟩]
  methods := #[k23m0, k23m1]
  staticTypes := #[.double, .double, .double, .double, .double, .long, .long, .double, .double, .boolean]
  resolved := Array.replicate 460 none }
def pool24 : Array CpInfo := pool [(23, .class_ 25), (1, u "java/util/Map$Entry"), (0, u "getKey"), (0, u "()Ljava/lang/Object;"), (2, u "getValue"), (1, .class_ 34), (1, u "java/util/Map"), (34, .class_ 70), (0, u "java/lang/Object")] 107
def k24m0 : Method := ⟨"getKey", "()Ljava/lang/Object;", ⟨[], some (.object "java/lang/Object")⟩, 1025, none⟩
def k24m1 : Method := ⟨"getValue", "()Ljava/lang/Object;", ⟨[], some (.object "java/lang/Object")⟩, 1025, none⟩
/-- java/util/Map$Entry -/
def k24 : Class := { plain "java/util/Map$Entry" (some 0) with
  accessFlags := 1537
  cf := some (fileOf pool24 23 #[.nestHost 32] #[⟨1025, 26, 27, #[]⟩, ⟨1025, 30, 27, #[]⟩] 1537 69 #[] #[])
  methods := #[k24m0, k24m1]
  resolved := Array.replicate 178 none }
def pool25 : Array CpInfo := pool [(1, .methodref 2 3), (0, .class_ 4), (0, .nameAndType 5 6), (0, u "java/lang/Object"), (0, u "<init>"), (0, u "()V"), (0, .fieldref 8 9), (0, .class_ 10), (0, .nameAndType 11 12), (0, u "java/util/HashMap$Node"), (0, u "hash"), (0, u "I"), (0, .fieldref 8 14), (0, .nameAndType 15 16), (0, u "key"), (0, u "Ljava/lang/Object;"), (0, .fieldref 8 18), (0, .nameAndType 19 16), (0, u "value"), (0, .fieldref 8 21), (0, .nameAndType 22 23), (0, u "next"), (0, u "Ljava/util/HashMap$Node;"), (22, .class_ 47), (0, u "java/util/Map$Entry"), (2, u "getKey"), (0, u "()Ljava/lang/Object;"), (6, u "getValue"), (4, u "(ILjava/lang/Object;Ljava/lang/Object;Ljava/util/HashMap$Node;)V"), (24, .class_ 89), (0, u "java/util/HashMap")] 5
def k25c0 : Code := ⟨2, 5, jdk_70_method_1_code, #[], #[]⟩
def k25m0 : Method := ⟨"<init>", "(ILjava/lang/Object;Ljava/lang/Object;Ljava/util/HashMap$Node;)V", ⟨[.int, (.object "java/lang/Object"), (.object "java/lang/Object"), (.object "java/util/HashMap$Node")], none⟩, 0, some k25c0⟩
def k25c1 : Code := ⟨1, 1, jdk_70_method_2_code, #[], #[]⟩
def k25m1 : Method := ⟨"getKey", "()Ljava/lang/Object;", ⟨[], some (.object "java/lang/Object")⟩, 17, some k25c1⟩
def k25c2 : Code := ⟨1, 1, jdk_70_method_3_code, #[], #[]⟩
def k25m2 : Method := ⟨"getValue", "()Ljava/lang/Object;", ⟨[], some (.object "java/lang/Object")⟩, 17, some k25c2⟩
/-- java/util/HashMap$Node -/
def k25 : Class := { plain "java/util/HashMap$Node" (some 0) with
  accessFlags := 32
  interfaces := #[24]
  cf := some (fileOf pool25 8 #[.nestHost 88] #[⟨0, 5, 63, #[]⟩, ⟨17, 50, 51, #[]⟩, ⟨17, 58, 51, #[]⟩] 32 2 #[46] #[⟨16, 11, 12, #[]⟩, ⟨16, 15, 16, #[]⟩, ⟨0, 19, 16, #[]⟩, ⟨0, 22, 23, #[]⟩])
  fields := #[⟨"hash", .int, 16, 0, 0⟩, ⟨"key", .object "java/lang/Object", 16, 1, 0⟩, ⟨"value", .object "java/lang/Object", 0, 2, 0⟩, ⟨"next", .object "java/util/HashMap$Node", 0, 3, 0⟩]
  methods := #[k25m0, k25m1, k25m2]
  instanceTypes := #[.int, (.object "java/lang/Object"), (.object "java/lang/Object"), (.object "java/util/HashMap$Node")]
  resolved := Array.replicate 95 none }
def pool26 : Array CpInfo := pool [(1, .methodref 2 3), (0, .class_ 4), (0, .nameAndType 5 6), (0, u "java/util/HashMap$Node"), (0, u "<init>"), (0, u "(ILjava/lang/Object;Ljava/lang/Object;Ljava/util/HashMap$Node;)V"), (0, .class_ 8), (0, u "java/util/LinkedHashMap$Entry"), (0, u "before"), (0, u "Ljava/util/LinkedHashMap$Entry;"), (2, u "after"), (20, .class_ 35), (0, u "java/util/LinkedHashMap")] 5
def k26c0 : Code := ⟨5, 5, jdk_83_method_1_code, #[], #[]⟩
def k26m0 : Method := ⟨"<init>", "(ILjava/lang/Object;Ljava/lang/Object;Ljava/util/HashMap$Node;)V", ⟨[.int, (.object "java/lang/Object"), (.object "java/lang/Object"), (.object "java/util/HashMap$Node")], none⟩, 0, some k26c0⟩
/-- java/util/LinkedHashMap$Entry -/
def k26 : Class := { plain "java/util/LinkedHashMap$Entry" (some 25) with
  accessFlags := 32
  cf := some (fileOf pool26 7 #[.nestHost 34] #[⟨0, 5, 6, #[]⟩] 32 2 #[] #[⟨0, 9, 10, #[]⟩, ⟨0, 13, 10, #[]⟩])
  fields := #[⟨"before", .object "java/util/LinkedHashMap$Entry", 0, 4, 0⟩, ⟨"after", .object "java/util/LinkedHashMap$Entry", 0, 5, 0⟩]
  methods := #[k26m0]
  instanceTypes := #[.int, (.object "java/lang/Object"), (.object "java/lang/Object"), (.object "java/util/HashMap$Node"), (.object "java/util/LinkedHashMap$Entry"), (.object "java/util/LinkedHashMap$Entry")]
  resolved := Array.replicate 41 none }
def pool27 : Array CpInfo := pool [(1, .methodref 2 3), (0, .class_ 4), (0, .nameAndType 5 6), (0, u "java/lang/Object"), (0, u "<init>"), (0, u "()V"), (0, .class_ 8), (0, u "java/util/HashMap"), (0, .methodref 7 3), (0, .fieldref 11 12), (0, .class_ 13), (0, .nameAndType 14 15), (0, u "com/example/derivant/derivant/model/NextStateRelation"), (0, u "firstNumber"), (0, u "Ljava/util/Map;"), (0, .interfaceMethodref 17 18), (0, .class_ 19), (0, .nameAndType 20 21), (0, u "java/util/Map"), (0, u "entrySet"), (0, u "()Ljava/util/Set;"), (0, .interfaceMethodref 23 24), (0, .class_ 25), (0, .nameAndType 26 27), (0, u "java/util/Set"), (0, u "iterator"), (0, u "()Ljava/util/Iterator;"), (0, .interfaceMethodref 29 30), (0, .class_ 31), (0, .nameAndType 32 33), (0, u "java/util/Iterator"), (0, u "hasNext"), (0, u "()Z"), (0, .interfaceMethodref 29 35), (0, .nameAndType 36 37), (0, u "next"), (0, u "()Ljava/lang/Object;"), (0, .class_ 39), (0, u "java/util/Map$Entry"), (0, .interfaceMethodref 38 41), (0, .nameAndType 42 37), (0, u "getKey"), (0, .class_ 44), (0, u "java/lang/String"), (0, .methodref 46 47), (0, .class_ 48), (0, .nameAndType 49 50), (0, u "java/lang/Integer"), (0, u "valueOf"), (0, u "(I)Ljava/lang/Integer;"), (0, .interfaceMethodref 17 52), (0, .nameAndType 53 54), (0, u "put"), (0, u "(Ljava/lang/Object;Ljava/lang/Object;)Ljava/lang/Object;"), (0, .interfaceMethodref 38 56), (0, .nameAndType 57 37), (0, u "getValue"), (0, .class_ 59), (0, u "java/util/List"), (0, .interfaceMethodref 58 61), (0, .nameAndType 62 63), (0, u "size"), (0, u "()I"), (0, .fieldref 11 65), (0, .nameAndType 66 67), (0, u "last"), (0, u "[Z"), (0, .interfaceMethodref 17 69), (0, .nameAndType 70 71), (0, u "get"), (0, u "(Ljava/lang/Object;)Ljava/lang/Object;"), (0, .methodref 46 73), (0, .nameAndType 74 63), (0, u "intValue"), (16, .fieldref 11 92), (0, .nameAndType 93 94), (0, u "targetStarts"), (0, u "[I"), (0, .methodref 11 96), (0, .nameAndType 97 98), (0, u "group"), (0, u "([I[I[I)[I"), (0, .fieldref 11 100), (0, .nameAndType 101 94), (0, u "messageTargets"), (0, .fieldref 11 103), (0, .nameAndType 104 94), (0, u "sourceStarts"), (0, .fieldref 11 106), (0, .nameAndType 107 94), (0, u "messageSources"), (0, .methodref 11 109), (0, .nameAndType 110 111), (0, u "isLast"), (0, u "(I)Z"), (6, u "isFirst"), (34, .methodref 154 155), (0, .class_ 94), (0, .nameAndType 156 37), (0, u "clone"), (8, u "(Ljava/util/Map;Ljava/util/List;)V")] 10
def k27c0 : Code := ⟨5, 7, prog_25_method_1_code, #[], #[]⟩
def k27m0 : Method := ⟨"<init>", "(Ljava/util/Map;Ljava/util/List;)V", ⟨[(.object "java/util/Map"), (.object "java/util/List")], none⟩, 0, some k27c0⟩
def k27c1 : Code := ⟨3, 2, prog_25_method_3_code, #[], #[]⟩
def k27m1 : Method := ⟨"isFirst", "(I)Z", ⟨[.int], some .boolean⟩, 1, some k27c1⟩
def k27c2 : Code := ⟨2, 2, prog_25_method_4_code, #[], #[]⟩
def k27m2 : Method := ⟨"isLast", "(I)Z", ⟨[.int], some .boolean⟩, 1, some k27c2⟩
def k27c3 : Code := ⟨5, 7, prog_25_method_11_code, #[], #[]⟩
def k27m3 : Method := ⟨"group", "([I[I[I)[I", ⟨[(.array .int), (.array .int), (.array .int)], some (.array .int)⟩, 10, some k27c3⟩
/-- com/example/derivant/derivant/model/NextStateRelation -/
def k27 : Class := { plain "com/example/derivant/derivant/model/NextStateRelation" (some 0) with
  accessFlags := 49
  cf := some (fileOf pool27 11 #[] #[⟨0, 5, 165, #[]⟩, ⟨1, 118, 111, #[]⟩, ⟨1, 110, 111, #[]⟩, ⟨10, 97, 98, #[]⟩] 49 2 #[] #[⟨18, 14, 15, #[]⟩, ⟨18, 66, 67, #[]⟩, ⟨18, 93, 94, #[]⟩, ⟨18, 101, 94, #[]⟩, ⟨18, 104, 94, #[]⟩, ⟨18, 107, 94, #[]⟩])
  fields := #[⟨"firstNumber", .object "java/util/Map", 18, 0, 0⟩, ⟨"last", .array .boolean, 18, 1, 0⟩, ⟨"targetStarts", .array .int, 18, 2, 0⟩, ⟨"messageTargets", .array .int, 18, 3, 0⟩, ⟨"sourceStarts", .array .int, 18, 4, 0⟩, ⟨"messageSources", .array .int, 18, 5, 0⟩]
  methods := #[k27m0, k27m1, k27m2, k27m3]
  instanceTypes := #[(.object "java/util/Map"), (.array .boolean), (.array .int), (.array .int), (.array .int), (.array .int)]
  resolved := Array.replicate 176 none }
def pool28 : Array CpInfo := pool [(26, .class_ 27), (0, u "java/lang/Object"), (5, .class_ 34), (0, u "java/util/Set"), (1, .class_ 38), (1, u "java/util/Collection"), (22, u "iterator"), (0, u "()Ljava/util/Iterator;")] 81
def k28m0 : Method := ⟨"iterator", "()Ljava/util/Iterator;", ⟨[], some (.object "java/util/Iterator")⟩, 1025, none⟩
/-- java/util/Set -/
def k28 : Class := { plain "java/util/Set" (some 0) with
  accessFlags := 1537
  interfaces := #[16]
  cf := some (fileOf pool28 33 #[] #[⟨1025, 61, 62, #[]⟩] 1537 26 #[36] #[])
  methods := #[k28m0]
  resolved := Array.replicate 144 none }
def pool29 : Array CpInfo := pool [(1, .methodref 2 3), (0, .class_ 4), (0, .nameAndType 5 6), (0, u "java/util/AbstractCollection"), (0, u "<init>"), (0, u "()V"), (0, .class_ 8), (0, u "java/util/Set"), (7, .class_ 17), (0, u "java/util/AbstractSet")] 78
def k29c0 : Code := ⟨1, 1, jdk_91_method_1_code, #[], #[]⟩
def k29m0 : Method := ⟨"<init>", "()V", ⟨[], none⟩, 4, some k29c0⟩
/-- java/util/AbstractSet -/
def k29 : Class := { plain "java/util/AbstractSet" (some 17) with
  accessFlags := 1057
  interfaces := #[28]
  cf := some (fileOf pool29 16 #[] #[⟨4, 5, 6, #[]⟩] 1057 2 #[7] #[])
  methods := #[k29m0]
  resolved := Array.replicate 96 none }
def pool30 : Array CpInfo := pool [(2, .class_ 4), (1, u "java/util/SequencedSet"), (2, .class_ 8), (0, u "java/lang/Object"), (0, .class_ 10), (0, u "java/util/SequencedCollection"), (0, .class_ 12), (0, u "java/util/Set")] 13
/-- java/util/SequencedSet -/
def k30 : Class := { plain "java/util/SequencedSet" (some 0) with
  accessFlags := 1537
  interfaces := #[18, 28]
  cf := some (fileOf pool30 2 #[] #[] 1537 7 #[9, 11] #[])
  resolved := Array.replicate 26 none }
def pool31 : Array CpInfo := pool [(1, .fieldref 2 3), (0, .class_ 4), (0, .nameAndType 5 6), (0, u "java/util/LinkedHashMap$LinkedEntrySet"), (0, u "this$0"), (0, u "Ljava/util/LinkedHashMap;"), (0, .methodref 8 9), (0, .class_ 10), (0, .nameAndType 11 12), (0, u "java/util/AbstractSet"), (0, u "<init>"), (0, u "()V"), (0, .fieldref 2 14), (0, .nameAndType 15 16), (0, u "reversed"), (0, u "Z"), (1, .class_ 20), (1, u "java/util/LinkedHashMap"), (5, .class_ 27), (0, u "java/util/LinkedHashMap$LinkedEntryIterator"), (0, .methodref 26 29), (0, .nameAndType 11 30), (0, u "(Ljava/util/LinkedHashMap;Z)V"), (110, .class_ 142), (0, u "java/util/SequencedSet"), (9, u "iterator"), (0, u "()Ljava/util/Iterator;")] 43
def k31c0 : Code := ⟨2, 3, jdk_113_method_1_code, #[], #[]⟩
def k31m0 : Method := ⟨"<init>", "(Ljava/util/LinkedHashMap;Z)V", ⟨[(.object "java/util/LinkedHashMap"), .boolean], none⟩, 0, some k31c0⟩
def k31c1 : Code := ⟨4, 1, jdk_113_method_4_code, #[], #[]⟩
def k31m1 : Method := ⟨"iterator", "()Ljava/util/Iterator;", ⟨[], some (.object "java/util/Iterator")⟩, 17, some k31c1⟩
/-- java/util/LinkedHashMap$LinkedEntrySet -/
def k31 : Class := { plain "java/util/LinkedHashMap$LinkedEntrySet" (some 29) with
  accessFlags := 48
  interfaces := #[30]
  cf := some (fileOf pool31 2 #[.nestHost 18] #[⟨0, 11, 30, #[]⟩, ⟨17, 152, 153, #[]⟩] 48 8 #[141] #[⟨16, 15, 16, #[]⟩, ⟨4112, 5, 6, #[]⟩])
  fields := #[⟨"reversed", .boolean, 16, 0, 0⟩, ⟨"this$0", .object "java/util/LinkedHashMap", 4112, 1, 0⟩]
  methods := #[k31m0, k31m1]
  instanceTypes := #[.boolean, (.object "java/util/LinkedHashMap")]
  resolved := Array.replicate 197 none }
def pool32 : Array CpInfo := pool [(1, .fieldref 2 3), (0, .class_ 4), (0, .nameAndType 5 6), (0, u "java/util/LinkedHashMap$LinkedHashIterator"), (0, u "this$0"), (0, u "Ljava/util/LinkedHashMap;"), (0, .methodref 8 9), (0, .class_ 10), (0, .nameAndType 11 12), (0, u "java/lang/Object"), (0, u "<init>"), (0, u "()V"), (0, .fieldref 2 14), (0, .nameAndType 15 16), (0, u "reversed"), (0, u "Z"), (1, .class_ 20), (1, u "java/util/LinkedHashMap"), (1, u "Ljava/util/LinkedHashMap$Entry;"), (0, .fieldref 18 24), (0, .nameAndType 25 22), (0, u "head"), (0, .fieldref 2 27), (0, .nameAndType 28 22), (0, u "next"), (0, .fieldref 18 30), (0, .nameAndType 31 32), (0, u "modCount"), (0, u "I"), (0, .fieldref 2 34), (0, .nameAndType 35 32), (0, u "expectedModCount"), (0, .fieldref 2 37), (0, .nameAndType 38 22), (0, u "current"), (7, .class_ 48), (1, u "java/util/LinkedHashMap$Entry"), (1, .fieldref 46 51), (0, .nameAndType 52 22), (0, u "after"), (18, u "(Ljava/util/LinkedHashMap;Z)V"), (9, u "hasNext"), (0, u "()Z"), (0, u "nextNode"), (0, u "()Ljava/util/LinkedHashMap$Entry;")] 15
def k32c0 : Code := ⟨2, 3, jdk_2616_method_1_code, #[], #[]⟩
def k32m0 : Method := ⟨"<init>", "(Ljava/util/LinkedHashMap;Z)V", ⟨[(.object "java/util/LinkedHashMap"), .boolean], none⟩, 0, some k32c0⟩
def k32c1 : Code := ⟨1, 1, jdk_2616_method_2_code, #[], #[]⟩
def k32m1 : Method := ⟨"hasNext", "()Z", ⟨[], some .boolean⟩, 17, some k32c1⟩
def k32c2 : Code := ⟨2, 2, jdk_2616_method_3_code, #[], #[]⟩
def k32m2 : Method := ⟨"nextNode", "()Ljava/util/LinkedHashMap$Entry;", ⟨[], some (.object "java/util/LinkedHashMap$Entry")⟩, 16, some k32c2⟩
/-- java/util/LinkedHashMap$LinkedHashIterator -/
def k32 : Class := { plain "java/util/LinkedHashMap$LinkedHashIterator" (some 0) with
  accessFlags := 1056
  cf := some (fileOf pool32 2 #[.nestHost 18] #[⟨0, 11, 71, #[]⟩, ⟨17, 81, 82, #[]⟩, ⟨16, 83, 84, #[]⟩] 1056 8 #[] #[⟨0, 28, 22, #[]⟩, ⟨0, 38, 22, #[]⟩, ⟨0, 35, 32, #[]⟩, ⟨0, 15, 16, #[]⟩, ⟨4112, 5, 6, #[]⟩])
  fields := #[⟨"next", .object "java/util/LinkedHashMap$Entry", 0, 0, 0⟩, ⟨"current", .object "java/util/LinkedHashMap$Entry", 0, 1, 0⟩, ⟨"expectedModCount", .int, 0, 2, 0⟩, ⟨"reversed", .boolean, 0, 3, 0⟩, ⟨"this$0", .object "java/util/LinkedHashMap", 4112, 4, 0⟩]
  methods := #[k32m0, k32m1, k32m2]
  instanceTypes := #[(.object "java/util/LinkedHashMap$Entry"), (.object "java/util/LinkedHashMap$Entry"), .int, .boolean, (.object "java/util/LinkedHashMap")]
  resolved := Array.replicate 100 none }
def pool33 : Array CpInfo := pool [(16, .class_ 18), (1, u "java/util/Iterator"), (0, u "hasNext"), (0, u "()Z"), (2, u "next"), (0, u "()Ljava/lang/Object;"), (6, .class_ 32), (0, u "java/lang/Object")] 20
def k33m0 : Method := ⟨"hasNext", "()Z", ⟨[], some .boolean⟩, 1025, none⟩
def k33m1 : Method := ⟨"next", "()Ljava/lang/Object;", ⟨[], some (.object "java/lang/Object")⟩, 1025, none⟩
/-- java/util/Iterator -/
def k33 : Class := { plain "java/util/Iterator" (some 0) with
  accessFlags := 1537
  cf := some (fileOf pool33 16 #[] #[⟨1025, 19, 20, #[]⟩, ⟨1025, 23, 24, #[]⟩] 1537 31 #[] #[])
  methods := #[k33m0, k33m1]
  resolved := Array.replicate 53 none }
def pool34 : Array CpInfo := pool [(1, .methodref 2 3), (0, .class_ 4), (0, .nameAndType 5 6), (0, u "java/util/LinkedHashMap$LinkedHashIterator"), (0, u "<init>"), (0, u "(Ljava/util/LinkedHashMap;Z)V"), (0, .methodref 8 9), (0, .class_ 10), (0, .nameAndType 11 12), (0, u "java/util/LinkedHashMap$LinkedEntryIterator"), (0, u "nextNode"), (0, u "()Ljava/util/LinkedHashMap$Entry;"), (0, .methodref 8 14), (0, .nameAndType 15 16), (0, u "next"), (0, u "()Ljava/util/Map$Entry;"), (0, .class_ 18), (0, u "java/util/Iterator"), (14, u "()Ljava/lang/Object;"), (4, .class_ 39), (0, u "java/util/LinkedHashMap")] 10
def k34c0 : Code := ⟨3, 3, jdk_2615_method_1_code, #[], #[]⟩
def k34m0 : Method := ⟨"<init>", "(Ljava/util/LinkedHashMap;Z)V", ⟨[(.object "java/util/LinkedHashMap"), .boolean], none⟩, 0, some k34c0⟩
def k34c1 : Code := ⟨1, 1, jdk_2615_method_2_code, #[], #[]⟩
def k34m1 : Method := ⟨"next", "()Ljava/util/Map$Entry;", ⟨[], some (.object "java/util/Map$Entry")⟩, 17, some k34c1⟩
def k34c2 : Code := ⟨1, 1, jdk_2615_method_3_code, #[], #[]⟩
def k34m2 : Method := ⟨"next", "()Ljava/lang/Object;", ⟨[], some (.object "java/lang/Object")⟩, 4161, some k34c2⟩
/-- java/util/LinkedHashMap$LinkedEntryIterator -/
def k34 : Class := { plain "java/util/LinkedHashMap$LinkedEntryIterator" (some 32) with
  accessFlags := 48
  interfaces := #[33]
  cf := some (fileOf pool34 8 #[.nestHost 38] #[⟨0, 5, 6, #[]⟩, ⟨17, 15, 16, #[]⟩, ⟨4161, 15, 33, #[]⟩] 48 2 #[17] #[])
  methods := #[k34m0, k34m1, k34m2]
  instanceTypes := #[(.object "java/util/LinkedHashMap$Entry"), (.object "java/util/LinkedHashMap$Entry"), .int, .boolean, (.object "java/util/LinkedHashMap")]
  resolved := Array.replicate 50 none }
def pool35 : Array CpInfo := pool [(2, .class_ 4), (1, u "java/lang/Object"), (0, u "<init>"), (0, u "()V"), (1, .class_ 10), (1, u "java/lang/Number"), (2, .class_ 14), (0, u "java/io/Serializable"), (0, u "serialVersionUID"), (0, u "J")] 20
def k35m0 : Method := ⟨"<init>", "()V", ⟨[], none⟩, 1, none⟩
/-- java/lang/Number -/
def k35 : Class := { plain "java/lang/Number" (some 0) with
  accessFlags := 1057
  interfaces := #[5]
  cf := some (fileOf pool35 8 #[] #[⟨1, 5, 6, #[]⟩] 1057 2 #[13] #[⟨26, 15, 16, #[]⟩])
  fields := #[⟨"serialVersionUID", .long, 26, 0, 0⟩]
  methods := #[k35m0]
  staticTypes := #[.long]
  resolved := Array.replicate 37 none }
def pool36 : Array CpInfo := pool [(1, .class_ 2), (0, u "java/lang/Integer"), (16, u "digits"), (0, u "[C"), (64, u "DigitOnes"), (0, u "[B"), (2, u "DigitTens"), (31, u "()I"), (65, u "valueOf"), (0, u "(I)Ljava/lang/Integer;"), (0, .class_ 190), (0, u "java/lang/Integer$IntegerCache"), (0, .fieldref 189 192), (0, .nameAndType 193 194), (0, u "high"), (0, u "I"), (0, .fieldref 189 196), (0, .nameAndType 197 198), (0, u "cache"), (0, u "[Ljava/lang/Integer;"), (4, .class_ 204), (0, u "java/lang/Number"), (0, .fieldref 1 206), (0, .nameAndType 207 194), (0, u "value"), (5, u "intValue"), (88, u "TYPE"), (0, u "Ljava/lang/Class;"), (0, .class_ 305), (0, u "java/lang/Comparable"), (0, .class_ 307), (0, u "java/lang/constant/Constable"), (0, .class_ 309), (0, u "java/lang/constant/ConstantDesc"), (0, u "MIN_VALUE"), (1, u "MAX_VALUE"), (3, u "SIZE"), (1, u "BYTES"), (1, u "serialVersionUID"), (0, u "J")] 131
def k36c0 : Code := ⟨3, 1, jdk_33_method_22_code, #[], #[]⟩
def k36m0 : Method := ⟨"valueOf", "(I)Ljava/lang/Integer;", ⟨[.int], some (.object "java/lang/Integer")⟩, 9, some k36c0⟩
def k36c1 : Code := ⟨1, 1, jdk_33_method_27_code, #[], #[]⟩
def k36m1 : Method := ⟨"intValue", "()I", ⟨[], some .int⟩, 1, some k36c1⟩
/-- java/lang/Integer -/
def k36 : Class := { plain "java/lang/Integer" (some 35) with
  accessFlags := 49
  interfaces := #[9, 11, 12]
  cf := some (fileOf pool36 1 #[.nestMembers #[189]] #[⟨9, 187, 188, #[]⟩, ⟨1, 213, 121, #[]⟩] 49 203 #[304, 306, 308] #[⟨25, 310, 194, #[]⟩, ⟨25, 312, 194, #[]⟩, ⟨25, 302, 303, #[]⟩, ⟨24, 19, 20, #[]⟩, ⟨24, 89, 86, #[]⟩, ⟨24, 85, 86, #[]⟩, ⟨18, 207, 194, #[]⟩, ⟨25, 316, 194, #[]⟩, ⟨25, 318, 194, #[]⟩, ⟨26, 320, 321, #[]⟩])
  fields := #[⟨"MIN_VALUE", .int, 25, 0, 0⟩, ⟨"MAX_VALUE", .int, 25, 1, 0⟩, ⟨"TYPE", .object "java/lang/Class", 25, 2, 0⟩, ⟨"digits", .array .char, 24, 3, 0⟩, ⟨"DigitTens", .array .byte, 24, 4, 0⟩, ⟨"DigitOnes", .array .byte, 24, 5, 0⟩, ⟨"value", .int, 18, 0, 0⟩, ⟨"SIZE", .int, 25, 6, 0⟩, ⟨"BYTES", .int, 25, 7, 0⟩, ⟨"serialVersionUID", .long, 26, 8, 0⟩]
  methods := #[k36m0, k36m1]
  instanceTypes := #[.int]
  staticTypes := #[.int, .int, (.object "java/lang/Class"), (.array .char), (.array .byte), (.array .byte), .int, .int, .long]
  resolved := Array.replicate 453 none }
def pool37 : Array CpInfo := pool [(2, .class_ 4), (1, u "java/lang/Object"), (0, u "<init>"), (0, u "()V"), (0, .class_ 8), (0, u "java/lang/Integer"), (7, .class_ 18), (1, u "java/lang/Integer$IntegerCache"), (0, u "$assertionsDisabled"), (0, u "Z"), (26, u "high"), (0, u "I"), (8, u "archivedCache"), (0, u "[Ljava/lang/Integer;"), (12, u "cache"), (0, u "low")] 27
def k37m0 : Method := ⟨"<init>", "()V", ⟨[], none⟩, 2, none⟩
/-- java/lang/Integer$IntegerCache -/
def k37 : Class := { plain "java/lang/Integer$IntegerCache" (some 0) with
  accessFlags := 48
  cf := some (fileOf pool37 16 #[.nestHost 7] #[⟨2, 5, 6, #[]⟩] 48 2 #[] #[⟨24, 72, 48, #[]⟩, ⟨24, 47, 48, #[]⟩, ⟨24, 71, 58, #[]⟩, ⟨8, 57, 58, #[]⟩, ⟨4120, 19, 20, #[]⟩])
  fields := #[⟨"low", .int, 24, 0, 0⟩, ⟨"high", .int, 24, 1, 0⟩, ⟨"cache", .array (.object "java/lang/Integer"), 24, 2, 0⟩, ⟨"archivedCache", .array (.object "java/lang/Integer"), 8, 3, 0⟩, ⟨"$assertionsDisabled", .boolean, 4120, 4, 0⟩]
  methods := #[k37m0]
  staticTypes := #[.int, .int, (.array (.object "java/lang/Integer")), (.array (.object "java/lang/Integer")), .boolean]
  resolved := Array.replicate 100 none
  statics := some 2 }
def pool38 : Array CpInfo := pool [(2, .class_ 4), (1, u "java/lang/Object"), (0, u "<init>"), (0, u "()V"), (17, .class_ 26), (1, u "jdk/internal/util/Preconditions"), (28, .class_ 56), (0, u "jdk/internal/util/Preconditions$4"), (57, .class_ 115), (0, u "jdk/internal/util/Preconditions$1"), (7, u "SIOOBE_FORMATTER"), (0, u "Ljava/util/function/BiFunction;"), (0, .class_ 126), (0, u "jdk/internal/util/Preconditions$2"), (3, u "AIOOBE_FORMATTER"), (0, .class_ 132), (0, u "jdk/internal/util/Preconditions$3"), (3, u "IOOBE_FORMATTER")] 57
def k38m0 : Method := ⟨"<init>", "()V", ⟨[], none⟩, 1, none⟩
/-- jdk/internal/util/Preconditions -/
def k38 : Class := { plain "jdk/internal/util/Preconditions" (some 0) with
  cf := some (fileOf pool38 24 #[.nestMembers #[55, 131, 125, 114]] #[⟨1, 5, 6, #[]⟩] 33 2 #[] #[⟨25, 123, 124, #[]⟩, ⟨25, 130, 124, #[]⟩, ⟨25, 136, 124, #[]⟩])
  fields := #[⟨"SIOOBE_FORMATTER", .object "java/util/function/BiFunction", 25, 0, 0⟩, ⟨"AIOOBE_FORMATTER", .object "java/util/function/BiFunction", 25, 1, 0⟩, ⟨"IOOBE_FORMATTER", .object "java/util/function/BiFunction", 25, 2, 0⟩]
  methods := #[k38m0]
  staticTypes := #[(.object "java/util/function/BiFunction"), (.object "java/util/function/BiFunction"), (.object "java/util/function/BiFunction")]
  resolved := Array.replicate 194 none
  statics := some 3 }
def pool39 : Array CpInfo := pool [(9, u "<init>"), (6, .class_ 18), (1, u "java/lang/Object"), (0, u "()V"), (1, .class_ 23), (1, u "jdk/internal/util/ArraysSupport"), (0, u "LOG2_ARRAY_LONG_INDEX_SCALE"), (0, u "I"), (2, u "U"), (0, u "Ljdk/internal/misc/Unsafe;"), (8, u "BIG_ENDIAN"), (0, u "Z"), (8, u "LOG2_BYTE_BIT_SIZE"), (4, u "LOG2_ARRAY_INT_INDEX_SCALE"), (54, u "JLA"), (0, u "Ljdk/internal/access/JavaLangAccess;"), (11, u "LOG2_ARRAY_BOOLEAN_INDEX_SCALE"), (9, u "LOG2_ARRAY_BYTE_INDEX_SCALE"), (5, u "LOG2_ARRAY_CHAR_INDEX_SCALE"), (5, u "LOG2_ARRAY_SHORT_INDEX_SCALE"), (18, u "LOG2_ARRAY_FLOAT_INDEX_SCALE"), (24, u "LOG2_ARRAY_DOUBLE_INDEX_SCALE"), (89, u "T_BOOLEAN"), (2, u "T_CHAR"), (1, u "T_FLOAT"), (1, u "T_DOUBLE"), (1, u "T_BYTE"), (1, u "T_SHORT"), (1, u "T_INT"), (1, u "T_LONG"), (1, u "SOFT_MAX_ARRAY_LENGTH")] 83
def k39m0 : Method := ⟨"<init>", "()V", ⟨[], none⟩, 2, none⟩
/-- jdk/internal/util/ArraysSupport -/
def k39 : Class := { plain "jdk/internal/util/ArraysSupport" (some 0) with
  cf := some (fileOf pool39 21 #[] #[⟨2, 9, 19, #[]⟩] 33 16 #[] #[⟨24, 28, 29, #[]⟩, ⟨26, 38, 39, #[]⟩, ⟨25, 121, 25, #[]⟩, ⟨25, 131, 25, #[]⟩, ⟨25, 137, 25, #[]⟩, ⟨25, 143, 25, #[]⟩, ⟨25, 53, 25, #[]⟩, ⟨25, 24, 25, #[]⟩, ⟨25, 162, 25, #[]⟩, ⟨25, 187, 25, #[]⟩, ⟨26, 48, 25, #[]⟩, ⟨25, 277, 25, #[]⟩, ⟨25, 280, 25, #[]⟩, ⟨25, 282, 25, #[]⟩, ⟨25, 284, 25, #[]⟩, ⟨25, 286, 25, #[]⟩, ⟨25, 288, 25, #[]⟩, ⟨25, 290, 25, #[]⟩, ⟨25, 292, 25, #[]⟩, ⟨26, 108, 109, #[]⟩, ⟨25, 294, 25, #[]⟩])
  fields := #[⟨"U", .object "jdk/internal/misc/Unsafe", 24, 0, 0⟩, ⟨"BIG_ENDIAN", .boolean, 26, 1, 0⟩, ⟨"LOG2_ARRAY_BOOLEAN_INDEX_SCALE", .int, 25, 2, 0⟩, ⟨"LOG2_ARRAY_BYTE_INDEX_SCALE", .int, 25, 3, 0⟩, ⟨"LOG2_ARRAY_CHAR_INDEX_SCALE", .int, 25, 4, 0⟩, ⟨"LOG2_ARRAY_SHORT_INDEX_SCALE", .int, 25, 5, 0⟩, ⟨"LOG2_ARRAY_INT_INDEX_SCALE", .int, 25, 6, 0⟩, ⟨"LOG2_ARRAY_LONG_INDEX_SCALE", .int, 25, 7, 0⟩, ⟨"LOG2_ARRAY_FLOAT_INDEX_SCALE", .int, 25, 8, 0⟩, ⟨"LOG2_ARRAY_DOUBLE_INDEX_SCALE", .int, 25, 9, 0⟩, ⟨"LOG2_BYTE_BIT_SIZE", .int, 26, 10, 0⟩, ⟨"T_BOOLEAN", .int, 25, 11, 0⟩, ⟨"T_CHAR", .int, 25, 12, 0⟩, ⟨"T_FLOAT", .int, 25, 13, 0⟩, ⟨"T_DOUBLE", .int, 25, 14, 0⟩, ⟨"T_BYTE", .int, 25, 15, 0⟩, ⟨"T_SHORT", .int, 25, 16, 0⟩, ⟨"T_INT", .int, 25, 17, 0⟩, ⟨"T_LONG", .int, 25, 18, 0⟩, ⟨"JLA", .object "jdk/internal/access/JavaLangAccess", 26, 19, 0⟩, ⟨"SOFT_MAX_ARRAY_LENGTH", .int, 25, 20, 0⟩]
  methods := #[k39m0]
  staticTypes := #[(.object "jdk/internal/misc/Unsafe"), .boolean, .int, .int, .int, .int, .int, .int, .int, .int, .int, .int, .int, .int, .int, .int, .int, .int, .int, (.object "jdk/internal/access/JavaLangAccess"), .int]
  resolved := Array.replicate 378 none }
/-- the primitive boolean -/
def k40 : Class := { plain "boolean" none with kind := .primitive 'Z', accessFlags := 0x411 }
/-- [Z -/
def k41 : Class := { plain "[Z" (some 0) with kind := .array 40 .boolean, interfaces := #[4, 5], accessFlags := 1041 }
/-- the primitive byte -/
def k42 : Class := { plain "byte" none with kind := .primitive 'B', accessFlags := 0x411 }
/-- [B -/
def k43 : Class := { plain "[B" (some 0) with kind := .array 42 .byte, interfaces := #[4, 5], accessFlags := 1041 }
/-- the primitive int -/
def k44 : Class := { plain "int" none with kind := .primitive 'I', accessFlags := 0x411 }
/-- [I -/
def k45 : Class := { plain "[I" (some 0) with kind := .array 44 .int, interfaces := #[4, 5], accessFlags := 1041 }
/-- [Ljava/lang/Integer; -/
def k46 : Class := { plain "[Ljava/lang/Integer;" (some 0) with kind := .array 36 (.object "java/lang/Integer"), interfaces := #[4, 5], accessFlags := 1041 }
/-- [Ljava/lang/Object; -/
def k47 : Class := { plain "[Ljava/lang/Object;" (some 0) with kind := .array 0 (.object "java/lang/Object"), interfaces := #[4, 5], accessFlags := 1041 }
/-- [Ljava/util/HashMap$Node; -/
def k48 : Class := { plain "[Ljava/util/HashMap$Node;" (some 0) with kind := .array 25 (.object "java/util/HashMap$Node"), interfaces := #[4, 5], accessFlags := 1041 }
def ic (n : Int32) : Cell := { cls := 36, slots := #[.int n], vm := .none }
def heap : Heap := #[{ cls := 13, slots := #[.long 0, .int 1, .null, .int 0, .null, .int 0, .int 0], vm := .statics 13 },
  { cls := 22, slots := #[.long 0, .int 0, .ref 261, .ref 262], vm := .statics 22 },
  { cls := 37, slots := #[.int 0, .int 127, .ref 4, .null, .int 0], vm := .statics 37 },
  { cls := 38, slots := #[.null, .null, .null], vm := .statics 38 },
  { cls := 46, slots := #[.ref 5, .ref 6, .ref 7, .ref 8, .ref 9, .ref 10, .ref 11, .ref 12, .ref 13, .ref 14, .ref 15, .ref 16, .ref 17, .ref 18, .ref 19, .ref 20, .ref 21, .ref 22, .ref 23, .ref 24, .ref 25, .ref 26, .ref 27, .ref 28, .ref 29, .ref 30, .ref 31, .ref 32, .ref 33, .ref 34, .ref 35, .ref 36, .ref 37, .ref 38, .ref 39, .ref 40, .ref 41, .ref 42, .ref 43, .ref 44, .ref 45, .ref 46, .ref 47, .ref 48, .ref 49, .ref 50, .ref 51, .ref 52, .ref 53, .ref 54, .ref 55, .ref 56, .ref 57, .ref 58, .ref 59, .ref 60, .ref 61, .ref 62, .ref 63, .ref 64, .ref 65, .ref 66, .ref 67, .ref 68, .ref 69, .ref 70, .ref 71, .ref 72, .ref 73, .ref 74, .ref 75, .ref 76, .ref 77, .ref 78, .ref 79, .ref 80, .ref 81, .ref 82, .ref 83, .ref 84, .ref 85, .ref 86, .ref 87, .ref 88, .ref 89, .ref 90, .ref 91, .ref 92, .ref 93, .ref 94, .ref 95, .ref 96, .ref 97, .ref 98, .ref 99, .ref 100, .ref 101, .ref 102, .ref 103, .ref 104, .ref 105, .ref 106, .ref 107, .ref 108, .ref 109, .ref 110, .ref 111, .ref 112, .ref 113, .ref 114, .ref 115, .ref 116, .ref 117, .ref 118, .ref 119, .ref 120, .ref 121, .ref 122, .ref 123, .ref 124, .ref 125, .ref 126, .ref 127, .ref 128, .ref 129, .ref 130, .ref 131, .ref 132, .ref 133, .ref 134, .ref 135, .ref 136, .ref 137, .ref 138, .ref 139, .ref 140, .ref 141, .ref 142, .ref 143, .ref 144, .ref 145, .ref 146, .ref 147, .ref 148, .ref 149, .ref 150, .ref 151, .ref 152, .ref 153, .ref 154, .ref 155, .ref 156, .ref 157, .ref 158, .ref 159, .ref 160, .ref 161, .ref 162, .ref 163, .ref 164, .ref 165, .ref 166, .ref 167, .ref 168, .ref 169, .ref 170, .ref 171, .ref 172, .ref 173, .ref 174, .ref 175, .ref 176, .ref 177, .ref 178, .ref 179, .ref 180, .ref 181, .ref 182, .ref 183, .ref 184, .ref 185, .ref 186, .ref 187, .ref 188, .ref 189, .ref 190, .ref 191, .ref 192, .ref 193, .ref 194, .ref 195, .ref 196, .ref 197, .ref 198, .ref 199, .ref 200, .ref 201, .ref 202, .ref 203, .ref 204, .ref 205, .ref 206, .ref 207, .ref 208, .ref 209, .ref 210, .ref 211, .ref 212, .ref 213, .ref 214, .ref 215, .ref 216, .ref 217, .ref 218, .ref 219, .ref 220, .ref 221, .ref 222, .ref 223, .ref 224, .ref 225, .ref 226, .ref 227, .ref 228, .ref 229, .ref 230, .ref 231, .ref 232, .ref 233, .ref 234, .ref 235, .ref 236, .ref 237, .ref 238, .ref 239, .ref 240, .ref 241, .ref 242, .ref 243, .ref 244, .ref 245, .ref 246, .ref 247, .ref 248, .ref 249, .ref 250, .ref 251, .ref 252, .ref 253, .ref 254, .ref 255, .ref 256, .ref 257, .ref 258, .ref 259, .ref 260], vm := .none },
  ic (-128), ic (-127), ic (-126), ic (-125), ic (-124), ic (-123), ic (-122), ic (-121), ic (-120), ic (-119), ic (-118), ic (-117), ic (-116), ic (-115), ic (-114), ic (-113), ic (-112), ic (-111), ic (-110), ic (-109), ic (-108), ic (-107), ic (-106), ic (-105), ic (-104), ic (-103), ic (-102), ic (-101), ic (-100), ic (-99), ic (-98), ic (-97), ic (-96), ic (-95), ic (-94), ic (-93), ic (-92), ic (-91), ic (-90), ic (-89), ic (-88), ic (-87), ic (-86), ic (-85), ic (-84), ic (-83), ic (-82), ic (-81), ic (-80), ic (-79), ic (-78), ic (-77), ic (-76), ic (-75), ic (-74), ic (-73), ic (-72), ic (-71), ic (-70), ic (-69), ic (-68), ic (-67), ic (-66), ic (-65), ic (-64), ic (-63), ic (-62), ic (-61), ic (-60), ic (-59), ic (-58), ic (-57), ic (-56), ic (-55), ic (-54), ic (-53), ic (-52), ic (-51), ic (-50), ic (-49), ic (-48), ic (-47), ic (-46), ic (-45), ic (-44), ic (-43), ic (-42), ic (-41), ic (-40), ic (-39), ic (-38), ic (-37), ic (-36), ic (-35), ic (-34), ic (-33), ic (-32), ic (-31), ic (-30), ic (-29), ic (-28), ic (-27), ic (-26), ic (-25), ic (-24), ic (-23), ic (-22), ic (-21), ic (-20), ic (-19), ic (-18), ic (-17), ic (-16), ic (-15), ic (-14), ic (-13), ic (-12), ic (-11), ic (-10), ic (-9), ic (-8), ic (-7), ic (-6), ic (-5), ic (-4), ic (-3), ic (-2), ic (-1), ic 0, ic 1, ic 2, ic 3, ic 4, ic 5, ic 6, ic 7, ic 8, ic 9, ic 10, ic 11, ic 12, ic 13, ic 14, ic 15, ic 16, ic 17, ic 18, ic 19, ic 20, ic 21, ic 22, ic 23, ic 24, ic 25, ic 26, ic 27, ic 28, ic 29, ic 30, ic 31, ic 32, ic 33, ic 34, ic 35, ic 36, ic 37, ic 38, ic 39, ic 40, ic 41, ic 42, ic 43, ic 44, ic 45, ic 46, ic 47, ic 48, ic 49, ic 50, ic 51, ic 52, ic 53, ic 54, ic 55, ic 56, ic 57, ic 58, ic 59, ic 60, ic 61, ic 62, ic 63, ic 64, ic 65, ic 66, ic 67, ic 68, ic 69, ic 70, ic 71, ic 72, ic 73, ic 74, ic 75, ic 76, ic 77, ic 78, ic 79, ic 80, ic 81, ic 82, ic 83, ic 84, ic 85, ic 86, ic 87, ic 88, ic 89, ic 90, ic 91, ic 92, ic 93, ic 94, ic 95, ic 96, ic 97, ic 98, ic 99, ic 100, ic 101, ic 102, ic 103, ic 104, ic 105, ic 106, ic 107, ic 108, ic 109, ic 110, ic 111, ic 112, ic 113, ic 114, ic 115, ic 116, ic 117, ic 118, ic 119, ic 120, ic 121, ic 122, ic 123, ic 124, ic 125, ic 126, ic 127, { cls := 47, slots := #[], vm := .none },
  { cls := 47, slots := #[], vm := .none }]
def classes : Array Class := #[k0, k1, k2, k3, k4, k5, k6, k7, k8, k9, k10, k11, k12, k13, k14, k15, k16, k17, k18, k19, k20, k21, k22, k23, k24, k25, k26, k27, k28, k29, k30, k31, k32, k33, k34, k35, k36, k37, k38, k39, k40, k41, k42, k43, k44, k45, k46, k47, k48]
def interned : List (Array UInt16 × Addr) := []
def slotsUsed : Nat := 531
def theMethod : MethodId := ⟨1, 1⟩
def args0 : Array Value := #[.int 0, .int 0, .int 0, .int 0, .int 0]
def aboutOver (below : List Frame) : State where
  vm := { classes := classes, interned := interned.toArray }
  heap := heap
  slotsUsed := slotsUsed
  threads := #[{ frames := .invoking theMethod args0 :: below }]
def below0 : List Frame := [.native { method := ⟨0, 0⟩, args := #[] }]
def about1 : State := aboutOver below0
def p0 : Program := .bare "" "" ""
def e0 : Env := launch0.env 0 0 0
theorem w_frames : about1.frames = Frame.invoking theMethod args0 :: below0 := rfl
theorem w_args : argsFit about1.vm theMethod args0 = true := by decide +kernel
theorem w_heap : heapFits about1 = true := by decide +kernel
theorem w_runnable : about1.curStatus? = some .runnable := by decide +kernel
theorem w_alone : about1.alone = true := by decide +kernel
theorem w_named : about1.methodNamed? x = some theMethod := by decide +kernel
theorem w_hears : about1.hears theMethod below0 = true := by decide +kernel
theorem w_ripe : about1.ripe theMethod args0 below0 = true := by decide +kernel
theorem w_running : about1.status = .running := rfl
theorem w_room : about1.hasRoom e0.platform room_1 = true :=
  launch0.hasRoom_least _ room_1 (by decide +kernel) (by decide +kernel) (by decide +kernel) (by decide +kernel) (by decide +kernel) (by decide +kernel)
theorem allAtoms_all (ts : List Jvm.Cond) (a : Array Jvm.Value) (st : Jvm.State) : (allAtoms ts).before a st = ts.all (fun c => c.before a st) := by
  induction ts with
  | nil => rfl
  | cons c t ih =>
    show (Jvm.Cond.and c (allAtoms t)).before a st = _
    rw [Jvm.Cond.before_and, ih, List.all_cons]
def words1 : List Jvm.Cond := Jvm.Cond.code x code maxLocals ret :: tables_1
/-- a 'code' word, met by the world's own term for the bytes: nothing is compared byte by byte -/
theorem code_word {y : MethodName} {bytes : ByteArray} {mx : Nat} {rt : Option FieldType} {a : Array Value} {s : State} {m : MethodId} {meth : Method} {c : Code} (h1 : s.methodNamed? y = some m) (h2 : s.vm.method? m = some meth) (h3 : meth.code = some c) (h4 : c.code = bytes)
    (h5 : (c.maxLocals == mx && c.exceptionTable.isEmpty && decide (c.maxStack ≤ mostOperands) && decide (meth.sig.returnType = rt) && !meth.locks && decide (parseMethodDescriptor y.desc = some meth.sig)) = true) : (Jvm.Cond.code y bytes mx rt).before a s = true := by
  simp only [Bool.and_eq_true, beq_iff_eq, Bool.not_eq_true', decide_eq_true_eq] at h5
  obtain ⟨⟨⟨⟨⟨g1, g2⟩, g3⟩, g4⟩, g5⟩, g6⟩ := h5
  simp [Cond.before, Cond.holds, Cond.value, h1, h2, h3, h4, g1, g2, g3, g4, g5, g6]
def isCode : Jvm.Cond → Bool
  | .code _ _ _ _ => true
  | _ => false
theorem all_split {L : List Jvm.Cond} {P : Jvm.Cond → Bool} (h1 : L.all (fun c => isCode c || P c) = true) (h2 : ∀ c ∈ L.filter isCode, P c = true) : L.all P = true := by
  refine List.all_eq_true.mpr fun c hc => ?_
  have h := List.all_eq_true.mp h1 c hc
  rcases Bool.eq_false_or_eq_true (isCode c) with hi | hi
  · exact h2 c (List.mem_filter.mpr ⟨hc, hi⟩)
  · simpa [hi] using h
theorem cq (m : MethodId) (meth : Method) (c : Code) {y : MethodName} {bytes : ByteArray} {mx : Nat} {rt : Option FieldType} {L : List Jvm.Cond} (t : ∀ d ∈ L, d.before args0 about1 = true) (h1 : about1.methodNamed? y = some m := by decide +kernel) (h2 : about1.vm.method? m = some meth := by exact rfl) (h3 : meth.code = some c := by exact rfl) (h4 : c.code = bytes := by exact rfl) (h5 : (c.maxLocals == mx && c.exceptionTable.isEmpty && decide (c.maxStack ≤ mostOperands) && decide (meth.sig.returnType = rt) && !meth.locks && decide (parseMethodDescriptor y.desc = some meth.sig)) = true := by decide +kernel) : ∀ d ∈ Jvm.Cond.code y bytes mx rt :: L, d.before args0 about1 = true := List.forall_mem_cons.mpr ⟨code_word h1 h2 h3 h4 h5, t⟩
theorem nl : ∀ d ∈ ([] : List Jvm.Cond), d.before args0 about1 = true := by simp
theorem w_codes : ∀ c ∈ words1.filter isCode, c.before args0 about1 = true := by
  refine cq ⟨1, 1⟩ k1m1 k1c1 ?_
  refine cq ⟨8, 3⟩ k8m3 k8c3 ?_
  refine cq ⟨6, 1⟩ k6m1 k6c1 ?_
  refine cq ⟨3, 0⟩ k3m0 k3c0 ?_
  refine cq ⟨0, 0⟩ k0m0 k0c0 ?_
  refine cq ⟨13, 2⟩ k13m2 k13c2 ?_
  refine cq ⟨14, 1⟩ k14m1 k14c1 ?_
  refine cq ⟨14, 3⟩ k14m3 k14c3 ?_
  refine cq ⟨13, 3⟩ k13m3 k13c3 ?_
  refine cq ⟨1, 2⟩ k1m2 k1c2 ?_
  refine cq ⟨22, 0⟩ k22m0 k22c0 ?_
  refine cq ⟨20, 0⟩ k20m0 k20c0 ?_
  refine cq ⟨17, 0⟩ k17m0 k17c0 ?_
  refine cq ⟨22, 5⟩ k22m5 k22c5 ?_
  refine cq ⟨22, 4⟩ k22m4 k22c4 ?_
  refine cq ⟨22, 2⟩ k22m2 k22c2 ?_
  refine cq ⟨22, 1⟩ k22m1 k22c1 ?_
  refine cq ⟨23, 1⟩ k23m1 k23c1 ?_
  refine cq ⟨6, 4⟩ k6m4 k6c4 ?_
  refine cq ⟨6, 0⟩ k6m0 k6c0 ?_
  refine cq ⟨13, 1⟩ k13m1 k13c1 ?_
  refine cq ⟨13, 4⟩ k13m4 k13c4 ?_
  refine cq ⟨14, 2⟩ k14m2 k14c2 ?_
  refine cq ⟨6, 5⟩ k6m5 k6c5 ?_
  refine cq ⟨6, 6⟩ k6m6 k6c6 ?_
  refine cq ⟨8, 1⟩ k8m1 k8c1 ?_
  refine cq ⟨26, 0⟩ k26m0 k26c0 ?_
  refine cq ⟨25, 0⟩ k25m0 k25c0 ?_
  refine cq ⟨8, 0⟩ k8m0 k8c0 ?_
  refine cq ⟨8, 2⟩ k8m2 k8c2 ?_
  refine cq ⟨8, 4⟩ k8m4 k8c4 ?_
  refine cq ⟨27, 0⟩ k27m0 k27c0 ?_
  refine cq ⟨8, 5⟩ k8m5 k8c5 ?_
  refine cq ⟨8, 6⟩ k8m6 k8c6 ?_
  refine cq ⟨31, 0⟩ k31m0 k31c0 ?_
  refine cq ⟨29, 0⟩ k29m0 k29c0 ?_
  refine cq ⟨31, 1⟩ k31m1 k31c1 ?_
  refine cq ⟨34, 0⟩ k34m0 k34c0 ?_
  refine cq ⟨32, 0⟩ k32m0 k32c0 ?_
  refine cq ⟨32, 1⟩ k32m1 k32c1 ?_
  refine cq ⟨34, 2⟩ k34m2 k34c2 ?_
  refine cq ⟨34, 1⟩ k34m1 k34c1 ?_
  refine cq ⟨32, 2⟩ k32m2 k32c2 ?_
  refine cq ⟨25, 1⟩ k25m1 k25c1 ?_
  refine cq ⟨36, 0⟩ k36m0 k36c0 ?_
  refine cq ⟨6, 7⟩ k6m7 k6c7 ?_
  refine cq ⟨6, 8⟩ k6m8 k6c8 ?_
  refine cq ⟨25, 2⟩ k25m2 k25c2 ?_
  refine cq ⟨22, 3⟩ k22m3 k22c3 ?_
  refine cq ⟨6, 2⟩ k6m2 k6c2 ?_
  refine cq ⟨6, 3⟩ k6m3 k6c3 ?_
  refine cq ⟨36, 1⟩ k36m1 k36c1 ?_
  refine cq ⟨27, 3⟩ k27m3 k27c3 ?_
  refine cq ⟨27, 1⟩ k27m1 k27c1 ?_
  refine cq ⟨27, 2⟩ k27m2 k27c2 ?_
  exact nl
def wk (i : Nat) : Bool := ((words1.drop (24 * i)).take 24).all (fun c => isCode c || c.before args0 about1)
theorem w_t0 : wk 0 = true := by decide +kernel
theorem w_t1 : wk 1 = true := by decide +kernel
theorem w_t2 : wk 2 = true := by decide +kernel
theorem w_t3 : wk 3 = true := by decide +kernel
theorem w_t4 : wk 4 = true := by decide +kernel
theorem w_t5 : wk 5 = true := by decide +kernel
theorem w_t6 : wk 6 = true := by decide +kernel
theorem w_t7 : wk 7 = true := by decide +kernel
theorem w_t8 : wk 8 = true := by decide +kernel
theorem w_t9 : wk 9 = true := by decide +kernel
theorem w_t10 : wk 10 = true := by decide +kernel
theorem w_t11 : wk 11 = true := by decide +kernel
theorem w_t12 : wk 12 = true := by decide +kernel
theorem w_t13 : wk 13 = true := by decide +kernel
theorem w_t14 : wk 14 = true := by decide +kernel
theorem w_t15 : wk 15 = true := by decide +kernel
theorem w_t16 : wk 16 = true := by decide +kernel
theorem w_t17 : wk 17 = true := by decide +kernel
theorem w_t18 : wk 18 = true := by decide +kernel
theorem al1 {P : Jvm.Cond → Bool} : ∀ (k : Nat) (L : List Jvm.Cond), (∀ i, i < k → ((L.drop (24 * i)).take 24).all P = true) → (L.drop (24 * k)).all P = true → L.all P = true
  | 0, L, _, h => by simpa using h
  | k + 1, L, h, h' => by
    refine al1 k L (fun i hi => h i (by omega)) ?_
    rw [← List.take_append_drop 24 (L.drop (24 * k)), List.all_append, h k (by omega), List.drop_drop]
    exact h'
theorem w_tables : (allAtoms (Jvm.Cond.code x code maxLocals ret :: tables_1)).before args0 about1 = true := by
  rw [allAtoms_all]
  show words1.all (fun c => c.before args0 about1) = true
  refine all_split ?_ w_codes
  exact al1 19 _ (fun i hi => match i, hi with | 0, _ => w_t0 | 1, _ => w_t1 | 2, _ => w_t2 | 3, _ => w_t3 | 4, _ => w_t4 | 5, _ => w_t5 | 6, _ => w_t6 | 7, _ => w_t7 | 8, _ => w_t8 | 9, _ => w_t9 | 10, _ => w_t10 | 11, _ => w_t11 | 12, _ => w_t12 | 13, _ => w_t13 | 14, _ => w_t14 | 15, _ => w_t15 | 16, _ => w_t16 | 17, _ => w_t17 | 18, _ => w_t18 | k + 19, q => absurd q (by omega)) rfl
theorem w_rest : rest_1_c.before args0 about1 = true := by decide +kernel
theorem w_case : (Jvm.Cond.and given_1 narrow_1).before args0 about1 = true := by decide +kernel
theorem w_applies : (headSpec (Jvm.Cond.code x code maxLocals ret :: tables_1) room_1).applies x e0.platform about1 = true :=
  (Spec.applies_iff w_frames).mpr ⟨w_running, w_runnable, w_alone, w_named, w_hears, w_ripe, w_room, w_tables⟩
theorem atStart : AtStart classFile x code maxLocals ret World_1 tables_1 room_1 Calls_1 rest_1 Pre_1 launch0 p0 e0 about1 theMethod args0 below0 :=
  ⟨lists_1, trivial, launch0.admits_env _ _ _, launch0.least_env, fairChoices_fair.cas, fairChoices_fair.clock, w_frames, w_args, w_heap, w_applies, trivial, w_rest, w_case⟩
end start1
theorem witness_1 : WitnessClaimed_1 := ⟨start1.p0, start1.e0, start1.about1, start1.theMethod, start1.args0, start1.below0, start1.atStart⟩
end Jvm.Pilot.@@N@@
