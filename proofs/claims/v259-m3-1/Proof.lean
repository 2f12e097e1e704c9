import JvmDerived
import JvmDerived.Pilot.@@N@@Statement
import JvmDerived.Pilot.@@N@@Code
set_option linter.unusedVariables false
set_option linter.unusedSimpArgs false
namespace Jvm.RoadKit
open Sem ClassFile Op Lib Jvm.Stand Jvm.Free Jvm.LawKit
section OwnGo
variable {p : Program} {l : Launch} {e : Env} {R : Room} {s : State} {m : MethodId} {args : Array Value} {below : List Frame} {meth : Method} {c : Code} {T : State} {locs : List Loc} {cells slots : Nat} {Z : State} {a0 : Array Value} {h : Heap} {kc ks : Nat} {Q : Option Value → Heap → List Loc → Prop} {G : Outcome → State → Prop} {U U' : State}
/-- from U the walk ends, and G says how -/
def OGo (p : Program) (e : Env) (below : List Frame) (G : Outcome → State → Prop) (U : State) : Prop :=
  ∃ s₂ o, Steps p.tables e below U s₂ ∧ s₂.status = .running ∧ Ended s₂ below o ∧ G o s₂
/-- it returned, Q says what, and the frame is kept -/
def OEnd (s : State) (kc ks : Nat) (Q : Option Value → Heap → List Loc → Prop) (o : Outcome) (t : State) : Prop := ∃ v L, o = .returned v ∧ Q v t.heap L ∧ FrameEnd s o t L kc ks
/-- the same where a String constant may have come to be interned -/
def OEndW (s : State) (kc ks : Nat) (Q : Option Value → Heap → List Loc → Prop) (o : Outcome) (t : State) : Prop := ∃ v L, o = .returned v ∧ Q v t.heap L ∧ ReturnedEndW s o t L kc ks
theorem OGo.go (f : ∀ t, Steps p.tables e below U' t → Steps p.tables e below U t) (k : OGo p e below G U') : OGo p e below G U := by
  obtain ⟨s₂, o, h1, h2⟩ := k
  exact ⟨s₂, o, f _ h1, h2⟩
theorem OGo.trans (f : Steps p.tables e below U U') (k : OGo p e below G U') : OGo p e below G U := OGo.go (fun _ r => f.trans r) k
/-- two roads that meet again, in a state that differs in one value -/
theorem OGo.ite1 {α : Type} {P : Prop} [Decidable P] (f : α → State) {x y : α} (h1 : P → OGo p e below G (f x) → OGo p e below G U) (h2 : ¬ P → OGo p e below G (f y) → OGo p e below G U) (k : ∀ z, z = (if P then x else y) → OGo p e below G (f z)) : OGo p e below G U := by
  by_cases q : P
  · exact h1 q (k _ (if_pos q).symm)
  · exact h2 q (k _ (if_neg q).symm)
theorem OGo.ite2 {α β : Type} {P : Prop} [Decidable P] (f : α → β → State) {x y : α} {x' y' : β} (h1 : P → OGo p e below G (f x x') → OGo p e below G U) (h2 : ¬ P → OGo p e below G (f y y') → OGo p e below G U) (k : ∀ z z', z = (if P then x else y) → z' = (if P then x' else y') → OGo p e below G (f z z')) : OGo p e below G U := by
  by_cases q : P
  · exact h1 q (k _ _ (if_pos q).symm (if_pos q).symm)
  · exact h2 q (k _ _ (if_neg q).symm (if_neg q).symm)
theorem OGo.ite3 {α β γ : Type} {P : Prop} [Decidable P] (f : α → β → γ → State) {x y : α} {x' y' : β} {x'' y'' : γ} (h1 : P → OGo p e below G (f x x' x'') → OGo p e below G U) (h2 : ¬ P → OGo p e below G (f y y' y'') → OGo p e below G U) (k : ∀ z z' z'', z = (if P then x else y) → z' = (if P then x' else y') → z'' = (if P then x'' else y'') → OGo p e below G (f z z' z'')) : OGo p e below G U := by
  by_cases q : P
  · exact h1 q (k _ _ _ (if_pos q).symm (if_pos q).symm (if_pos q).symm)
  · exact h2 q (k _ _ _ (if_neg q).symm (if_neg q).symm (if_neg q).symm)
theorem OGo.cut {H : Prop} (V : State) (k1 : (H → OGo p e below G V) → OGo p e below G U) (k2 : H → OGo p e below G V) : OGo p e below G U := k1 k2
theorem OGo.cut2 {α : Type} {H : α → Prop} (V : α → State) (k1 : (∀ a, H a → OGo p e below G (V a)) → OGo p e below G U) (k2 : ∀ a, H a → OGo p e below G (V a)) : OGo p e below G U := k1 k2
theorem OGo.nm {α : Type} (f : α → State) {x : α} (k : ∀ z, z = x → OGo p e below G (f z)) : OGo p e below G (f x) := k x rfl
/-- the end of the walk -/
theorem OGo.ret (X : Stand p l e R s m args below meth c T locs cells slots) {v : Option Value} {g : JFrame} (hv : meth.sig.returnType = none → v = none) (hlk : meth.locks = false)
    (hs : ∀ fs, (∀ (f : JFrame) (acts : List Action), f.method = m → f.locked = none → f.entered = [] → (doReturn e (T.setTop f) acts v).1 = T.setFrames fs) → Steps p.tables e below (T.setTop g) (T.setFrames fs))
    (hQ : Q v T.heap locs) (hc : cells ≤ kc) (hl : slots ≤ ks) : OGo p e below (OEnd s kc ks Q) (T.setTop g) := by
  obtain ⟨fs, hr, hrun, hended, hW, hsame⟩ := X.leave (v := v) hv hlk
  exact ⟨_, _, hs fs hr, hrun, hended, v, locs, rfl, hQ, ⟨_, rfl⟩, hW, hsame.mono hc hl⟩
/-- return of a boolean, byte, char, short -/
theorem OGo.retN (X : Stand p l e R s m args below meth c T locs cells slots) (hx : p.tables.exec = Jvm.exec) {pc : Nat} {Ls : Array Slot} {z : Int32} {t : FieldType} {rest : List Value} (hret : meth.sig.returnType = some t) (hlk : meth.locks = false) (ht : t = .boolean ∨ t = .byte ∨ t = .char ∨ t = .short)
    (hd : decode c.code pc = .ok (.ireturn, 1)) (hQ : Q (some (.int (nar t z))) T.heap locs) (hc : cells ≤ kc) (hl : slots ≤ ks) : OGo p e below (OEnd s kc ks Q) (T.setTop (mkF m pc Ls (.int z :: rest))) :=
  OGo.ret X (fun q => by rw [hret] at q; cases q) hlk (fun fs hr => Jvm.RoadKit.retN X hx hret ht hd hr) hQ hc hl
/-- return of an int, a long, a double, a reference -/
theorem OGo.retV (X : Stand p l e R s m args below meth c T locs cells slots) (hx : p.tables.exec = Jvm.exec) {pc : Nat} {Ls : Array Slot} {w : Value} {t : FieldType} {i : Instr} {rest : List Value} (hret : meth.sig.returnType = some t) (hlk : meth.locks = false) (hn : narrow t w = w)
    (hi : (i = .ireturn ∧ (t = .int ∨ t = .boolean ∨ t = .byte ∨ t = .char ∨ t = .short) ∧ ∃ z, w = .int z) ∨ (i = .lreturn ∧ t = .long ∧ ∃ z, w = .long z) ∨ (i = .dreturn ∧ t = .double ∧ ∃ z, w = .double z) ∨ (i = .freturn ∧ t = .float ∧ ∃ z, w = .float z) ∨ (i = .areturn ∧ t.isReference = true ∧ w.isRef = true))
    (hd : decode c.code pc = .ok (i, 1)) (hQ : Q (some w) T.heap locs) (hc : cells ≤ kc) (hl : slots ≤ ks) : OGo p e below (OEnd s kc ks Q) (T.setTop (mkF m pc Ls (w :: rest))) :=
  OGo.ret X (fun q => by rw [hret] at q; cases q) hlk (fun fs hr => Jvm.RoadKit.retOut X hx hret hn hi hd hr) hQ hc hl
theorem OGo.retI (X : Stand p l e R s m args below meth c T locs cells slots) (hx : p.tables.exec = Jvm.exec) {pc : Nat} {Ls : Array Slot} {z : Int32} {rest : List Value} (hret : meth.sig.returnType = some .int) (hlk : meth.locks = false)
    (hd : decode c.code pc = .ok (.ireturn, 1)) (hQ : Q (some (.int z)) T.heap locs) (hc : cells ≤ kc) (hl : slots ≤ ks) : OGo p e below (OEnd s kc ks Q) (T.setTop (mkF m pc Ls (.int z :: rest))) :=
  OGo.retV X hx hret hlk rfl (Or.inl ⟨rfl, Or.inl rfl, z, rfl⟩) hd hQ hc hl
theorem OGo.retJ (X : Stand p l e R s m args below meth c T locs cells slots) (hx : p.tables.exec = Jvm.exec) {pc : Nat} {Ls : Array Slot} {z : Int64} {rest : List Value} (hret : meth.sig.returnType = some .long) (hlk : meth.locks = false)
    (hd : decode c.code pc = .ok (.lreturn, 1)) (hQ : Q (some (.long z)) T.heap locs) (hc : cells ≤ kc) (hl : slots ≤ ks) : OGo p e below (OEnd s kc ks Q) (T.setTop (mkF m pc Ls (.long z :: rest))) :=
  OGo.retV X hx hret hlk rfl (Or.inr (Or.inl ⟨rfl, rfl, z, rfl⟩)) hd hQ hc hl
theorem OGo.retD (X : Stand p l e R s m args below meth c T locs cells slots) (hx : p.tables.exec = Jvm.exec) {pc : Nat} {Ls : Array Slot} {z : UInt64} {rest : List Value} (hret : meth.sig.returnType = some .double) (hlk : meth.locks = false)
    (hd : decode c.code pc = .ok (.dreturn, 1)) (hQ : Q (some (.double z)) T.heap locs) (hc : cells ≤ kc) (hl : slots ≤ ks) : OGo p e below (OEnd s kc ks Q) (T.setTop (mkF m pc Ls (.double z :: rest))) :=
  OGo.retV X hx hret hlk rfl (Or.inr (Or.inr (Or.inl ⟨rfl, rfl, z, rfl⟩))) hd hQ hc hl
theorem OGo.retA (X : Stand p l e R s m args below meth c T locs cells slots) (hx : p.tables.exec = Jvm.exec) {pc : Nat} {Ls : Array Slot} {w : Value} {t : FieldType} {rest : List Value} (hret : meth.sig.returnType = some t) (hlk : meth.locks = false) (ht : t.isReference = true) (hw : w.isRef = true)
    (hd : decode c.code pc = .ok (.areturn, 1)) (hQ : Q (some w) T.heap locs) (hc : cells ≤ kc) (hl : slots ≤ ks) : OGo p e below (OEnd s kc ks Q) (T.setTop (mkF m pc Ls (w :: rest))) :=
  OGo.retV X hx hret hlk (by cases t <;> first | (cases ht; done) | (cases w <;> first | rfl | (cases hw; done))) (Or.inr (Or.inr (Or.inr (Or.inr ⟨rfl, ht, hw⟩)))) hd hQ hc hl
theorem OGo.ret0 (X : Stand p l e R s m args below meth c T locs cells slots) (hx : p.tables.exec = Jvm.exec) {pc : Nat} {Ls : Array Slot} (hret : meth.sig.returnType = none) (hlk : meth.locks = false)
    (hd : decode c.code pc = .ok (.return_, 1)) (hQ : Q none T.heap locs) (hc : cells ≤ kc) (hl : slots ≤ ks) : OGo p e below (OEnd s kc ks Q) (T.setTop (mkF m pc Ls [])) :=
  OGo.ret X (fun _ => rfl) hlk (fun fs hr => X.returnOut hx hret hd hr) hQ hc hl
/-- the end of the walk where a String constant may have come to be interned -/
theorem OGo.retW {vm₁ : Vm} {n : Nat} (X : Stand p l e R (s.setVm vm₁) m args below meth c T locs cells slots) (hS : s.Since vm₁ n) (hn : n ≤ T.heap.size) {v : Option Value} {g : JFrame} (hv : meth.sig.returnType = none → v = none) (hlk : meth.locks = false)
    (hs : ∀ fs, (∀ (f : JFrame) (acts : List Action), f.method = m → f.locked = none → f.entered = [] → (doReturn e (T.setTop f) acts v).1 = T.setFrames fs) → Steps p.tables e below (T.setTop g) (T.setFrames fs))
    (hQ : Q v T.heap locs) (hc : cells ≤ kc) (hl : slots ≤ ks) : OGo p e below (OEndW s kc ks Q) (T.setTop g) := by
  obtain ⟨fs, hr, hrun, hended, h1, h2, h3, h4⟩ := X.leaveW hS hn (v := v) hv hlk
  exact ⟨_, _, hs fs hr, hrun, hended, v, locs, rfl, hQ, h1, h2, h3, h4.mono hc hl⟩
theorem OGo.retNW {vm₁ : Vm} {n : Nat} (X : Stand p l e R (s.setVm vm₁) m args below meth c T locs cells slots) (hS : s.Since vm₁ n) (hn : n ≤ T.heap.size) (hx : p.tables.exec = Jvm.exec) {pc : Nat} {Ls : Array Slot} {z : Int32} {t : FieldType} {rest : List Value} (hret : meth.sig.returnType = some t) (hlk : meth.locks = false) (ht : t = .boolean ∨ t = .byte ∨ t = .char ∨ t = .short)
    (hd : decode c.code pc = .ok (.ireturn, 1)) (hQ : Q (some (.int (nar t z))) T.heap locs) (hc : cells ≤ kc) (hl : slots ≤ ks) : OGo p e below (OEndW s kc ks Q) (T.setTop (mkF m pc Ls (.int z :: rest))) :=
  OGo.retW X hS hn (fun q => by rw [hret] at q; cases q) hlk (fun fs hr => Jvm.RoadKit.retN X hx hret ht hd hr) hQ hc hl
/-- a body's contract: called with 'as' at a heap h0, it returns, and Q says what it left -/
def OMet (l : Launch) (Z : State) (y : MethodName) (bytes : ByteArray) (maxL : Nat) (ret : Option FieldType) (ws : List Jvm.Cond) (rm : Room) (as : Array Value) (h0 : Heap) (Q : Option Value → Heap → List Loc → Prop) : Prop :=
  MetFree l y (head1 (Jvm.Cond.code y bytes maxL ret :: ws) rm) (fun a U => a = as ∧ Z.Warmed39 U.vm ∧ U.heap = h0) (fun _ _ _ _ _ => True) (fun _ U o U' => ∃ v L, o = .returned v ∧ Q v U'.heap L ∧ FrameEnd U o U' L rm.cells rm.slots)
theorem OMet.of {y : MethodName} {bytes : ByteArray} {maxL : Nat} {ret : Option FieldType} {ws : List Jvm.Cond} {rm : Room} {as : Array Value} {h0 : Heap} (hpn : plainFor y = true)
    (H : ∀ (p : Program) (e : Env) (s : State) (m : MethodId) (below : List Frame) (meth : Method) (c : Code) (T0 : State), Stand p l e rm s m as below meth c T0 [] 0 0 → p.tables.exec = Jvm.exec → c.code = bytes → c.maxLocals = maxL → s.vm.findClass y.cls = some m.cls → meth.name = y.name → meth.sig.returnType = ret → meth.locks = false → Z.Warmed39 s.vm → T0.heap = h0 →
      OGo p e below (OEnd s rm.cells rm.slots Q) (T0.setTop (entryFrame m as maxL))) : OMet l Z y bytes maxL ret ws rm as h0 Q := by
  refine MetFree.of_bodySF hpn hisR ?_
  intro p e s m args below meth c s₁ Bd hml0 hP hK
  obtain ⟨rfl, hZ, hh⟩ := hP
  exact H p e s m below meth c s₁ (Stand.of_body Bd) Bd.exec Bd.bytes hml0 (findClass_of_methodNamed Bd.named) (name_of_methodNamed Bd.named Bd.method).1 Bd.returns Bd.notSynchronized hZ (by rw [← hh, Bd.state]; rfl)
def OMetW (l : Launch) (Z : State) (y : MethodName) (bytes : ByteArray) (maxL : Nat) (ret : Option FieldType) (ws : List Jvm.Cond) (rm : Room) (as : Array Value) (h0 : Heap) (Q : Option Value → Heap → List Loc → Prop) : Prop :=
  MetFree l y (head1 (Jvm.Cond.code y bytes maxL ret :: ws) rm) (fun a U => a = as ∧ Z.Warmed39 U.vm ∧ U.heap = h0) (fun _ _ _ _ _ => True) (fun _ U o U' => ∃ v L, o = .returned v ∧ Q v U'.heap L ∧ ReturnedEndW U o U' L rm.cells rm.slots)
theorem OMetW.of {y : MethodName} {bytes : ByteArray} {maxL : Nat} {ret : Option FieldType} {ws : List Jvm.Cond} {rm : Room} {as : Array Value} {h0 : Heap} (hpn : plainFor y = true)
    (H : ∀ (p : Program) (e : Env) (s : State) (m : MethodId) (below : List Frame) (meth : Method) (c : Code) (T0 : State), Stand p l e rm s m as below meth c T0 [] 0 0 → p.tables.exec = Jvm.exec → c.code = bytes → c.maxLocals = maxL → s.vm.findClass y.cls = some m.cls → meth.name = y.name → meth.sig.returnType = ret → meth.locks = false → Z.Warmed39 s.vm → T0.heap = h0 →
      OGo p e below (OEndW s rm.cells rm.slots Q) (T0.setTop (entryFrame m as maxL))) : OMetW l Z y bytes maxL ret ws rm as h0 Q := by
  refine MetFree.of_bodySF hpn hisR ?_
  intro p e s m args below meth c s₁ Bd hml0 hP hK
  obtain ⟨rfl, hZ, hh⟩ := hP
  exact H p e s m below meth c s₁ (Stand.of_body Bd) Bd.exec Bd.bytes hml0 (findClass_of_methodNamed Bd.named) (name_of_methodNamed Bd.named Bd.method).1 Bd.returns Bd.notSynchronized hZ (by rw [← hh, Bd.state]; rfl)
/-- a call of a static method -/
theorem OGo.callS (X : Stand p l e R s m args below meth c T locs cells slots) (hx : p.tables.exec = Jvm.exec) (hZ : Z.Warmed39 s.vm) {own : String} {index : Nat} {y : MethodName} {bytes : ByteArray} {maxL : Nat} {ret : Option FieldType}
    (hown : s.vm.findClass own = some m.cls) (w1 : (Jvm.Cond.methodLink own index y).before a0 Z = true) (w2 : (Jvm.Cond.static y).before a0 Z = true) (w3 : (Jvm.Cond.initialized y.cls).before a0 Z = true) (w4 : (Jvm.Cond.code y bytes maxL ret).before a0 Z = true)
    (hy : y.cls ≠ "java/lang/invoke/MethodHandle" ∧ y.cls ≠ "java/lang/invoke/VarHandle") {g : JFrame} {argsL rest : List Value} {rm : Room} {Q' : Option Value → Heap → List Loc → Prop} (eT : T.heap = h) (hM : OMet l Z y bytes maxL ret [] rm argsL.toArray h Q')
    (hg : g.method = m) (hsize : g.locals.size = c.maxLocals) (hlen : ∀ sig, parseMethodDescriptor y.desc = some sig → argsL.length = sig.parameters.length) (hstack : g.stack = argsL.reverse ++ rest) {W : Nat} (hW : 2 * g.monitorRoom + (rest.map fun v => v.category).sum ≤ W) (hd : decode c.code g.pc = .ok (.invokestatic index, 3))
    (hf : rm.frames + 1 ≤ R.frames) (hl : W + (maxL + 11) + rm.locals ≤ R.locals) (hc : cells + rm.cells ≤ R.cells) (hs : slots + rm.slots ≤ R.slots)
    (k : ∀ (v : Option Value) (T' : State) (L' : List Loc), Stand p l e R s m args below meth c T' (locs ++ L') (cells + rm.cells) (slots + rm.slots) → Q' v T'.heap L' → OGo p e below G (T'.setTop { g with pc := g.pc + 3, stack := v.toList ++ rest })) : OGo p e below G (T.setTop g) := by
  obtain ⟨v, vm₁, B, hW₁, X', ⟨L, hQ, e1, e2, e3⟩, st⟩ := Jvm.LawKit.callS X hx (y := y) hown (mvT hZ w1) (mvT hZ w2) (mvT hZ w3) (mvT hZ w4) hy (backOf (W := W) hM hZ w4 w3 hf hl) (g := g) hg hsize (argsL := argsL) (rest := rest) hlen hstack hW hd (fun _ _ => ⟨rfl, eT, hc, hs⟩)
  rw [e1, e2, e3] at X'
  exact OGo.go st (k v B.U L X' hQ)
/-- a call of a constructor -/
theorem OGo.callI (X : Stand p l e R s m args below meth c T locs cells slots) (hx : p.tables.exec = Jvm.exec) (hZ : Z.Warmed39 s.vm) {own : String} {index : Nat} {y : MethodName} {bytes : ByteArray} {maxL : Nat} (hy1 : y.name = "<init>")
    (hown : s.vm.findClass own = some m.cls) (w1 : (Jvm.Cond.methodLink own index y).before a0 Z = true) (w2 : (Jvm.Cond.instanceMethod y).before a0 Z = true) (w3 : (Jvm.Cond.initialized y.cls).before a0 Z = true) (w4 : (Jvm.Cond.code y bytes maxL none).before a0 Z = true)
    (hy : y.cls ≠ "java/lang/invoke/MethodHandle" ∧ y.cls ≠ "java/lang/invoke/VarHandle") {g : JFrame} {a : Addr} {argsL rest : List Value} {rm : Room} {Q' : Option Value → Heap → List Loc → Prop} (eT : T.heap = h) (hM : OMet l Z y bytes maxL none [] rm (.ref a :: argsL).toArray h Q')
    (hg : g.method = m) (hsize : g.locals.size = c.maxLocals) (hlen : ∀ sig, parseMethodDescriptor y.desc = some sig → argsL.length = sig.parameters.length) (hstack : g.stack = argsL.reverse ++ .ref a :: rest) {W : Nat} (hW : 2 * g.monitorRoom + (rest.map fun v => v.category).sum ≤ W) (hd : decode c.code g.pc = .ok (.invokespecial index, 3))
    (hf : rm.frames + 1 ≤ R.frames) (hl : W + (maxL + 11) + rm.locals ≤ R.locals) (hc : cells + rm.cells ≤ R.cells) (hs : slots + rm.slots ≤ R.slots)
    (k : ∀ (v : Option Value) (T' : State) (L' : List Loc), Stand p l e R s m args below meth c T' (locs ++ L') (cells + rm.cells) (slots + rm.slots) → Q' v T'.heap L' → OGo p e below G (T'.setTop { g with pc := g.pc + 3, stack := v.toList ++ rest })) : OGo p e below G (T.setTop g) := by
  obtain ⟨v, vm₁, B, hW₁, X', ⟨L, hQ, e1, e2, e3⟩, st⟩ := X.specialBack hx (y := y) hy1 hown (mvT hZ w1) (mvT hZ w2) (mvT hZ w4) hy (backOf (W := W) hM hZ w4 w3 hf hl) (g := g) hg hsize (Steps.refl _) (a := a) (argsL := argsL) (rest := rest) hlen hstack hW hd (fun _ _ => ⟨rfl, eT, hc, hs⟩)
  rw [e1, e2, e3] at X'
  exact OGo.trans st (k v B.U L X' hQ)
/-- a call of an instance method -/
theorem OGo.callV (X : Stand p l e R s m args below meth c T locs cells slots) (hx : p.tables.exec = Jvm.exec) (hZ : Z.Warmed39 s.vm) {own C : String} {index : Nat} {y : MethodName} {bytes : ByteArray} {maxL : Nat} {ret : Option FieldType}
    (hown : s.vm.findClass own = some m.cls) (w1 : (Jvm.Cond.methodLink own index y).before a0 Z = true) (w5 : (Jvm.Cond.declares y).before a0 Z = true) (w6 : (Jvm.Cond.selects C y y).before a0 Z = true) (w2 : (Jvm.Cond.instanceMethod y).before a0 Z = true) (w3 : (Jvm.Cond.initialized y.cls).before a0 Z = true) (w4 : (Jvm.Cond.code y bytes maxL ret).before a0 Z = true)
    (hy : y.cls ≠ "java/lang/invoke/MethodHandle" ∧ y.cls ≠ "java/lang/invoke/VarHandle") {g : JFrame} {a : Addr} {argsL rest : List Value} {rm : Room} {Q' : Option Value → Heap → List Loc → Prop} (eT : T.heap = h) (E : Exa Z h a C) (hM : OMet l Z y bytes maxL ret [] rm (.ref a :: argsL).toArray h Q')
    (hg : g.method = m) (hsize : g.locals.size = c.maxLocals) (hlen : ∀ sig, parseMethodDescriptor y.desc = some sig → argsL.length = sig.parameters.length) (hstack : g.stack = argsL.reverse ++ .ref a :: rest) {W : Nat} (hW : 2 * g.monitorRoom + (rest.map fun v => v.category).sum ≤ W) (hd : decode c.code g.pc = .ok (.invokevirtual index, 3))
    (hf : rm.frames + 1 ≤ R.frames) (hl : W + (maxL + 11) + rm.locals ≤ R.locals) (hc : cells + rm.cells ≤ R.cells) (hs : slots + rm.slots ≤ R.slots)
    (k : ∀ (v : Option Value) (T' : State) (L' : List Loc), Stand p l e R s m args below meth c T' (locs ++ L') (cells + rm.cells) (slots + rm.slots) → Q' v T'.heap L' → OGo p e below G (T'.setTop { g with pc := g.pc + 3, stack := v.toList ++ rest })) : OGo p e below G (T.setTop g) := by
  obtain ⟨cB, kB, q1, q2, q3⟩ := isOf hZ eT E
  obtain ⟨v, vm₁, B, hW₁, X', ⟨L, hQ, e1, e2, e3⟩, st⟩ := X.virtualBack hx (y := y) (z := y) hown (mvT hZ w1) (mvT hZ w5) (notFace_of_selects (args := #[]) (mvT hZ w6)) (mvT hZ w6) (mvT hZ w2) hy (backOf (W := W) hM hZ w4 w3 hf hl) q1 q3 (g := g) hg hsize (Steps.refl _) (argsL := argsL) (rest := rest) hlen hstack hW hd (fun _ _ => ⟨rfl, eT, hc, hs⟩)
  rw [e1, e2, e3] at X'
  exact OGo.trans st (k v B.U L X' hQ)
/-- what a contract says that leaves the heap as it was -/
def OPure (w : Option Value) (h0 : Heap) (v : Option Value) (h : Heap) (L : List Loc) : Prop := v = w ∧ h = h0 ∧ L = []
/-- a static that a sheet says to hold an object of just this class -/
theorem own_enum {s : State} {args : Array Value} {C n d K : String} (hx : (Jvm.Cond.exactly (.static C n d) K).value args s none s [] = some true) (w1 : (Jvm.Cond.initialized C).before args s = true) (w2 : (Jvm.Cond.laysStatic C n d).before args s = true) :
    ∃ a, (Term.static C n d).eval args s none [] s = some (.ref a) ∧ Sta s s.heap C n d (.ref a) ∧ Exa s s.heap a K := by
  obtain ⟨a, ev⟩ := exa_v hx
  exact ⟨a, ev, Sta.start ev (Or.inr ⟨w1, w2⟩), Exa.start ev hx⟩
theorem own_efld {s : State} {args : Array Value} {t : Term} {C n d : String} {a : Addr} {k : Int32} (ev : t.eval args s none [] s = some (.ref a)) (h : (Jvm.Cond.eq (.field t C n d) (.int k)).value args s none s [] = some true) : Fld s s.heap a C n d (.int k) := by
  obtain ⟨x, y, h1, h2, h3, h4⟩ := cmp_v (Or.inl h)
  have h2' : y = .int k := (Option.some.inj h2).symm
  subst h2'
  obtain ⟨z, rfl⟩ := h4
  have q : (Jvm.Cond.eq (.field t C n d) (.int k)).value args s none s [] = some (decide (z = k)) := by simp [Cond.value, h1, h2]
  have e := gotT q h
  subst e
  exact Fld.start ((fld_at ev).symm.trans h1)
theorem own_sta_keep {h' : Heap} {C n d : String} {v : Value} {ws : List Addr} (F : Sta Z h C n d v) (K : Keep h h' ws) (q : ∀ x ∈ ws, ∀ cell : Cell, h[x]? = some cell → cell.vm.isStatics = false) : Sta Z h' C n d v := by
  obtain ⟨cf, i, k, f, st, cell, h1, h2, h3, h4, h5, h6, h7⟩ := F
  exact ⟨cf, i, k, f, st, cell, h1, h2, h3, h4, K.2.1 _ _ h5 (fun r => by rw [q _ r _ h5] at h6; cases h6), h6, h7⟩
theorem own_plain {a : Addr} {C : String} (F : Exa Z h a C) : ∀ cell : Cell, h[a]? = some cell → cell.vm.isStatics = false := fun cell hc => by
  obtain ⟨c', k, h1, h2, h3, h4, h5⟩ := F
  cases h1.symm.trans hc
  exact h4
theorem nar_b0 : nar .boolean 0 = 0 := by decide
theorem nar_b1 : nar .boolean 1 = 1 := by decide
theorem nar_bite {P : Prop} [Decidable P] {x y : Int32} : nar .boolean (if P then x else y) = if P then nar .boolean x else nar .boolean y := by split <;> rfl
end OwnGo
end Jvm.RoadKit
namespace Jvm.RoadKit
open Sem ClassFile Op Lib Jvm.Stand Jvm.Free Jvm.LawKit
section OwnVec
variable {p : Program} {l : Launch} {e : Env} {R : Room} {s : State} {m : MethodId} {args : Array Value} {below : List Frame} {meth : Method} {c : Code} {T : State} {locs : List Loc} {cells slots : Nat} {Z : State} {h h' : Heap} {a b : Addr} {k : ClassId} {z j : Int32} {vs : List Value} {dv : Value} {ty : FieldType}
theorem Arv.ldJ (X : Stand p l e R s m args below meth c T locs cells slots) (hx : p.tables.exec = Jvm.exec) (hZ : Z.Warmed39 s.vm) (eT : T.heap = h) (F : Arv Z h a k .long z vs dv) (hj : ¬ j < 0 ∧ j < z) {v : Value} (hv : vs.getD j.toNatClampNeg dv = v)
    {g : JFrame} (hg : g.method = m) {rest : List Value} (hs : g.stack = .int j :: .ref a :: rest) (hd : decode c.code g.pc = .ok (.laload, 1)) :
    ∀ target, Steps p.tables e below (T.setTop { g with pc := g.pc + 1, stack := v :: rest }) target → Steps p.tables e below (T.setTop g) target := by
  obtain ⟨cl, A, q1, S, q3, H, G⟩ := F
  exact X.laload hx (j := j) (v := v) (by rw [eT]; exact A.1) (State.isArrayOf_alike hZ.alike A.2.1) A.2.2 (inb_of S hj) (H.at (inb_of S hj) hv) (g := g) hg hs hd
theorem Arv.ldD (X : Stand p l e R s m args below meth c T locs cells slots) (hx : p.tables.exec = Jvm.exec) (hZ : Z.Warmed39 s.vm) (eT : T.heap = h) (F : Arv Z h a k .double z vs dv) (hj : ¬ j < 0 ∧ j < z) {v : Value} (hv : vs.getD j.toNatClampNeg dv = v)
    {g : JFrame} (hg : g.method = m) {rest : List Value} (hs : g.stack = .int j :: .ref a :: rest) (hd : decode c.code g.pc = .ok (.daload, 1)) :
    ∀ target, Steps p.tables e below (T.setTop { g with pc := g.pc + 1, stack := v :: rest }) target → Steps p.tables e below (T.setTop g) target := by
  obtain ⟨cl, A, q1, S, q3, H, G⟩ := F
  exact X.daload hx (j := j) (v := v) (by rw [eT]; exact A.1) (State.isArrayOf_alike hZ.alike A.2.1) A.2.2 (inb_of S hj) (H.at (inb_of S hj) hv) (g := g) hg hs hd
theorem Arv.ldR (X : Stand p l e R s m args below meth c T locs cells slots) (hx : p.tables.exec = Jvm.exec) (hZ : Z.Warmed39 s.vm) (eT : T.heap = h) (F : Arv Z h a k ty z vs dv) (ht : ty.isReference = true) (hj : ¬ j < 0 ∧ j < z) {v : Value} (hv : vs.getD j.toNatClampNeg dv = v)
    {g : JFrame} (hg : g.method = m) {rest : List Value} (hs : g.stack = .int j :: .ref a :: rest) (hd : decode c.code g.pc = .ok (.aaload, 1)) :
    ∀ target, Steps p.tables e below (T.setTop { g with pc := g.pc + 1, stack := v :: rest }) target → Steps p.tables e below (T.setTop g) target := by
  obtain ⟨cl, A, q1, S, q3, H, G⟩ := F
  exact X.aaload hx (j := j) (v := v) (by rw [eT]; exact A.1) (State.isArrayOf_alike hZ.alike A.2.1) ht A.2.2 (inb_of S hj) (H.at (inb_of S hj) hv) (g := g) hg hs hd
theorem Arv.stJ' (X : Stand p l e R s m args below meth c T locs cells slots) (hx : p.tables.exec = Jvm.exec) (hZ : Z.Warmed39 s.vm) (eT : T.heap = h) (F : Arv Z h a k .long z vs dv) (hj : ¬ j < 0 ∧ j < z) {x : Int64} (i : Nat) (hi : j.toNatClampNeg = i) (hl : i < vs.length)
    {g : JFrame} (hg : g.method = m) {rest : List Value} (hs : g.stack = .long x :: .int j :: .ref a :: rest) (hd : decode c.code g.pc = .ok (.lastore, 1)) :
    ∃ T' h', Stand p l e R s m args below meth c T' (locs ++ [⟨a, j.toNatClampNeg⟩]) cells slots ∧ T'.heap = h' ∧ Wr h h' a j.toNatClampNeg (.long x) ∧ Arv Z h' a k .long z (vs.set i (.long x)) dv ∧ ∀ target, Steps p.tables e below (T'.setTop { g with pc := g.pc + 1, stack := rest }) target → Steps p.tables e below (T.setTop g) target := by
  obtain ⟨cl, A, q1, S, q3, H, G⟩ := F
  obtain ⟨T', h', X', e', W, st⟩ := stJ X hx hZ eT A (j := j) (x := x) (inb_of S hj) (g := g) hg hs hd
  exact ⟨T', h', X', e', W, Arv.set A q1 S q3 H G rfl W i hi hl, st⟩
theorem Arv.stD' (X : Stand p l e R s m args below meth c T locs cells slots) (hx : p.tables.exec = Jvm.exec) (hZ : Z.Warmed39 s.vm) (eT : T.heap = h) (F : Arv Z h a k .double z vs dv) (hj : ¬ j < 0 ∧ j < z) {x : UInt64} (i : Nat) (hi : j.toNatClampNeg = i) (hl : i < vs.length)
    {g : JFrame} (hg : g.method = m) {rest : List Value} (hs : g.stack = .double x :: .int j :: .ref a :: rest) (hd : decode c.code g.pc = .ok (.dastore, 1)) :
    ∃ T' h', Stand p l e R s m args below meth c T' (locs ++ [⟨a, j.toNatClampNeg⟩]) cells slots ∧ T'.heap = h' ∧ Wr h h' a j.toNatClampNeg (.double x) ∧ Arv Z h' a k .double z (vs.set i (.double x)) dv ∧ ∀ target, Steps p.tables e below (T'.setTop { g with pc := g.pc + 1, stack := rest }) target → Steps p.tables e below (T.setTop g) target := by
  obtain ⟨cl, A, q1, S, q3, H, G⟩ := F
  obtain ⟨T', h', X', e', W, st⟩ := stD X hx hZ eT A (j := j) (x := x) (inb_of S hj) (g := g) hg hs hd
  exact ⟨T', h', X', e', W, Arv.set A q1 S q3 H G rfl W i hi hl, st⟩
theorem Arv.stR' {O : String} {y : Addr} (X : Stand p l e R s m args below meth c T locs cells slots) (hx : p.tables.exec = Jvm.exec) (hZ : Z.Warmed39 s.vm) (eT : T.heap = h) (F : Arv Z h a k (.object O) z vs dv) (hO : Ovr Z k O) (hI : Exa Z h y O) (hj : ¬ j < 0 ∧ j < z) (i : Nat) (hi : j.toNatClampNeg = i) (hl : i < vs.length)
    {g : JFrame} (hg : g.method = m) {rest : List Value} (hs : g.stack = .ref y :: .int j :: .ref a :: rest) (hd : decode c.code g.pc = .ok (.aastore, 1)) :
    ∃ T' h', Stand p l e R s m args below meth c T' (locs ++ [⟨a, j.toNatClampNeg⟩]) cells slots ∧ T'.heap = h' ∧ Wr h h' a j.toNatClampNeg (.ref y) ∧ Arv Z h' a k (.object O) z (vs.set i (.ref y)) dv ∧ ∀ target, Steps p.tables e below (T'.setTop { g with pc := g.pc + 1, stack := rest }) target → Steps p.tables e below (T.setTop g) target := by
  obtain ⟨cl, A, q1, S, q3, H, G⟩ := F
  obtain ⟨T', h', X', e', W, st⟩ := stR X hx hZ eT A (j := j) (v := .ref y) (inb_of S hj) rfl (Sto.ofV A q1 hO (Ins.self hI)) (g := g) hg hs hd
  exact ⟨T', h', X', e', W, Arv.set A q1 S q3 H G rfl W i hi hl, st⟩
theorem Arv.len' (X : Stand p l e R s m args below meth c T locs cells slots) (hx : p.tables.exec = Jvm.exec) (hZ : Z.Warmed39 s.vm) (eT : T.heap = h) (F : Arv Z h a k ty z vs dv)
    {g : JFrame} (hg : g.method = m) {rest : List Value} (hs : g.stack = .ref a :: rest) (hd : decode c.code g.pc = .ok (.arraylength, 1)) :
    ∀ target, Steps p.tables e below (T.setTop { g with pc := g.pc + 1, stack := .int z :: rest }) target → Steps p.tables e below (T.setTop g) target := by
  obtain ⟨cl, A, q1, S, q3, H, G⟩ := F
  have r := X.arraylength hx (by rw [eT]; exact A.1) (State.isArrayOf_alike hZ.alike A.2.1) (g := g) hg hs hd
  rw [len_of S q3] at r
  exact r
end OwnVec
end Jvm.RoadKit
namespace Jvm.RoadKit
open Sem ClassFile Op Lib Jvm.Stand Jvm.Free Jvm.LawKit
section OwnHeld
variable {p : Program} {l : Launch} {e : Env} {R : Room} {s : State} {m : MethodId} {args : Array Value} {below : List Frame} {meth : Method} {c : Code} {T : State} {locs : List Loc} {cells slots : Nat} {Z : State} {a0 : Array Value} {h h1 : Heap} {kc ks : Nat} {Q : Option Value → Heap → List Loc → Prop} {G : Outcome → State → Prop} {U U' : State} {EL : List (String × Nat)}
/-- a byte array's place read -/
theorem Arv.ldB {a : Addr} {k : ClassId} {z j : Int32} {vs : List Value} {dv : Value} (X : Stand p l e R s m args below meth c T locs cells slots) (hx : p.tables.exec = Jvm.exec) (hZ : Z.Warmed39 s.vm) (eT : T.heap = h) (F : Arv Z h a k .byte z vs dv) (hj : ¬ j < 0 ∧ j < z) {v : Value} (hv : vs.getD j.toNatClampNeg dv = v)
    {g : JFrame} (hg : g.method = m) {rest : List Value} (hs : g.stack = .int j :: .ref a :: rest) (hd : decode c.code g.pc = .ok (.baload, 1)) :
    ∀ target, Steps p.tables e below (T.setTop { g with pc := g.pc + 1, stack := v :: rest }) target → Steps p.tables e below (T.setTop g) target := by
  obtain ⟨cl, A, q1, S, q3, H, G⟩ := F
  exact X.baloadBytes hx (j := j) (v := v) (by rw [eT]; exact A.1) (State.isArrayOf_alike hZ.alike A.2.1) A.2.2 (inb_of S hj) (H.at (inb_of S hj) hv) (g := g) hg hs hd
/-- it returned, Q says what, String constants may have come to be interned, and the assumed words on them go on -/
def OEndH (Z : State) (EL : List (String × Nat)) (s : State) (kc ks : Nat) (Q : Option Value → Heap → List Loc → Prop) (o : Outcome) (t : State) : Prop := ∃ v L, o = .returned v ∧ Q v t.heap L ∧ CHr Z EL s.vm s.heap t.vm t.heap ∧ ReturnedEndW s o t L kc ks
theorem OGo.retH {vm₁ : Vm} {n : Nat} (X : Stand p l e R (s.setVm vm₁) m args below meth c T locs cells slots) (hS : s.Since vm₁ n) (hn : n ≤ T.heap.size) (hZ : Z.Warmed39 vm₁) (hEL : EW Z a0 EL) (hs0 : s.heap = h) (hC : CHr Z EL s.vm h vm₁ T.heap) {v : Option Value} {g : JFrame} (hv : meth.sig.returnType = none → v = none) (hlk : meth.locks = false)
    (hs : ∀ fs, (∀ (f : JFrame) (acts : List Action), f.method = m → f.locked = none → f.entered = [] → (doReturn e (T.setTop f) acts v).1 = T.setFrames fs) → Steps p.tables e below (T.setTop g) (T.setFrames fs))
    (hQ : Q v T.heap locs) (hc : cells ≤ kc) (hl : slots ≤ ks) : OGo p e below (OEndH Z EL s kc ks Q) (T.setTop g) := by
  have hC' := hC.trans (CHv.at X hZ hEL hC.1)
  obtain ⟨fs, hr, hrun, hended, h1, h2, h3, h4⟩ := X.leaveW hS hn (v := v) hv hlk
  exact ⟨_, _, hs fs hr, hrun, hended, v, locs, rfl, hQ, by rw [hs0]; exact hC', h1, h2, h3, h4.mono hc hl⟩
theorem OGo.retNH {vm₁ : Vm} {n : Nat} (X : Stand p l e R (s.setVm vm₁) m args below meth c T locs cells slots) (hS : s.Since vm₁ n) (eT : T.heap = h1) (hn : n ≤ h1.size) (hZ : Z.Warmed39 vm₁) (hEL : EW Z a0 EL) (hs0 : s.heap = h) (hC : CHr Z EL s.vm h vm₁ h1) (hx : p.tables.exec = Jvm.exec) {pc : Nat} {Ls : Array Slot} {z : Int32} {t : FieldType} {rest : List Value} (hret : meth.sig.returnType = some t) (hlk : meth.locks = false) (ht : t = .boolean ∨ t = .byte ∨ t = .char ∨ t = .short)
    (hd : decode c.code pc = .ok (.ireturn, 1)) (hQ : Q (some (.int (nar t z))) h1 locs) (hc : cells ≤ kc) (hl : slots ≤ ks) : OGo p e below (OEndH Z EL s kc ks Q) (T.setTop (mkF m pc Ls (.int z :: rest))) := by
  subst eT
  exact OGo.retH X hS hn hZ hEL hs0 hC (fun q => by rw [hret] at q; cases q) hlk (fun fs hr => Jvm.RoadKit.retN X hx hret ht hd hr) hQ hc hl
/-- the contract of a body that may load String constants of EL -/
def OMetH (l : Launch) (Z : State) (EL : List (String × Nat)) (y : MethodName) (bytes : ByteArray) (maxL : Nat) (ret : Option FieldType) (ws : List Jvm.Cond) (rm : Room) (as : Array Value) (h0 : Heap) (Q : Option Value → Heap → List Loc → Prop) : Prop :=
  MetFree l y (head1 (Jvm.Cond.code y bytes maxL ret :: ws) rm) (fun a U => a = as ∧ Z.Warmed39 U.vm ∧ U.heap = h0 ∧ CHv Z EL U.vm h0) (fun _ _ _ _ _ => True) (fun _ U o U' => ∃ v L, o = .returned v ∧ Q v U'.heap L ∧ CHr Z EL U.vm U.heap U'.vm U'.heap ∧ ReturnedEndW U o U' L rm.cells rm.slots)
theorem OMetH.of {y : MethodName} {bytes : ByteArray} {maxL : Nat} {ret : Option FieldType} {ws : List Jvm.Cond} {rm : Room} {as : Array Value} {h0 : Heap} (hpn : plainFor y = true)
    (H : ∀ (p : Program) (e : Env) (s : State) (m : MethodId) (below : List Frame) (meth : Method) (c : Code) (T0 : State), Stand p l e rm s m as below meth c T0 [] 0 0 → p.tables.exec = Jvm.exec → c.code = bytes → c.maxLocals = maxL → s.vm.findClass y.cls = some m.cls → meth.name = y.name → meth.sig.returnType = ret → meth.locks = false → Z.Warmed39 s.vm → T0.heap = h0 → s.heap = h0 → CHv Z EL s.vm h0 →
      OGo p e below (OEndH Z EL s rm.cells rm.slots Q) (T0.setTop (entryFrame m as maxL))) : OMetH l Z EL y bytes maxL ret ws rm as h0 Q := by
  refine MetFree.of_bodySF hpn hisR ?_
  intro p e s m args below meth c s₁ Bd hml0 hP hK
  obtain ⟨rfl, hZ, hh, hC⟩ := hP
  exact H p e s m below meth c s₁ (Stand.of_body Bd) Bd.exec Bd.bytes hml0 (findClass_of_methodNamed Bd.named) (name_of_methodNamed Bd.named Bd.method).1 Bd.returns Bd.notSynchronized hZ (by rw [← hh, Bd.state]; rfl) hh hC
/-- a call of a static method that may load String constants of EL -/
theorem OGo.callSH {vm0 : Vm} {k0 : Nat} (X : Stand p l e R (s.setVm vm0) m args below meth c T locs cells slots) (hx : p.tables.exec = Jvm.exec) (hZ : Z.Warmed39 vm0) (hS : s.Since vm0 k0) (hk : k0 ≤ h.size) (hEL : EW Z a0 EL) (hC : CHv Z EL vm0 h) {own : String} {index : Nat} {y : MethodName} {bytes : ByteArray} {maxL : Nat} {ret : Option FieldType}
    (hown : vm0.findClass own = some m.cls) (w1 : (Jvm.Cond.methodLink own index y).before a0 Z = true) (w2 : (Jvm.Cond.static y).before a0 Z = true) (w3 : (Jvm.Cond.initialized y.cls).before a0 Z = true) (w4 : (Jvm.Cond.code y bytes maxL ret).before a0 Z = true)
    (hy : y.cls ≠ "java/lang/invoke/MethodHandle" ∧ y.cls ≠ "java/lang/invoke/VarHandle") {g : JFrame} {argsL rest : List Value} {rm : Room} {Q' : Option Value → Heap → List Loc → Prop} (eT : T.heap = h) (hM : OMetH l Z EL y bytes maxL ret [] rm argsL.toArray h Q')
    (hg : g.method = m) (hsize : g.locals.size = c.maxLocals) (hlen : ∀ sig, parseMethodDescriptor y.desc = some sig → argsL.length = sig.parameters.length) (hstack : g.stack = argsL.reverse ++ rest) {W : Nat} (hW : 2 * g.monitorRoom + (rest.map fun v => v.category).sum ≤ W) (hd : decode c.code g.pc = .ok (.invokestatic index, 3))
    (hf : rm.frames + 1 ≤ R.frames) (hl : W + (maxL + 11) + rm.locals ≤ R.locals) (hc : cells + rm.cells ≤ R.cells) (hs : slots + rm.slots ≤ R.slots)
    (k : ∀ (v : Option Value) (T' : State) (L' : List Loc), Stand p l e R (s.setVm T'.vm) m args below meth c T' (locs ++ L') (cells + rm.cells) (slots + rm.slots) → Q' v T'.heap L' → s.Since T'.vm T'.heap.size → Z.Warmed39 T'.vm → T'.vm.findClass own = some m.cls → CHr Z EL vm0 h T'.vm T'.heap → OGo p e below G (T'.setTop { g with pc := g.pc + 3, stack := v.toList ++ rest })) : OGo p e below G (T.setTop g) := by
  have hZ' : Z.Warmed39 (s.setVm vm0).vm := hZ
  obtain ⟨v, vm₁, B, hW₁, X', hS', hgr, ⟨L, hQ, e1, e2, e3, hC'⟩, st⟩ := Jvm.RoadKit.callSS X hx (y := y) hown (mvT hZ' w1) (mvT hZ' w2) (mvT hZ' w3) (mvT hZ' w4) hy (backOfSH (s := s) (W := W) hM hZ w4 w3 hf hl hEL hC) (g := g) hg hsize (argsL := argsL) (rest := rest) hlen hstack hW hd (fun _ _ => ⟨rfl, eT, hc, hs⟩)
  rw [e1, e2, e3] at X'
  subst eT
  exact OGo.trans st (k v B.U L X' hQ (hS.trans hS' (Nat.le_trans hk hgr)) (State.Warmed39.trans (t := s.setVm vm0) hZ hS'.1) ((hS'.1.alike.findClass _ _).trans hown) hC')
/-- a char array's place read, a char array's and a byte array's place written -/
theorem Arv.ldC {a : Addr} {k : ClassId} {z j : Int32} {vs : List Value} {dv : Value} (X : Stand p l e R s m args below meth c T locs cells slots) (hx : p.tables.exec = Jvm.exec) (hZ : Z.Warmed39 s.vm) (eT : T.heap = h) (F : Arv Z h a k .char z vs dv) (hj : ¬ j < 0 ∧ j < z) {v : Value} (hv : vs.getD j.toNatClampNeg dv = v)
    {g : JFrame} (hg : g.method = m) {rest : List Value} (hs : g.stack = .int j :: .ref a :: rest) (hd : decode c.code g.pc = .ok (.caload, 1)) :
    ∀ target, Steps p.tables e below (T.setTop { g with pc := g.pc + 1, stack := v :: rest }) target → Steps p.tables e below (T.setTop g) target := by
  obtain ⟨cl, A, q1, S, q3, H, G⟩ := F
  exact X.caload hx (j := j) (v := v) (by rw [eT]; exact A.1) (State.isArrayOf_alike hZ.alike A.2.1) A.2.2 (inb_of S hj) (H.at (inb_of S hj) hv) (g := g) hg hs hd
theorem Arv.stC' {a : Addr} {k : ClassId} {z j : Int32} {vs : List Value} {dv : Value} (X : Stand p l e R s m args below meth c T locs cells slots) (hx : p.tables.exec = Jvm.exec) (hZ : Z.Warmed39 s.vm) (eT : T.heap = h) (F : Arv Z h a k .char z vs dv) (hj : ¬ j < 0 ∧ j < z) {x : Int32} (i : Nat) (hi : j.toNatClampNeg = i) (hl : i < vs.length)
    {g : JFrame} (hg : g.method = m) {rest : List Value} (hs : g.stack = .int x :: .int j :: .ref a :: rest) (hd : decode c.code g.pc = .ok (.castore, 1)) :
    ∃ T' h', Stand p l e R s m args below meth c T' (locs ++ [⟨a, j.toNatClampNeg⟩]) cells slots ∧ T'.heap = h' ∧ Wr h h' a j.toNatClampNeg (.int (nar .char x)) ∧ Arv Z h' a k .char z (vs.set i (.int (nar .char x))) dv ∧ ∀ target, Steps p.tables e below (T'.setTop { g with pc := g.pc + 1, stack := rest }) target → Steps p.tables e below (T.setTop g) target := by
  obtain ⟨cl, A, q1, S, q3, H, G⟩ := F
  obtain ⟨T', h', X', e', W, st⟩ := stC X hx hZ eT A (j := j) (x := x) (inb_of S hj) (g := g) hg hs hd
  exact ⟨T', h', X', e', W, Arv.set A q1 S q3 H G (fits_nar_char _) W i hi hl, st⟩
theorem Arv.stB' {a : Addr} {k : ClassId} {z j : Int32} {vs : List Value} {dv : Value} (X : Stand p l e R s m args below meth c T locs cells slots) (hx : p.tables.exec = Jvm.exec) (hZ : Z.Warmed39 s.vm) (eT : T.heap = h) (F : Arv Z h a k .byte z vs dv) (hj : ¬ j < 0 ∧ j < z) {x : Int32} (i : Nat) (hi : j.toNatClampNeg = i) (hl : i < vs.length)
    {g : JFrame} (hg : g.method = m) {rest : List Value} (hs : g.stack = .int x :: .int j :: .ref a :: rest) (hd : decode c.code g.pc = .ok (.bastore, 1)) :
    ∃ T' h', Stand p l e R s m args below meth c T' (locs ++ [⟨a, j.toNatClampNeg⟩]) cells slots ∧ T'.heap = h' ∧ Wr h h' a j.toNatClampNeg (.int (nar .byte x)) ∧ Arv Z h' a k .byte z (vs.set i (.int (nar .byte x))) dv ∧ ∀ target, Steps p.tables e below (T'.setTop { g with pc := g.pc + 1, stack := rest }) target → Steps p.tables e below (T.setTop g) target := by
  obtain ⟨cl, A, q1, S, q3, H, G⟩ := F
  obtain ⟨T', h', X', e', W, st⟩ := stB X hx hZ eT A (j := j) (x := x) (inb_of S hj) (g := g) hg hs hd
  exact ⟨T', h', X', e', W, Arv.set A q1 S q3 H G (fits_nar_byte _) W i hi hl, st⟩
/-- the contract of a body that loads String constants of EL, where nobody asks of them behind it -/
def OMetV (l : Launch) (Z : State) (EL : List (String × Nat)) (y : MethodName) (bytes : ByteArray) (maxL : Nat) (ret : Option FieldType) (ws : List Jvm.Cond) (rm : Room) (as : Array Value) (h0 : Heap) (Q : Option Value → Heap → List Loc → Prop) : Prop :=
  MetFree l y (head1 (Jvm.Cond.code y bytes maxL ret :: ws) rm) (fun a U => a = as ∧ Z.Warmed39 U.vm ∧ U.heap = h0 ∧ CHv Z EL U.vm h0) (fun _ _ _ _ _ => True) (fun _ U o U' => ∃ v L, o = .returned v ∧ Q v U'.heap L ∧ ReturnedEndW U o U' L rm.cells rm.slots)
theorem OMetV.of {y : MethodName} {bytes : ByteArray} {maxL : Nat} {ret : Option FieldType} {ws : List Jvm.Cond} {rm : Room} {as : Array Value} {h0 : Heap} (hpn : plainFor y = true)
    (H : ∀ (p : Program) (e : Env) (s : State) (m : MethodId) (below : List Frame) (meth : Method) (c : Code) (T0 : State), Stand p l e rm s m as below meth c T0 [] 0 0 → p.tables.exec = Jvm.exec → c.code = bytes → c.maxLocals = maxL → s.vm.findClass y.cls = some m.cls → meth.name = y.name → meth.sig.returnType = ret → meth.locks = false → Z.Warmed39 s.vm → T0.heap = h0 → s.heap = h0 → CHv Z EL s.vm h0 →
      OGo p e below (OEndW s rm.cells rm.slots Q) (T0.setTop (entryFrame m as maxL))) : OMetV l Z EL y bytes maxL ret ws rm as h0 Q := by
  refine MetFree.of_bodySF hpn hisR ?_
  intro p e s m args below meth c s₁ Bd hml0 hP hK
  obtain ⟨rfl, hZ, hh, hC⟩ := hP
  exact H p e s m below meth c s₁ (Stand.of_body Bd) Bd.exec Bd.bytes hml0 (findClass_of_methodNamed Bd.named) (name_of_methodNamed Bd.named Bd.method).1 Bd.returns Bd.notSynchronized hZ (by rw [← hh, Bd.state]; rfl) hh hC
theorem own_backV {vm0 : Vm} {y : MethodName} {bytes : ByteArray} {maxL : Nat} {ret : Option FieldType} {rm : Room} {len W : Nat} {as' : Array Value} (hM : OMetV l Z EL y bytes maxL ret [] rm as' h Q)
    (hZ : Z.Warmed39 vm0) (wc : (Jvm.Cond.code y bytes maxL ret).before a0 Z = true) (wz : (Jvm.Cond.initialized y.cls).before a0 Z = true) (hf : rm.frames + 1 ≤ R.frames) (hl : W + (maxL + 11) + rm.locals ≤ R.locals) (hEL : EW Z a0 EL) (H : CHv Z EL vm0 h) :
    BackS l R p e below (s.setVm vm0) args y len W (fun A a => a = as' ∧ A.U.heap = h ∧ A.cells + rm.cells ≤ R.cells ∧ A.slots + rm.slots ≤ R.slots)
      (fun A _ v B => ∃ L, Q v B.U.heap L ∧ B.locs = A.locs ++ L ∧ B.cells = A.cells + rm.cells ∧ B.slots = A.slots + rm.slots) :=
  BackS.of_freeW (bytes := bytes) (maxL := maxL) (ret := ret) (E := fun _ _ o t L k n => k = rm.cells ∧ n = rm.slots ∧ ∃ v, o = .returned v ∧ Q v t.heap L) hM hf hl
    (fun m meth c A a Y hp => have hU : Z.Warmed39 A.U.vm := wtrans (s := s.setVm vm0) hZ Y.warmed
      ⟨by show (Jvm.Cond.and _ .tt).before a A.U = true; rw [Cond.before_and, mv hU wc]; rfl, mv hU wc, mv hU wz, hp.2.2.1, hp.2.2.2⟩)
    (fun m meth c A a g mk Y hp => ⟨hp.1, wtrans (s := s.setVm vm0) hZ Y.warmed, hp.2.1, (CHv.at Y hZ hEL H).1⟩) (fun _ _ _ _ _ _ _ _ _ => trivial)
    (fun _ _ _ _ ⟨v, L, h1, h2, h3⟩ => ⟨L, _, _, h3, rfl, rfl, v, h1, h2⟩)
    (fun m meth c A a g mk v t L k n Y hp _ _ ⟨e1, e2, v', e3, e4⟩ => by cases e3; subst e1 e2; exact ⟨L, e4, rfl, rfl, rfl⟩)
theorem OGo.callSV {vm0 : Vm} {k0 : Nat} (X : Stand p l e R (s.setVm vm0) m args below meth c T locs cells slots) (hx : p.tables.exec = Jvm.exec) (hZ : Z.Warmed39 vm0) (hS : s.Since vm0 k0) (hk : k0 ≤ h.size) (hEL : EW Z a0 EL) (hC : CHv Z EL vm0 h) {own : String} {index : Nat} {y : MethodName} {bytes : ByteArray} {maxL : Nat} {ret : Option FieldType}
    (hown : vm0.findClass own = some m.cls) (w1 : (Jvm.Cond.methodLink own index y).before a0 Z = true) (w2 : (Jvm.Cond.static y).before a0 Z = true) (w3 : (Jvm.Cond.initialized y.cls).before a0 Z = true) (w4 : (Jvm.Cond.code y bytes maxL ret).before a0 Z = true)
    (hy : y.cls ≠ "java/lang/invoke/MethodHandle" ∧ y.cls ≠ "java/lang/invoke/VarHandle") {g : JFrame} {argsL rest : List Value} {rm : Room} {Q' : Option Value → Heap → List Loc → Prop} (eT : T.heap = h) (hM : OMetV l Z EL y bytes maxL ret [] rm argsL.toArray h Q')
    (hg : g.method = m) (hsize : g.locals.size = c.maxLocals) (hlen : ∀ sig, parseMethodDescriptor y.desc = some sig → argsL.length = sig.parameters.length) (hstack : g.stack = argsL.reverse ++ rest) {W : Nat} (hW : 2 * g.monitorRoom + (rest.map fun v => v.category).sum ≤ W) (hd : decode c.code g.pc = .ok (.invokestatic index, 3))
    (hf : rm.frames + 1 ≤ R.frames) (hl : W + (maxL + 11) + rm.locals ≤ R.locals) (hc : cells + rm.cells ≤ R.cells) (hs : slots + rm.slots ≤ R.slots)
    (k : ∀ (v : Option Value) (T' : State) (L' : List Loc), Stand p l e R (s.setVm T'.vm) m args below meth c T' (locs ++ L') (cells + rm.cells) (slots + rm.slots) → Q' v T'.heap L' → s.Since T'.vm T'.heap.size → Z.Warmed39 T'.vm → T'.vm.findClass own = some m.cls → OGo p e below G (T'.setTop { g with pc := g.pc + 3, stack := v.toList ++ rest })) : OGo p e below G (T.setTop g) := by
  have hZ' : Z.Warmed39 (s.setVm vm0).vm := hZ
  obtain ⟨v, vm₁, B, hW₁, X', hS', hgr, ⟨L, hQ, e1, e2, e3⟩, st⟩ := Jvm.RoadKit.callSS X hx (y := y) hown (mvT hZ' w1) (mvT hZ' w2) (mvT hZ' w3) (mvT hZ' w4) hy (own_backV (s := s) (W := W) hM hZ w4 w3 hf hl hEL hC) (g := g) hg hsize (argsL := argsL) (rest := rest) hlen hstack hW hd (fun _ _ => ⟨rfl, eT, hc, hs⟩)
  rw [e1, e2, e3] at X'
  subst eT
  exact OGo.trans st (k v B.U L X' hQ (hS.trans hS' (Nat.le_trans hk hgr)) (State.Warmed39.trans (t := s.setVm vm0) hZ hS'.1) ((hS'.1.alike.findClass _ _).trans hown))
theorem OGo.retAW {vm₁ : Vm} {n : Nat} (X : Stand p l e R (s.setVm vm₁) m args below meth c T locs cells slots) (hS : s.Since vm₁ n) (hn : n ≤ T.heap.size) (hx : p.tables.exec = Jvm.exec) {pc : Nat} {Ls : Array Slot} {w : Value} {t : FieldType} {rest : List Value} (hret : meth.sig.returnType = some t) (hlk : meth.locks = false) (ht : t.isReference = true) (hw : w.isRef = true)
    (hd : decode c.code pc = .ok (.areturn, 1)) (hQ : Q (some w) T.heap locs) (hc : cells ≤ kc) (hl : slots ≤ ks) : OGo p e below (OEndW s kc ks Q) (T.setTop (mkF m pc Ls (w :: rest))) :=
  OGo.retW X hS hn (fun q => by rw [hret] at q; cases q) hlk (fun fs hr => Jvm.RoadKit.retOut X hx hret (by cases t <;> first | (cases ht; done) | (cases w <;> first | rfl | (cases hw; done))) (Or.inr (Or.inr (Or.inr (Or.inr ⟨rfl, ht, hw⟩)))) hd hr) hQ hc hl
end OwnHeld
end Jvm.RoadKit
namespace Jvm.Pilot.@@N@@
open Jvm Jvm.ClassFile Sem Op Lib Jvm.Free Jvm.Stand Jvm.LawKit Jvm.RoadKit Bundle Jvm.Pilot.@@N@@.Jvm.D
theorem pd_0 : parseMethodDescriptor "()V" = some ⟨[], none⟩ := by decide +kernel
theorem pd_1 : parseMethodDescriptor "()Z" = some ⟨[], some .boolean⟩ := by decide +kernel
theorem pd_2 : parseMethodDescriptor "(C)Z" = some ⟨[.char], some .boolean⟩ := by decide +kernel
theorem pd_3 : parseMethodDescriptor "(C)[B" = some ⟨[.char], some (.array .byte)⟩ := by decide +kernel
theorem pd_4 : parseMethodDescriptor "([BB)V" = some ⟨[(.array .byte), .byte], none⟩ := by decide +kernel
theorem pd_5 : parseMethodDescriptor "([CI[BII)I" = some ⟨[(.array .char), .int, (.array .byte), .int, .int], some .int⟩ := by decide +kernel
theorem pd_6 : parseMethodDescriptor "([CII)[B" = some ⟨[(.array .char), .int, .int], some (.array .byte)⟩ := by decide +kernel
theorem pd_7 : parseMethodDescriptor "([BI)B" = some ⟨[(.array .byte), .int], some .byte⟩ := by decide +kernel
theorem pd_8 : parseMethodDescriptor "([CIILjava/lang/Void;)V" = some ⟨[(.array .char), .int, .int, (.object "java/lang/Void")], none⟩ := by decide +kernel
theorem pd_9 : parseMethodDescriptor "(Ljava/lang/String;III)V" = some ⟨[(.object "java/lang/String"), .int, .int, .int], none⟩ := by decide +kernel
theorem pd_10 : parseMethodDescriptor "(II)I" = some ⟨[.int, .int], some .int⟩ := by decide +kernel
theorem pd_11 : parseMethodDescriptor "(C)Ljava/lang/String;" = some ⟨[.char], some (.object "java/lang/String")⟩ := by decide +kernel
theorem pd_12 : parseMethodDescriptor "(II)Lcom/example/farcall/farcall/model/RemoteReference;" = some ⟨[.int, .int], some (.object "com/example/farcall/farcall/model/RemoteReference")⟩ := by decide +kernel
theorem pd_13 : parseMethodDescriptor "([C)V" = some ⟨[(.array .char)], none⟩ := by decide +kernel
def F_pick (x1 : Int32) (x2 : Int32) : Int32 := (if (x1 &&& (3 : Int32)) = (0 : Int32) then (0 : Int32) else (if (x1 &&& (3 : Int32)) = (1 : Int32) then (1 : Int32) else (if (x1 &&& (3 : Int32)) = (2 : Int32) then (65535 : Int32) else (x2 &&& (65535 : Int32)))))
theorem d_pick_0 : decode method_2_code 0 = .ok (.iload_n 0, 1) := by decide +kernel
theorem d_pick_1 : decode method_2_code 1 = .ok (.iconst 3, 1) := by decide +kernel
theorem d_pick_2 : decode method_2_code 2 = .ok (.iand, 1) := by decide +kernel
theorem d_pick_3 : decode method_2_code 3 = .ok (.istore_n 2, 1) := by decide +kernel
theorem d_pick_4 : decode method_2_code 4 = .ok (.iload_n 2, 1) := by decide +kernel
theorem d_pick_5 : decode method_2_code 5 = .ok (.ifCond .ne 5, 3) := by decide +kernel
theorem d_pick_8 : decode method_2_code 8 = .ok (.iconst 0, 1) := by decide +kernel
theorem d_pick_9 : decode method_2_code 9 = .ok (.ireturn, 1) := by decide +kernel
theorem d_pick_10 : decode method_2_code 10 = .ok (.iload_n 2, 1) := by decide +kernel
theorem d_pick_11 : decode method_2_code 11 = .ok (.iconst 1, 1) := by decide +kernel
theorem d_pick_12 : decode method_2_code 12 = .ok (.if_icmp .ne 5, 3) := by decide +kernel
theorem d_pick_15 : decode method_2_code 15 = .ok (.iconst 1, 1) := by decide +kernel
theorem d_pick_16 : decode method_2_code 16 = .ok (.ireturn, 1) := by decide +kernel
theorem d_pick_17 : decode method_2_code 17 = .ok (.iload_n 2, 1) := by decide +kernel
theorem d_pick_18 : decode method_2_code 18 = .ok (.iconst 2, 1) := by decide +kernel
theorem d_pick_19 : decode method_2_code 19 = .ok (.if_icmp .ne 6, 3) := by decide +kernel
theorem d_pick_22 : decode method_2_code 22 = .ok (.ldc 7, 2) := by decide +kernel
theorem d_pick_24 : decode method_2_code 24 = .ok (.ireturn, 1) := by decide +kernel
theorem d_pick_25 : decode method_2_code 25 = .ok (.iload_n 1, 1) := by decide +kernel
theorem d_pick_26 : decode method_2_code 26 = .ok (.ldc 7, 2) := by decide +kernel
theorem d_pick_28 : decode method_2_code 28 = .ok (.iand, 1) := by decide +kernel
theorem d_pick_29 : decode method_2_code 29 = .ok (.ireturn, 1) := by decide +kernel
theorem ef_pick (m : MethodId) (x1 : Int32) (x2 : Int32) : entryFrame m #[(.int x1), (.int x2)] 3 = mkF m 0 #[.val (.int x1), .val (.int x2), .unset] [] := by first | (simp [entryFrame, mkF, argsToLocals, Value.category]; done) | rfl
theorem pn_pick : plainFor (⟨"com/example/farcall/farcall/model/RemoteReferenceIsOverConnectionPinLaw", "pickPort", "(II)I"⟩ : MethodName) = true := by first | exact plainFor_of_name (by first | (simp [plainName, overriddenIn]; done) | decide +kernel) | decide +kernel
set_option maxRecDepth 65536 in
set_option maxHeartbeats 40000000 in
theorem rm_pick (l : Launch) (Z : State) (a0 : Array Value) (hw : ∀ d ∈ tables_1, d.before a0 Z = true) (x1 : Int32) (x2 : Int32)  (h0 : Heap)  :
    OMet l Z (⟨"com/example/farcall/farcall/model/RemoteReferenceIsOverConnectionPinLaw", "pickPort", "(II)I"⟩ : MethodName) method_2_code 3 (some .int) [] ({ frames := 0, cells := 0, slots := 0, locals := 0 } : Room) #[(.int x1), (.int x2)] h0 (OPure (some (.int (F_pick x1 x2))) h0) := by
  refine OMet.of pn_pick ?_
  intro p e s m below meth c T0 X0 hx hby hml hown0 hnm hret hlk hZ e0
  have hown : s.vm.findClass "com/example/farcall/farcall/model/RemoteReferenceIsOverConnectionPinLaw" = some m.cls := hown0
  refine OGo.go (fun t k => castTop (ef_pick m x1 x2) k) ?_
  refine OGo.go (U' := T0.setTop (mkF m 1 #[.val (.int x1), .val (.int x2), .unset] [(.int x1)])) (fun _ k => XS.iloadN X0.here hx rfl (hb hby d_pick_0) rfl k) ?_
  refine OGo.go (U' := T0.setTop (mkF m 2 #[.val (.int x1), .val (.int x2), .unset] [(.int (3 : Int32)), (.int x1)])) (fun _ k => XS.iconst X0.here hx rfl (hb hby d_pick_1) k) ?_
  refine OGo.go (U' := T0.setTop (mkF m 3 #[.val (.int x1), .val (.int x2), .unset] [(.int (x1 &&& (3 : Int32)))])) (fun _ k => XS.iand X0.here hx rfl (hb hby d_pick_2) rfl k) ?_
  refine OGo.go (U' := T0.setTop (mkF m 4 #[.val (.int x1), .val (.int x2), .val (.int (x1 &&& (3 : Int32)))] [])) (fun _ k => XS.istoreN X0.here hx rfl (hb hby d_pick_3) rfl (l' := #[.val (.int x1), .val (.int x2), .val (.int (x1 &&& (3 : Int32)))]) rfl k) ?_
  refine OGo.go (U' := T0.setTop (mkF m 5 #[.val (.int x1), .val (.int x2), .val (.int (x1 &&& (3 : Int32)))] [(.int (x1 &&& (3 : Int32)))])) (fun _ k => XS.iloadN X0.here hx rfl (hb hby d_pick_4) rfl k) ?_
  by_cases hc1 : (x1 &&& (3 : Int32)) = (0 : Int32)
  · skip
    refine OGo.go (U' := T0.setTop (mkF m 8 #[.val (.int x1), .val (.int x2), .val (.int (x1 &&& (3 : Int32)))] [])) (fun _ k => XS.ifNo X0.here hx rfl (hb hby d_pick_5) rfl ((if0 _ _).trans (teq hc1).2) k) ?_
    refine OGo.go (U' := T0.setTop (mkF m 9 #[.val (.int x1), .val (.int x2), .val (.int (x1 &&& (3 : Int32)))] [(.int (0 : Int32))])) (fun _ k => XS.iconst X0.here hx rfl (hb hby d_pick_8) k) ?_
    refine OGo.retI X0 hx hret hlk (hb hby d_pick_9) ?_ (by decide) (by decide)
    refine ⟨?_, e0, rfl⟩
    rw [F_pick]
    rw [if_pos hc1]
  · skip
    refine OGo.go (U' := T0.setTop (mkF m 10 #[.val (.int x1), .val (.int x2), .val (.int (x1 &&& (3 : Int32)))] [])) (fun _ k => XS.ifYes X0.here hx rfl (pc0 := 5) (pc' := 10) rfl (hb hby d_pick_5) rfl ((if0 _ _).trans (feq hc1).2) (by decide) (by decide) k) ?_
    refine OGo.go (U' := T0.setTop (mkF m 11 #[.val (.int x1), .val (.int x2), .val (.int (x1 &&& (3 : Int32)))] [(.int (x1 &&& (3 : Int32)))])) (fun _ k => XS.iloadN X0.here hx rfl (hb hby d_pick_10) rfl k) ?_
    refine OGo.go (U' := T0.setTop (mkF m 12 #[.val (.int x1), .val (.int x2), .val (.int (x1 &&& (3 : Int32)))] [(.int (1 : Int32)), (.int (x1 &&& (3 : Int32)))])) (fun _ k => XS.iconst X0.here hx rfl (hb hby d_pick_11) k) ?_
    by_cases hc2 : (x1 &&& (3 : Int32)) = (1 : Int32)
    · skip
      refine OGo.go (U' := T0.setTop (mkF m 15 #[.val (.int x1), .val (.int x2), .val (.int (x1 &&& (3 : Int32)))] [])) (fun _ k => XS.icmpNo X0.here hx rfl (hb hby d_pick_12) rfl (teq hc2).2 k) ?_
      refine OGo.go (U' := T0.setTop (mkF m 16 #[.val (.int x1), .val (.int x2), .val (.int (x1 &&& (3 : Int32)))] [(.int (1 : Int32))])) (fun _ k => XS.iconst X0.here hx rfl (hb hby d_pick_15) k) ?_
      refine OGo.retI X0 hx hret hlk (hb hby d_pick_16) ?_ (by decide) (by decide)
      refine ⟨?_, e0, rfl⟩
      rw [F_pick]
      rw [if_neg hc1]
      rw [if_pos hc2]
    · skip
      refine OGo.go (U' := T0.setTop (mkF m 17 #[.val (.int x1), .val (.int x2), .val (.int (x1 &&& (3 : Int32)))] [])) (fun _ k => XS.icmpYes X0.here hx rfl (pc0 := 12) (pc' := 17) rfl (hb hby d_pick_12) rfl (feq hc2).2 (by decide) (by decide) k) ?_
      refine OGo.go (U' := T0.setTop (mkF m 18 #[.val (.int x1), .val (.int x2), .val (.int (x1 &&& (3 : Int32)))] [(.int (x1 &&& (3 : Int32)))])) (fun _ k => XS.iloadN X0.here hx rfl (hb hby d_pick_17) rfl k) ?_
      refine OGo.go (U' := T0.setTop (mkF m 19 #[.val (.int x1), .val (.int x2), .val (.int (x1 &&& (3 : Int32)))] [(.int (2 : Int32)), (.int (x1 &&& (3 : Int32)))])) (fun _ k => XS.iconst X0.here hx rfl (hb hby d_pick_18) k) ?_
      by_cases hc3 : (x1 &&& (3 : Int32)) = (2 : Int32)
      · skip
        refine OGo.go (U' := T0.setTop (mkF m 22 #[.val (.int x1), .val (.int x2), .val (.int (x1 &&& (3 : Int32)))] [])) (fun _ k => XS.icmpNo X0.here hx rfl (hb hby d_pick_19) rfl (teq hc3).2 k) ?_
        refine OGo.go (U' := T0.setTop (mkF m 24 #[.val (.int x1), .val (.int x2), .val (.int (x1 &&& (3 : Int32)))] [(.int (65535 : Int32))])) (fun _ k => X0.ldcInt hx hown (mvT hZ (hw _ (List.mem_of_getElem? (i := 4) rfl))) (g := (mkF m 22 #[.val (.int x1), .val (.int x2), .val (.int (x1 &&& (3 : Int32)))] [])) rfl (hb hby d_pick_22) _ k) ?_
        refine OGo.retI X0 hx hret hlk (hb hby d_pick_24) ?_ (by decide) (by decide)
        refine ⟨?_, e0, rfl⟩
        rw [F_pick]
        rw [if_neg hc1]
        rw [if_neg hc2]
        rw [if_pos hc3]
      · skip
        refine OGo.go (U' := T0.setTop (mkF m 25 #[.val (.int x1), .val (.int x2), .val (.int (x1 &&& (3 : Int32)))] [])) (fun _ k => XS.icmpYes X0.here hx rfl (pc0 := 19) (pc' := 25) rfl (hb hby d_pick_19) rfl (feq hc3).2 (by decide) (by decide) k) ?_
        refine OGo.go (U' := T0.setTop (mkF m 26 #[.val (.int x1), .val (.int x2), .val (.int (x1 &&& (3 : Int32)))] [(.int x2)])) (fun _ k => XS.iloadN X0.here hx rfl (hb hby d_pick_25) rfl k) ?_
        refine OGo.go (U' := T0.setTop (mkF m 28 #[.val (.int x1), .val (.int x2), .val (.int (x1 &&& (3 : Int32)))] [(.int (65535 : Int32)), (.int x2)])) (fun _ k => X0.ldcInt hx hown (mvT hZ (hw _ (List.mem_of_getElem? (i := 4) rfl))) (g := (mkF m 26 #[.val (.int x1), .val (.int x2), .val (.int (x1 &&& (3 : Int32)))] [(.int x2)])) rfl (hb hby d_pick_26) _ k) ?_
        refine OGo.go (U' := T0.setTop (mkF m 29 #[.val (.int x1), .val (.int x2), .val (.int (x1 &&& (3 : Int32)))] [(.int (x2 &&& (65535 : Int32)))])) (fun _ k => XS.iand X0.here hx rfl (hb hby d_pick_28) rfl k) ?_
        refine OGo.retI X0 hx hret hlk (hb hby d_pick_29) ?_ (by decide) (by decide)
        refine ⟨?_, e0, rfl⟩
        rw [F_pick]
        rw [if_neg hc1]
        rw [if_neg hc2]
        rw [if_neg hc3]
def F_iso (u : Int32) : Int32 := (nar .boolean (if u = (0 : Int32) then (1 : Int32) else (0 : Int32)))
theorem d_iso_0 : decode prog_49_method_3_code 0 = .ok (.aload_n 0, 1) := by decide +kernel
theorem d_iso_1 : decode prog_49_method_3_code 1 = .ok (.getfield 36, 3) := by decide +kernel
theorem d_iso_4 : decode prog_49_method_3_code 4 = .ok (.ifCond .ne 7, 3) := by decide +kernel
theorem d_iso_7 : decode prog_49_method_3_code 7 = .ok (.iconst 1, 1) := by decide +kernel
theorem d_iso_8 : decode prog_49_method_3_code 8 = .ok (.goto 4, 3) := by decide +kernel
theorem d_iso_11 : decode prog_49_method_3_code 11 = .ok (.iconst 0, 1) := by decide +kernel
theorem d_iso_12 : decode prog_49_method_3_code 12 = .ok (.ireturn, 1) := by decide +kernel
theorem ef_iso (m : MethodId) (a1 : Addr) : entryFrame m #[(.ref a1)] 1 = mkF m 0 #[.val (.ref a1)] [] := by first | (simp [entryFrame, mkF, argsToLocals, Value.category]; done) | rfl
theorem pn_iso : plainFor (⟨"com/example/farcall/farcall/model/RemoteReference", "isOverConnection", "()Z"⟩ : MethodName) = true := by first | exact plainFor_of_name (by first | (simp [plainName, overriddenIn]; done) | decide +kernel) | decide +kernel
set_option maxRecDepth 65536 in
set_option maxHeartbeats 40000000 in
theorem rm_iso (l : Launch) (Z : State) (a0 : Array Value) (hw : ∀ d ∈ tables_1, d.before a0 Z = true) (a1 : Addr) (u : Int32) (h0 : Heap) (f1 : Fld Z h0 a1 "com/example/farcall/farcall/model/RemoteReference" "port" "I" (.int u)) :
    OMet l Z (⟨"com/example/farcall/farcall/model/RemoteReference", "isOverConnection", "()Z"⟩ : MethodName) prog_49_method_3_code 1 (some .boolean) [] ({ frames := 0, cells := 0, slots := 0, locals := 0 } : Room) #[(.ref a1)] h0 (OPure (some (.int (F_iso u))) h0) := by
  refine OMet.of pn_iso ?_
  intro p e s m below meth c T0 X0 hx hby hml hown0 hnm hret hlk hZ e0
  have hown : s.vm.findClass "com/example/farcall/farcall/model/RemoteReference" = some m.cls := hown0
  refine OGo.go (fun t k => castTop (ef_iso m a1) k) ?_
  refine OGo.go (U' := T0.setTop (mkF m 1 #[.val (.ref a1)] [(.ref a1)])) (fun _ k => XS.aloadN X0.here hx rfl (hb hby d_iso_0) rfl rfl k) ?_
  obtain ⟨T1, X1, e1, st1⟩ := getF X0 hx hZ hown (host := "") (Or.inl (hw _ (List.mem_of_getElem? (i := 52) rfl))) Via.refl e0 f1 (g := (mkF m 1 #[.val (.ref a1)] [(.ref a1)])) rfl rfl (hb hby d_iso_1)
  refine OGo.go (U' := T1.setTop (mkF m 4 #[.val (.ref a1)] [(.int u)])) st1 ?_
  refine OGo.ite1 (P := u = (0 : Int32)) (fun (z3 : Int32) => T1.setTop (mkF m 12 #[.val (.ref a1)] [(.int z3)])) (x := (1 : Int32)) (y := (0 : Int32)) (fun hc2 k4 => ?_) (fun hc2 k4 => ?_) ?_
  · skip
    refine OGo.go (U' := T1.setTop (mkF m 7 #[.val (.ref a1)] [])) (fun _ k => XS.ifNo X1.here hx rfl (hb hby d_iso_4) rfl ((if0 _ _).trans (teq hc2).2) k) ?_
    refine OGo.go (U' := T1.setTop (mkF m 8 #[.val (.ref a1)] [(.int (1 : Int32))])) (fun _ k => XS.iconst X1.here hx rfl (hb hby d_iso_7) k) ?_
    refine OGo.go (U' := T1.setTop (mkF m 12 #[.val (.ref a1)] [(.int (1 : Int32))])) (fun _ k => XS.goto X1.here hx rfl (pc0 := 8) (pc' := 12) rfl (hb hby d_iso_8) (by decide) (by decide) k) ?_
    exact k4
  · skip
    refine OGo.go (U' := T1.setTop (mkF m 11 #[.val (.ref a1)] [])) (fun _ k => XS.ifYes X1.here hx rfl (pc0 := 4) (pc' := 11) rfl (hb hby d_iso_4) rfl ((if0 _ _).trans (feq hc2).2) (by decide) (by decide) k) ?_
    refine OGo.go (U' := T1.setTop (mkF m 12 #[.val (.ref a1)] [(.int (0 : Int32))])) (fun _ k => XS.iconst X1.here hx rfl (hb hby d_iso_11) k) ?_
    exact k4
  intro z3 hz3
  refine OGo.retN X1 hx (t := .boolean) hret hlk (by simp) (hb hby d_iso_12) ?_ (by decide) (by decide)
  refine ⟨?_, e1, rfl⟩
  subst hz3
  rfl
theorem d_emp_0 : decode jdk_42_method_55_code 0 = .ok (.aload_n 0, 1) := by decide +kernel
theorem d_emp_1 : decode jdk_42_method_55_code 1 = .ok (.getfield 9, 3) := by decide +kernel
theorem d_emp_4 : decode jdk_42_method_55_code 4 = .ok (.arraylength, 1) := by decide +kernel
theorem d_emp_5 : decode jdk_42_method_55_code 5 = .ok (.ifCond .ne 7, 3) := by decide +kernel
theorem d_emp_12 : decode jdk_42_method_55_code 12 = .ok (.iconst 0, 1) := by decide +kernel
theorem d_emp_13 : decode jdk_42_method_55_code 13 = .ok (.ireturn, 1) := by decide +kernel
theorem ef_emp (m : MethodId) (a1 : Addr) : entryFrame m #[(.ref a1)] 1 = mkF m 0 #[.val (.ref a1)] [] := by first | (simp [entryFrame, mkF, argsToLocals, Value.category]; done) | rfl
theorem pn_emp : plainFor (⟨"java/lang/String", "isEmpty", "()Z"⟩ : MethodName) = true := by first | exact plainFor_of_name (by first | (simp [plainName, overriddenIn]; done) | decide +kernel) | decide +kernel
set_option maxRecDepth 65536 in
set_option maxHeartbeats 40000000 in
theorem rm_emp (l : Launch) (Z : State) (a0 : Array Value) (hw : ∀ d ∈ tables_1, d.before a0 Z = true) (a1 : Addr) (d1 : Addr) (kd : ClassId) (zd : Int32) (vd : List Value) (h0 : Heap) (Es : Exa Z h0 a1 "java/lang/String") (fs : Fld Z h0 a1 "java/lang/String" "value" "[B" (.ref d1)) (Ad : Arv Z h0 d1 kd .byte zd vd (.int 0)) (hzd : ¬ zd = 0) :
    OMet l Z (⟨"java/lang/String", "isEmpty", "()Z"⟩ : MethodName) jdk_42_method_55_code 1 (some .boolean) [] ({ frames := 0, cells := 0, slots := 0, locals := 0 } : Room) #[(.ref a1)] h0 (OPure (some (.int 0)) h0) := by
  refine OMet.of pn_emp ?_
  intro p e s m below meth c T0 X0 hx hby hml hown0 hnm hret hlk hZ e0
  have hown : s.vm.findClass "java/lang/String" = some m.cls := hown0
  refine OGo.go (fun t k => castTop (ef_emp m a1) k) ?_
  refine OGo.go (U' := T0.setTop (mkF m 1 #[.val (.ref a1)] [(.ref a1)])) (fun _ k => XS.aloadN X0.here hx rfl (hb hby d_emp_0) rfl rfl k) ?_
  obtain ⟨T1, X1, e1, st1⟩ := getF X0 hx hZ hown (host := "") (Or.inl (hw _ (List.mem_of_getElem? (i := 28) rfl))) Via.refl e0 fs (g := (mkF m 1 #[.val (.ref a1)] [(.ref a1)])) rfl rfl (hb hby d_emp_1)
  refine OGo.go (U' := T1.setTop (mkF m 4 #[.val (.ref a1)] [(.ref d1)])) st1 ?_
  refine OGo.go (U' := T1.setTop (mkF m 5 #[.val (.ref a1)] [(.int zd)])) (fun _ k => Arv.len' X1 hx hZ e1 Ad (g := (mkF m 4 #[.val (.ref a1)] [(.ref d1)])) rfl rfl (hb hby d_emp_4) _ k) ?_
  refine OGo.go (U' := T1.setTop (mkF m 12 #[.val (.ref a1)] [])) (fun _ k => XS.ifYes X1.here hx rfl (pc0 := 5) (pc' := 12) rfl (hb hby d_emp_5) rfl ((if0 _ _).trans (feq hzd).2) (by decide) (by decide) k) ?_
  refine OGo.go (U' := T1.setTop (mkF m 13 #[.val (.ref a1)] [(.int (0 : Int32))])) (fun _ k => XS.iconst X1.here hx rfl (hb hby d_emp_12) k) ?_
  refine OGo.retN X1 hx (t := .boolean) hret hlk (by simp) (hb hby d_emp_13) ?_ (by decide) (by decide)
  exact ⟨congrArg (fun z => some (Value.int z)) (nar_b0), e1, rfl⟩
theorem d_rec_0 : decode jdk_30_method_1_code 0 = .ok (.aload_n 0, 1) := by decide +kernel
theorem d_rec_1 : decode jdk_30_method_1_code 1 = .ok (.invokespecial 1, 3) := by decide +kernel
theorem d_rec_4 : decode jdk_30_method_1_code 4 = .ok (.return_, 1) := by decide +kernel
theorem ef_rec (m : MethodId) (a1 : Addr) : entryFrame m #[(.ref a1)] 1 = mkF m 0 #[.val (.ref a1)] [] := by first | (simp [entryFrame, mkF, argsToLocals, Value.category]; done) | rfl
theorem pn_rec : plainFor (⟨"java/lang/Record", "<init>", "()V"⟩ : MethodName) = true := by first | exact plainFor_of_name (by first | (simp [plainName, overriddenIn]; done) | decide +kernel) | decide +kernel
set_option maxRecDepth 65536 in
set_option maxHeartbeats 40000000 in
theorem rm_rec (l : Launch) (Z : State) (a0 : Array Value) (hw : ∀ d ∈ tables_1, d.before a0 Z = true) (a1 : Addr)  (h0 : Heap)  :
    OMet l Z (⟨"java/lang/Record", "<init>", "()V"⟩ : MethodName) jdk_30_method_1_code 1 none [] ({ frames := 1, cells := 0, slots := 0, locals := 12 } : Room) #[(.ref a1)] h0 (OPure none h0) := by
  refine OMet.of pn_rec ?_
  intro p e s m below meth c T0 X0 hx hby hml hown0 hnm hret hlk hZ e0
  have hown : s.vm.findClass "java/lang/Record" = some m.cls := hown0
  refine OGo.go (fun t k => castTop (ef_rec m a1) k) ?_
  refine OGo.go (U' := T0.setTop (mkF m 1 #[.val (.ref a1)] [(.ref a1)])) (fun _ k => XS.aloadN X0.here hx rfl (hb hby d_rec_0) rfl rfl k) ?_
  obtain ⟨T1, X1, e1, st1⟩ := initO X0 hx hZ hown (hw _ (List.mem_of_getElem? (i := 43) rfl)) (hw _ (List.mem_of_getElem? (i := 26) rfl)) (hw _ (List.mem_of_getElem? (i := 27) rfl)) e0 (g := (mkF m 1 #[.val (.ref a1)] [(.ref a1)])) rfl (by rw [hml]; rfl) rfl (hb hby d_rec_1) (by decide) (W := 0) (by show 2 * 0 + _ ≤ _; exact Nat.le_of_eq rfl) (by decide)
  refine OGo.go (U' := T1.setTop (mkF m 4 #[.val (.ref a1)] [])) st1 ?_
  refine OGo.ret0 X1 hx hret hlk (hb hby d_rec_4) ?_ (by decide) (by decide)
  exact ⟨rfl, e1, rfl⟩
theorem d_can_0 : decode jdk_43_method_3_code 0 = .ok (.iload_n 0, 1) := by decide +kernel
theorem d_can_1 : decode jdk_43_method_3_code 1 = .ok (.sipush 255, 3) := by decide +kernel
theorem d_can_4 : decode jdk_43_method_3_code 4 = .ok (.if_icmp .gt 7, 3) := by decide +kernel
theorem d_can_7 : decode jdk_43_method_3_code 7 = .ok (.iconst 1, 1) := by decide +kernel
theorem d_can_8 : decode jdk_43_method_3_code 8 = .ok (.goto 4, 3) := by decide +kernel
theorem d_can_12 : decode jdk_43_method_3_code 12 = .ok (.ireturn, 1) := by decide +kernel
theorem ef_can (m : MethodId) (x1 : Int32) : entryFrame m #[(.int x1)] 1 = mkF m 0 #[.val (.int x1)] [] := by first | (simp [entryFrame, mkF, argsToLocals, Value.category]; done) | rfl
theorem pn_can : plainFor (⟨"java/lang/StringLatin1", "canEncode", "(C)Z"⟩ : MethodName) = true := by first | exact plainFor_of_name (by first | (simp [plainName, overriddenIn]; done) | decide +kernel) | decide +kernel
set_option maxRecDepth 65536 in
set_option maxHeartbeats 40000000 in
theorem rm_can (l : Launch) (Z : State) (a0 : Array Value) (hw : ∀ d ∈ tables_1, d.before a0 Z = true) (x1 : Int32)  (h0 : Heap) (hx1 : ¬ (255 : Int32) < x1) :
    OMet l Z (⟨"java/lang/StringLatin1", "canEncode", "(C)Z"⟩ : MethodName) jdk_43_method_3_code 1 (some .boolean) [] ({ frames := 0, cells := 0, slots := 0, locals := 0 } : Room) #[(.int x1)] h0 (OPure (some (.int 1)) h0) := by
  refine OMet.of pn_can ?_
  intro p e s m below meth c T0 X0 hx hby hml hown0 hnm hret hlk hZ e0
  have hown : s.vm.findClass "java/lang/StringLatin1" = some m.cls := hown0
  refine OGo.go (fun t k => castTop (ef_can m x1) k) ?_
  refine OGo.go (U' := T0.setTop (mkF m 1 #[.val (.int x1)] [(.int x1)])) (fun _ k => XS.iloadN X0.here hx rfl (hb hby d_can_0) rfl k) ?_
  refine OGo.go (U' := T0.setTop (mkF m 4 #[.val (.int x1)] [(.int (255 : Int32)), (.int x1)])) (fun _ k => XS.sipush X0.here hx rfl (hb hby d_can_1) k) ?_
  refine OGo.go (U' := T0.setTop (mkF m 7 #[.val (.int x1)] [])) (fun _ k => XS.icmpNo X0.here hx rfl (hb hby d_can_4) rfl (flt hx1).2.2.1 k) ?_
  refine OGo.go (U' := T0.setTop (mkF m 8 #[.val (.int x1)] [(.int (1 : Int32))])) (fun _ k => XS.iconst X0.here hx rfl (hb hby d_can_7) k) ?_
  refine OGo.go (U' := T0.setTop (mkF m 12 #[.val (.int x1)] [(.int (1 : Int32))])) (fun _ k => XS.goto X0.here hx rfl (pc0 := 8) (pc' := 12) rfl (hb hby d_can_8) (by decide) (by decide) k) ?_
  refine OGo.retN X0 hx (t := .boolean) hret hlk (by simp) (hb hby d_can_12) ?_ (by decide) (by decide)
  exact ⟨congrArg (fun z => some (Value.int z)) (nar_b1), e0, rfl⟩
theorem d_rri_0 : decode prog_49_method_1_code 0 = .ok (.aload_n 0, 1) := by decide +kernel
theorem d_rri_1 : decode prog_49_method_1_code 1 = .ok (.invokespecial 1, 3) := by decide +kernel
theorem d_rri_4 : decode prog_49_method_1_code 4 = .ok (.aload_n 1, 1) := by decide +kernel
theorem d_rri_5 : decode prog_49_method_1_code 5 = .ok (.ifnull 10, 3) := by decide +kernel
theorem d_rri_8 : decode prog_49_method_1_code 8 = .ok (.aload_n 1, 1) := by decide +kernel
theorem d_rri_9 : decode prog_49_method_1_code 9 = .ok (.invokevirtual 7, 3) := by decide +kernel
theorem d_rri_12 : decode prog_49_method_1_code 12 = .ok (.ifCond .eq 27, 3) := by decide +kernel
theorem d_rri_39 : decode prog_49_method_1_code 39 = .ok (.iload_n 2, 1) := by decide +kernel
theorem d_rri_40 : decode prog_49_method_1_code 40 = .ok (.ifCond .lt 9, 3) := by decide +kernel
theorem d_rri_43 : decode prog_49_method_1_code 43 = .ok (.iload_n 2, 1) := by decide +kernel
theorem d_rri_44 : decode prog_49_method_1_code 44 = .ok (.ldc 26, 2) := by decide +kernel
theorem d_rri_46 : decode prog_49_method_1_code 46 = .ok (.if_icmp .le 17, 3) := by decide +kernel
theorem d_rri_63 : decode prog_49_method_1_code 63 = .ok (.aload_n 0, 1) := by decide +kernel
theorem d_rri_64 : decode prog_49_method_1_code 64 = .ok (.aload_n 1, 1) := by decide +kernel
theorem d_rri_65 : decode prog_49_method_1_code 65 = .ok (.putfield 30, 3) := by decide +kernel
theorem d_rri_68 : decode prog_49_method_1_code 68 = .ok (.aload_n 0, 1) := by decide +kernel
theorem d_rri_69 : decode prog_49_method_1_code 69 = .ok (.iload_n 2, 1) := by decide +kernel
theorem d_rri_70 : decode prog_49_method_1_code 70 = .ok (.putfield 36, 3) := by decide +kernel
theorem d_rri_73 : decode prog_49_method_1_code 73 = .ok (.aload_n 0, 1) := by decide +kernel
theorem d_rri_74 : decode prog_49_method_1_code 74 = .ok (.iload_n 3, 1) := by decide +kernel
theorem d_rri_75 : decode prog_49_method_1_code 75 = .ok (.putfield 40, 3) := by decide +kernel
theorem d_rri_78 : decode prog_49_method_1_code 78 = .ok (.aload_n 0, 1) := by decide +kernel
theorem d_rri_79 : decode prog_49_method_1_code 79 = .ok (.iload 4, 2) := by decide +kernel
theorem d_rri_81 : decode prog_49_method_1_code 81 = .ok (.putfield 43, 3) := by decide +kernel
theorem d_rri_84 : decode prog_49_method_1_code 84 = .ok (.return_, 1) := by decide +kernel
theorem ef_rri (m : MethodId) (a1 : Addr) (s1 : Addr) (x2 : Int32) (x3 : Int32) (x4 : Int32) : entryFrame m #[(.ref a1), (.ref s1), (.int x2), (.int x3), (.int x4)] 5 = mkF m 0 #[.val (.ref a1), .val (.ref s1), .val (.int x2), .val (.int x3), .val (.int x4)] [] := by first | (simp [entryFrame, mkF, argsToLocals, Value.category]; done) | rfl
theorem pn_rri : plainFor (⟨"com/example/farcall/farcall/model/RemoteReference", "<init>", "(Ljava/lang/String;III)V"⟩ : MethodName) = true := by first | exact plainFor_of_name (by first | (simp [plainName, overriddenIn]; done) | decide +kernel) | decide +kernel
set_option maxRecDepth 65536 in
set_option maxHeartbeats 40000000 in
theorem rm_rri (l : Launch) (Z : State) (a0 : Array Value) (hw : ∀ d ∈ tables_1, d.before a0 Z = true) (a1 : Addr) (s1 : Addr) (x2 : Int32) (x3 : Int32) (x4 : Int32)  (u_host : Value) (u_port : Value) (u_program : Value) (u_version : Value) (d1 : Addr) (kd : ClassId) (zd : Int32) (vd : List Value) (n0 : Nat) (h0 : Heap) (Z0 : n0 ≤ h0.size) (E0 : Exa Z h0 a1 "com/example/farcall/farcall/model/RemoteReference") (F_host : Fld Z h0 a1 "com/example/farcall/farcall/model/RemoteReference" "host" "Ljava/lang/String;" u_host) (F_port : Fld Z h0 a1 "com/example/farcall/farcall/model/RemoteReference" "port" "I" u_port) (F_program : Fld Z h0 a1 "com/example/farcall/farcall/model/RemoteReference" "program" "I" u_program) (F_version : Fld Z h0 a1 "com/example/farcall/farcall/model/RemoteReference" "version" "I" u_version) (g0 : n0 ≤ a1) (Es : Exa Z h0 s1 "java/lang/String") (fs : Fld Z h0 s1 "java/lang/String" "value" "[B" (.ref d1)) (Ad : Arv Z h0 d1 kd .byte zd vd (.int 0)) (hzd : ¬ zd = 0) (hp1 : ¬ x2 < 0) (hp2 : ¬ (65535 : Int32) < x2) :
    OMet l Z (⟨"com/example/farcall/farcall/model/RemoteReference", "<init>", "(Ljava/lang/String;III)V"⟩ : MethodName) prog_49_method_1_code 5 none [] ({ frames := 2, cells := 0, slots := 0, locals := 24 } : Room) #[(.ref a1), (.ref s1), (.int x2), (.int x3), (.int x4)] h0 (fun v h L => v = none ∧ Fr n0 L ∧ Keep h0 h [a1] ∧ Exa Z h a1 "com/example/farcall/farcall/model/RemoteReference" ∧ Fld Z h a1 "com/example/farcall/farcall/model/RemoteReference" "host" "Ljava/lang/String;" (.ref s1) ∧ Fld Z h a1 "com/example/farcall/farcall/model/RemoteReference" "port" "I" (.int x2) ∧ Fld Z h a1 "com/example/farcall/farcall/model/RemoteReference" "program" "I" (.int x3) ∧ Fld Z h a1 "com/example/farcall/farcall/model/RemoteReference" "version" "I" (.int x4)) := by
  refine OMet.of pn_rri ?_
  intro p e s m below meth c T0 X0 hx hby hml hown0 hnm hret hlk hZ e0
  have hown : s.vm.findClass "com/example/farcall/farcall/model/RemoteReference" = some m.cls := hown0
  refine OGo.go (fun t k => castTop (ef_rri m a1 s1 x2 x3 x4) k) ?_
  refine OGo.go (U' := T0.setTop (mkF m 1 #[.val (.ref a1), .val (.ref s1), .val (.int x2), .val (.int x3), .val (.int x4)] [(.ref a1)])) (fun _ k => XS.aloadN X0.here hx rfl (hb hby d_rri_0) rfl rfl k) ?_
  refine OGo.callI X0 hx hZ (y := (⟨"java/lang/Record", "<init>", "()V"⟩ : MethodName)) rfl hown (hw _ (List.mem_of_getElem? (i := 38) rfl)) (hw _ (List.mem_of_getElem? (i := 39) rfl)) (hw _ (List.mem_of_getElem? (i := 41) rfl)) (hw _ (List.mem_of_getElem? (i := 42) rfl)) (by decide) (g := (mkF m 1 #[.val (.ref a1), .val (.ref s1), .val (.int x2), .val (.int x3), .val (.int x4)] [(.ref a1)])) (a := a1) (argsL := []) (rest := []) e0 (rm_rec l Z a0 hw a1 h0) rfl (by rw [hml]; rfl) (lenOf pd_0 rfl) rfl (W := 0) (by show 2 * 0 + _ ≤ _; exact Nat.le_of_eq rfl) (hb hby d_rri_1) (by decide) (by decide) (by decide) (by decide) ?_
  rintro _ T1 _ X1 ⟨rfl, e1, rfl⟩
  rw [List.append_nil] at X1
  show OGo p e below _ (T1.setTop (mkF m 4 #[.val (.ref a1), .val (.ref s1), .val (.int x2), .val (.int x3), .val (.int x4)] []))
  refine OGo.go (U' := T1.setTop (mkF m 5 #[.val (.ref a1), .val (.ref s1), .val (.int x2), .val (.int x3), .val (.int x4)] [(.ref s1)])) (fun _ k => XS.aloadN X1.here hx rfl (hb hby d_rri_4) rfl rfl k) ?_
  refine OGo.go (U' := T1.setTop (mkF m 8 #[.val (.ref a1), .val (.ref s1), .val (.int x2), .val (.int x3), .val (.int x4)] [])) (fun _ k => XS.ifnullNo X1.here hx rfl (hb hby d_rri_5) rfl k) ?_
  refine OGo.go (U' := T1.setTop (mkF m 9 #[.val (.ref a1), .val (.ref s1), .val (.int x2), .val (.int x3), .val (.int x4)] [(.ref s1)])) (fun _ k => XS.aloadN X1.here hx rfl (hb hby d_rri_8) rfl rfl k) ?_
  refine OGo.callV X1 hx hZ (y := (⟨"java/lang/String", "isEmpty", "()Z"⟩ : MethodName)) (C := "java/lang/String") hown (hw _ (List.mem_of_getElem? (i := 44) rfl)) (hw _ (List.mem_of_getElem? (i := 45) rfl)) (hw _ (List.mem_of_getElem? (i := 47) rfl)) (hw _ (List.mem_of_getElem? (i := 46) rfl)) (hw _ (List.mem_of_getElem? (i := 8) rfl)) (hw _ (List.mem_of_getElem? (i := 48) rfl)) (by decide) (g := (mkF m 9 #[.val (.ref a1), .val (.ref s1), .val (.int x2), .val (.int x3), .val (.int x4)] [(.ref s1)])) (a := s1) (argsL := []) (rest := []) e1 Es (rm_emp l Z a0 hw s1 d1 kd zd vd h0 Es fs Ad hzd) rfl (by rw [hml]; rfl) (lenOf pd_1 rfl) rfl (W := 0) (by show 2 * 0 + _ ≤ _; exact Nat.le_of_eq rfl) (hb hby d_rri_9) (by decide) (by decide) (by decide) (by decide) ?_
  rintro _ T2 _ X2 ⟨rfl, e2, rfl⟩
  rw [List.append_nil] at X2
  show OGo p e below _ (T2.setTop (mkF m 12 #[.val (.ref a1), .val (.ref s1), .val (.int x2), .val (.int x3), .val (.int x4)] [(.int (0 : Int32))]))
  refine OGo.go (U' := T2.setTop (mkF m 39 #[.val (.ref a1), .val (.ref s1), .val (.int x2), .val (.int x3), .val (.int x4)] [])) (fun _ k => XS.ifYes X2.here hx rfl (pc0 := 12) (pc' := 39) rfl (hb hby d_rri_12) rfl ((if0 _ _).trans (teq rfl).1) (by decide) (by decide) k) ?_
  refine OGo.go (U' := T2.setTop (mkF m 40 #[.val (.ref a1), .val (.ref s1), .val (.int x2), .val (.int x3), .val (.int x4)] [(.int x2)])) (fun _ k => XS.iloadN X2.here hx rfl (hb hby d_rri_39) rfl k) ?_
  refine OGo.go (U' := T2.setTop (mkF m 43 #[.val (.ref a1), .val (.ref s1), .val (.int x2), .val (.int x3), .val (.int x4)] [])) (fun _ k => XS.ifNo X2.here hx rfl (hb hby d_rri_40) rfl ((if0 _ _).trans (flt hp1).1) k) ?_
  refine OGo.go (U' := T2.setTop (mkF m 44 #[.val (.ref a1), .val (.ref s1), .val (.int x2), .val (.int x3), .val (.int x4)] [(.int x2)])) (fun _ k => XS.iloadN X2.here hx rfl (hb hby d_rri_43) rfl k) ?_
  refine OGo.go (U' := T2.setTop (mkF m 46 #[.val (.ref a1), .val (.ref s1), .val (.int x2), .val (.int x3), .val (.int x4)] [(.int (65535 : Int32)), (.int x2)])) (fun _ k => X2.ldcInt hx hown (mvT hZ (hw _ (List.mem_of_getElem? (i := 49) rfl))) (g := (mkF m 44 #[.val (.ref a1), .val (.ref s1), .val (.int x2), .val (.int x3), .val (.int x4)] [(.int x2)])) rfl (hb hby d_rri_44) _ k) ?_
  refine OGo.go (U' := T2.setTop (mkF m 63 #[.val (.ref a1), .val (.ref s1), .val (.int x2), .val (.int x3), .val (.int x4)] [])) (fun _ k => XS.icmpYes X2.here hx rfl (pc0 := 46) (pc' := 63) rfl (hb hby d_rri_46) rfl (flt hp2).2.2.2 (by decide) (by decide) k) ?_
  refine OGo.go (U' := T2.setTop (mkF m 64 #[.val (.ref a1), .val (.ref s1), .val (.int x2), .val (.int x3), .val (.int x4)] [(.ref a1)])) (fun _ k => XS.aloadN X2.here hx rfl (hb hby d_rri_63) rfl rfl k) ?_
  refine OGo.go (U' := T2.setTop (mkF m 65 #[.val (.ref a1), .val (.ref s1), .val (.int x2), .val (.int x3), .val (.int x4)] [(.ref s1), (.ref a1)])) (fun _ k => XS.aloadN X2.here hx rfl (hb hby d_rri_64) rfl rfl k) ?_
  obtain ⟨T3, h3, X3, e3, W3, st3⟩ := putF X2 hx hZ hown (host := "") (Or.inl (hw _ (List.mem_of_getElem? (i := 50) rfl))) Via.refl e2 F_host E0 (Or.inr ⟨(hw _ (List.mem_of_getElem? (i := 51) rfl)), rfl, hnm⟩) (hw _ (List.mem_of_getElem? (i := 33) rfl)) (ty := (.object "java/lang/String")) (by decide) rfl rfl (g := (mkF m 65 #[.val (.ref a1), .val (.ref s1), .val (.int x2), .val (.int x3), .val (.int x4)] [(.ref s1), (.ref a1)])) rfl rfl (hb hby d_rri_65)
  have N4 := Fr.snoc X3 (Fr.nil n0) g0
  have f5 := E0.wr W3
  have f6 := F_host.same W3
  have f7 := F_port.other W3 (Or.inr (slot_ne (Or.inr (hw _ (List.mem_of_getElem? (i := 53) rfl))) (Or.inr (hw _ (List.mem_of_getElem? (i := 51) rfl))) (by decide) (t := .int) (t' := (.object "java/lang/String")) (by decide) (by decide)))
  have f8 := F_program.other W3 (Or.inr (slot_ne (Or.inr (hw _ (List.mem_of_getElem? (i := 55) rfl))) (Or.inr (hw _ (List.mem_of_getElem? (i := 51) rfl))) (by decide) (t := .int) (t' := (.object "java/lang/String")) (by decide) (by decide)))
  have f9 := F_version.other W3 (Or.inr (slot_ne (Or.inr (hw _ (List.mem_of_getElem? (i := 57) rfl))) (Or.inr (hw _ (List.mem_of_getElem? (i := 51) rfl))) (by decide) (t := .int) (t' := (.object "java/lang/String")) (by decide) (by decide)))
  have K10 := (Keep.refl h0 [a1]).wr W3 (Or.inl (List.mem_of_getElem? (i := 0) rfl))
  refine OGo.go (U' := T3.setTop (mkF m 68 #[.val (.ref a1), .val (.ref s1), .val (.int x2), .val (.int x3), .val (.int x4)] [])) st3 ?_
  refine OGo.go (U' := T3.setTop (mkF m 69 #[.val (.ref a1), .val (.ref s1), .val (.int x2), .val (.int x3), .val (.int x4)] [(.ref a1)])) (fun _ k => XS.aloadN X3.here hx rfl (hb hby d_rri_68) rfl rfl k) ?_
  refine OGo.go (U' := T3.setTop (mkF m 70 #[.val (.ref a1), .val (.ref s1), .val (.int x2), .val (.int x3), .val (.int x4)] [(.int x2), (.ref a1)])) (fun _ k => XS.iloadN X3.here hx rfl (hb hby d_rri_69) rfl k) ?_
  obtain ⟨T11, h11, X11, e11, W11, st11⟩ := putF X3 hx hZ hown (host := "") (Or.inl (hw _ (List.mem_of_getElem? (i := 52) rfl))) Via.refl e3 f7 f5 (Or.inr ⟨(hw _ (List.mem_of_getElem? (i := 53) rfl)), rfl, hnm⟩) (hw _ (List.mem_of_getElem? (i := 33) rfl)) (ty := .int) (by decide) rfl rfl (g := (mkF m 70 #[.val (.ref a1), .val (.ref s1), .val (.int x2), .val (.int x3), .val (.int x4)] [(.int x2), (.ref a1)])) rfl rfl (hb hby d_rri_70)
  have N12 := Fr.snoc X11 N4 g0
  have f13 := f5.wr W11
  have f14 := f6.other W11 (Or.inr (slot_ne (Or.inr (hw _ (List.mem_of_getElem? (i := 51) rfl))) (Or.inr (hw _ (List.mem_of_getElem? (i := 53) rfl))) (by decide) (t := (.object "java/lang/String")) (t' := .int) (by decide) (by decide)))
  have f15 := f7.same W11
  have f16 := f8.other W11 (Or.inr (slot_ne (Or.inr (hw _ (List.mem_of_getElem? (i := 55) rfl))) (Or.inr (hw _ (List.mem_of_getElem? (i := 53) rfl))) (by decide) (t := .int) (t' := .int) (by decide) (by decide)))
  have f17 := f9.other W11 (Or.inr (slot_ne (Or.inr (hw _ (List.mem_of_getElem? (i := 57) rfl))) (Or.inr (hw _ (List.mem_of_getElem? (i := 53) rfl))) (by decide) (t := .int) (t' := .int) (by decide) (by decide)))
  have K18 := K10.wr W11 (Or.inl (List.mem_of_getElem? (i := 0) rfl))
  refine OGo.go (U' := T11.setTop (mkF m 73 #[.val (.ref a1), .val (.ref s1), .val (.int x2), .val (.int x3), .val (.int x4)] [])) st11 ?_
  refine OGo.go (U' := T11.setTop (mkF m 74 #[.val (.ref a1), .val (.ref s1), .val (.int x2), .val (.int x3), .val (.int x4)] [(.ref a1)])) (fun _ k => XS.aloadN X11.here hx rfl (hb hby d_rri_73) rfl rfl k) ?_
  refine OGo.go (U' := T11.setTop (mkF m 75 #[.val (.ref a1), .val (.ref s1), .val (.int x2), .val (.int x3), .val (.int x4)] [(.int x3), (.ref a1)])) (fun _ k => XS.iloadN X11.here hx rfl (hb hby d_rri_74) rfl k) ?_
  obtain ⟨T19, h19, X19, e19, W19, st19⟩ := putF X11 hx hZ hown (host := "") (Or.inl (hw _ (List.mem_of_getElem? (i := 54) rfl))) Via.refl e11 f16 f13 (Or.inr ⟨(hw _ (List.mem_of_getElem? (i := 55) rfl)), rfl, hnm⟩) (hw _ (List.mem_of_getElem? (i := 33) rfl)) (ty := .int) (by decide) rfl rfl (g := (mkF m 75 #[.val (.ref a1), .val (.ref s1), .val (.int x2), .val (.int x3), .val (.int x4)] [(.int x3), (.ref a1)])) rfl rfl (hb hby d_rri_75)
  have N20 := Fr.snoc X19 N12 g0
  have f21 := f13.wr W19
  have f22 := f14.other W19 (Or.inr (slot_ne (Or.inr (hw _ (List.mem_of_getElem? (i := 51) rfl))) (Or.inr (hw _ (List.mem_of_getElem? (i := 55) rfl))) (by decide) (t := (.object "java/lang/String")) (t' := .int) (by decide) (by decide)))
  have f23 := f15.other W19 (Or.inr (slot_ne (Or.inr (hw _ (List.mem_of_getElem? (i := 53) rfl))) (Or.inr (hw _ (List.mem_of_getElem? (i := 55) rfl))) (by decide) (t := .int) (t' := .int) (by decide) (by decide)))
  have f24 := f16.same W19
  have f25 := f17.other W19 (Or.inr (slot_ne (Or.inr (hw _ (List.mem_of_getElem? (i := 57) rfl))) (Or.inr (hw _ (List.mem_of_getElem? (i := 55) rfl))) (by decide) (t := .int) (t' := .int) (by decide) (by decide)))
  have K26 := K18.wr W19 (Or.inl (List.mem_of_getElem? (i := 0) rfl))
  refine OGo.go (U' := T19.setTop (mkF m 78 #[.val (.ref a1), .val (.ref s1), .val (.int x2), .val (.int x3), .val (.int x4)] [])) st19 ?_
  refine OGo.go (U' := T19.setTop (mkF m 79 #[.val (.ref a1), .val (.ref s1), .val (.int x2), .val (.int x3), .val (.int x4)] [(.ref a1)])) (fun _ k => XS.aloadN X19.here hx rfl (hb hby d_rri_78) rfl rfl k) ?_
  refine OGo.go (U' := T19.setTop (mkF m 81 #[.val (.ref a1), .val (.ref s1), .val (.int x2), .val (.int x3), .val (.int x4)] [(.int x4), (.ref a1)])) (fun _ k => XS.iload X19.here hx rfl (hb hby d_rri_79) rfl k) ?_
  obtain ⟨T27, h27, X27, e27, W27, st27⟩ := putF X19 hx hZ hown (host := "") (Or.inl (hw _ (List.mem_of_getElem? (i := 56) rfl))) Via.refl e19 f25 f21 (Or.inr ⟨(hw _ (List.mem_of_getElem? (i := 57) rfl)), rfl, hnm⟩) (hw _ (List.mem_of_getElem? (i := 33) rfl)) (ty := .int) (by decide) rfl rfl (g := (mkF m 81 #[.val (.ref a1), .val (.ref s1), .val (.int x2), .val (.int x3), .val (.int x4)] [(.int x4), (.ref a1)])) rfl rfl (hb hby d_rri_81)
  have N28 := Fr.snoc X27 N20 g0
  have f29 := f21.wr W27
  have f30 := f22.other W27 (Or.inr (slot_ne (Or.inr (hw _ (List.mem_of_getElem? (i := 51) rfl))) (Or.inr (hw _ (List.mem_of_getElem? (i := 57) rfl))) (by decide) (t := (.object "java/lang/String")) (t' := .int) (by decide) (by decide)))
  have f31 := f23.other W27 (Or.inr (slot_ne (Or.inr (hw _ (List.mem_of_getElem? (i := 53) rfl))) (Or.inr (hw _ (List.mem_of_getElem? (i := 57) rfl))) (by decide) (t := .int) (t' := .int) (by decide) (by decide)))
  have f32 := f24.other W27 (Or.inr (slot_ne (Or.inr (hw _ (List.mem_of_getElem? (i := 55) rfl))) (Or.inr (hw _ (List.mem_of_getElem? (i := 57) rfl))) (by decide) (t := .int) (t' := .int) (by decide) (by decide)))
  have f33 := f25.same W27
  have K34 := K26.wr W27 (Or.inl (List.mem_of_getElem? (i := 0) rfl))
  refine OGo.go (U' := T27.setTop (mkF m 84 #[.val (.ref a1), .val (.ref s1), .val (.int x2), .val (.int x3), .val (.int x4)] [])) st27 ?_
  refine OGo.ret0 X27 hx hret hlk (hb hby d_rri_84) ?_ (by decide) (by decide)
  rw [e27]
  exact ⟨rfl, N28, K34, f29, f30, f31, f32, f33⟩
theorem d_si2_0 : decode jdk_42_method_151_code 0 = .ok (.aload_n 0, 1) := by decide +kernel
theorem d_si2_1 : decode jdk_42_method_151_code 1 = .ok (.invokespecial 1, 3) := by decide +kernel
theorem d_si2_4 : decode jdk_42_method_151_code 4 = .ok (.aload_n 0, 1) := by decide +kernel
theorem d_si2_5 : decode jdk_42_method_151_code 5 = .ok (.aload_n 1, 1) := by decide +kernel
theorem d_si2_6 : decode jdk_42_method_151_code 6 = .ok (.putfield 9, 3) := by decide +kernel
theorem d_si2_9 : decode jdk_42_method_151_code 9 = .ok (.aload_n 0, 1) := by decide +kernel
theorem d_si2_10 : decode jdk_42_method_151_code 10 = .ok (.iload_n 2, 1) := by decide +kernel
theorem d_si2_11 : decode jdk_42_method_151_code 11 = .ok (.putfield 15, 3) := by decide +kernel
theorem d_si2_14 : decode jdk_42_method_151_code 14 = .ok (.return_, 1) := by decide +kernel
theorem ef_si2 (m : MethodId) (a1 : Addr) (b1 : Addr) (x2 : Int32) : entryFrame m #[(.ref a1), (.ref b1), (.int x2)] 3 = mkF m 0 #[.val (.ref a1), .val (.ref b1), .val (.int x2)] [] := by first | (simp [entryFrame, mkF, argsToLocals, Value.category]; done) | rfl
theorem pn_si2 : plainFor (⟨"java/lang/String", "<init>", "([BB)V"⟩ : MethodName) = true := by first | exact plainFor_of_name (by first | (simp [plainName, overriddenIn]; done) | decide +kernel) | decide +kernel
set_option maxRecDepth 65536 in
set_option maxHeartbeats 40000000 in
theorem rm_si2 (l : Launch) (Z : State) (a0 : Array Value) (hw : ∀ d ∈ tables_1, d.before a0 Z = true) (a1 : Addr) (b1 : Addr) (x2 : Int32)  (u_value : Value) (u_coder : Value)  (n0 : Nat) (h0 : Heap) (Z0 : n0 ≤ h0.size) (E0 : Exa Z h0 a1 "java/lang/String") (F_value : Fld Z h0 a1 "java/lang/String" "value" "[B" u_value) (F_coder : Fld Z h0 a1 "java/lang/String" "coder" "B" u_coder) (g0 : n0 ≤ a1)  :
    OMet l Z (⟨"java/lang/String", "<init>", "([BB)V"⟩ : MethodName) jdk_42_method_151_code 3 none [] ({ frames := 1, cells := 0, slots := 0, locals := 12 } : Room) #[(.ref a1), (.ref b1), (.int x2)] h0 (fun v h L => v = none ∧ Fr n0 L ∧ Keep h0 h [a1] ∧ Exa Z h a1 "java/lang/String" ∧ Fld Z h a1 "java/lang/String" "value" "[B" (.ref b1) ∧ Fld Z h a1 "java/lang/String" "coder" "B" (.int (nar .byte x2))) := by
  refine OMet.of pn_si2 ?_
  intro p e s m below meth c T0 X0 hx hby hml hown0 hnm hret hlk hZ e0
  have hown : s.vm.findClass "java/lang/String" = some m.cls := hown0
  refine OGo.go (fun t k => castTop (ef_si2 m a1 b1 x2) k) ?_
  refine OGo.go (U' := T0.setTop (mkF m 1 #[.val (.ref a1), .val (.ref b1), .val (.int x2)] [(.ref a1)])) (fun _ k => XS.aloadN X0.here hx rfl (hb hby d_si2_0) rfl rfl k) ?_
  obtain ⟨T1, X1, e1, st1⟩ := initO X0 hx hZ hown (hw _ (List.mem_of_getElem? (i := 25) rfl)) (hw _ (List.mem_of_getElem? (i := 26) rfl)) (hw _ (List.mem_of_getElem? (i := 27) rfl)) e0 (g := (mkF m 1 #[.val (.ref a1), .val (.ref b1), .val (.int x2)] [(.ref a1)])) rfl (by rw [hml]; rfl) rfl (hb hby d_si2_1) (by decide) (W := 0) (by show 2 * 0 + _ ≤ _; exact Nat.le_of_eq rfl) (by decide)
  refine OGo.go (U' := T1.setTop (mkF m 4 #[.val (.ref a1), .val (.ref b1), .val (.int x2)] [])) st1 ?_
  refine OGo.go (U' := T1.setTop (mkF m 5 #[.val (.ref a1), .val (.ref b1), .val (.int x2)] [(.ref a1)])) (fun _ k => XS.aloadN X1.here hx rfl (hb hby d_si2_4) rfl rfl k) ?_
  refine OGo.go (U' := T1.setTop (mkF m 6 #[.val (.ref a1), .val (.ref b1), .val (.int x2)] [(.ref b1), (.ref a1)])) (fun _ k => XS.aloadN X1.here hx rfl (hb hby d_si2_5) rfl rfl k) ?_
  obtain ⟨T2, h2, X2, e2, W2, st2⟩ := putF X1 hx hZ hown (host := "") (Or.inl (hw _ (List.mem_of_getElem? (i := 28) rfl))) Via.refl e1 F_value E0 (Or.inr ⟨(hw _ (List.mem_of_getElem? (i := 29) rfl)), rfl, hnm⟩) (hw _ (List.mem_of_getElem? (i := 16) rfl)) (ty := (.array .byte)) (by decide) rfl rfl (g := (mkF m 6 #[.val (.ref a1), .val (.ref b1), .val (.int x2)] [(.ref b1), (.ref a1)])) rfl rfl (hb hby d_si2_6)
  have N3 := Fr.snoc X2 (Fr.nil n0) g0
  have f4 := E0.wr W2
  have f5 := F_value.same W2
  have f6 := F_coder.other W2 (Or.inr (slot_ne (Or.inr (hw _ (List.mem_of_getElem? (i := 31) rfl))) (Or.inr (hw _ (List.mem_of_getElem? (i := 29) rfl))) (by decide) (t := .byte) (t' := (.array .byte)) (by decide) (by decide)))
  have K7 := (Keep.refl h0 [a1]).wr W2 (Or.inl (List.mem_of_getElem? (i := 0) rfl))
  refine OGo.go (U' := T2.setTop (mkF m 9 #[.val (.ref a1), .val (.ref b1), .val (.int x2)] [])) st2 ?_
  refine OGo.go (U' := T2.setTop (mkF m 10 #[.val (.ref a1), .val (.ref b1), .val (.int x2)] [(.ref a1)])) (fun _ k => XS.aloadN X2.here hx rfl (hb hby d_si2_9) rfl rfl k) ?_
  refine OGo.go (U' := T2.setTop (mkF m 11 #[.val (.ref a1), .val (.ref b1), .val (.int x2)] [(.int x2), (.ref a1)])) (fun _ k => XS.iloadN X2.here hx rfl (hb hby d_si2_10) rfl k) ?_
  obtain ⟨T8, h8, X8, e8, W8, st8⟩ := putFN X2 hx hZ hown (hw _ (List.mem_of_getElem? (i := 30) rfl)) Via.refl e2 f6 f4 (Or.inr ⟨(hw _ (List.mem_of_getElem? (i := 31) rfl)), rfl, hnm⟩) (hw _ (List.mem_of_getElem? (i := 16) rfl)) (ty := .byte) (v' := (.int (nar .byte x2))) (by decide) rfl (fits_nar_byte _) (g := (mkF m 11 #[.val (.ref a1), .val (.ref b1), .val (.int x2)] [(.int x2), (.ref a1)])) rfl rfl (hb hby d_si2_11)
  have N9 := Fr.snoc X8 N3 g0
  have f10 := f4.wr W8
  have f11 := f5.other W8 (Or.inr (slot_ne (Or.inr (hw _ (List.mem_of_getElem? (i := 29) rfl))) (Or.inr (hw _ (List.mem_of_getElem? (i := 31) rfl))) (by decide) (t := (.array .byte)) (t' := .byte) (by decide) (by decide)))
  have f12 := f6.same W8
  have K13 := K7.wr W8 (Or.inl (List.mem_of_getElem? (i := 0) rfl))
  refine OGo.go (U' := T8.setTop (mkF m 14 #[.val (.ref a1), .val (.ref b1), .val (.int x2)] [])) st8 ?_
  refine OGo.ret0 X8 hx hret hlk (hb hby d_si2_14) ?_ (by decide) (by decide)
  rw [e8]
  exact ⟨rfl, N9, K13, f10, f11, f12⟩
theorem d_tob_0 : decode jdk_43_method_46_code 0 = .ok (.iconst 1, 1) := by decide +kernel
theorem d_tob_1 : decode jdk_43_method_46_code 1 = .ok (.newarray .byte, 2) := by decide +kernel
theorem d_tob_3 : decode jdk_43_method_46_code 3 = .ok (.dup, 1) := by decide +kernel
theorem d_tob_4 : decode jdk_43_method_46_code 4 = .ok (.iconst 0, 1) := by decide +kernel
theorem d_tob_5 : decode jdk_43_method_46_code 5 = .ok (.iload_n 0, 1) := by decide +kernel
theorem d_tob_6 : decode jdk_43_method_46_code 6 = .ok (.i2b, 1) := by decide +kernel
theorem d_tob_7 : decode jdk_43_method_46_code 7 = .ok (.bastore, 1) := by decide +kernel
theorem d_tob_8 : decode jdk_43_method_46_code 8 = .ok (.areturn, 1) := by decide +kernel
theorem ef_tob (m : MethodId) (x1 : Int32) : entryFrame m #[(.int x1)] 1 = mkF m 0 #[.val (.int x1)] [] := by first | (simp [entryFrame, mkF, argsToLocals, Value.category]; done) | rfl
theorem pn_tob : plainFor (⟨"java/lang/StringLatin1", "toBytes", "(C)[B"⟩ : MethodName) = true := by first | exact plainFor_of_name (by first | (simp [plainName, overriddenIn]; done) | decide +kernel) | decide +kernel
set_option maxRecDepth 65536 in
set_option maxHeartbeats 40000000 in
theorem rm_tob (l : Launch) (Z : State) (a0 : Array Value) (hw : ∀ d ∈ tables_1, d.before a0 Z = true) (x1 : Int32) (n0 : Nat) (h0 : Heap) (Z0 : n0 ≤ h0.size) :
    OMet l Z (⟨"java/lang/StringLatin1", "toBytes", "(C)[B"⟩ : MethodName) jdk_43_method_46_code 1 (some (.array .byte)) [] ({ frames := 0, cells := 1, slots := 1, locals := 0 } : Room) #[(.int x1)] h0 (fun v h L => ∃ (b : Addr) (k : ClassId) (vs : List Value), v = some (.ref b) ∧ Fr n0 L ∧ Keep h0 h [] ∧ Arv Z h b k .byte 1 vs (.int 0) ∧ h0.size ≤ b) := by
  refine OMet.of pn_tob ?_
  intro p e s m below meth c T0 X0 hx hby hml hown0 hnm hret hlk hZ e0
  have hown : s.vm.findClass "java/lang/StringLatin1" = some m.cls := hown0
  refine OGo.go (fun t k => castTop (ef_tob m x1) k) ?_
  refine OGo.go (U' := T0.setTop (mkF m 1 #[.val (.int x1)] [(.int (1 : Int32))])) (fun _ k => XS.iconst X0.here hx rfl (hb hby d_tob_0) k) ?_
  obtain ⟨T1, h1, k1, X1, e1, E1, A1, st1⟩ := newP X0 hx hZ (hw _ (List.mem_of_getElem? (i := 20) rfl)) e0 (g := (mkF m 1 #[.val (.int x1)] [(.int (1 : Int32))])) rfl (hb hby d_tob_1) rfl (n := 1) (by decide) (cap := 1) (by decide) (by decide) (by decide) (by decide)
  obtain ⟨b1, gb1⟩ : ∃ z, z = h0.size := ⟨_, rfl⟩
  rw [← gb1] at A1 st1
  have g2 : n0 ≤ b1 := Nat.le_trans Z0 (Nat.le_of_eq gb1.symm)
  have sz3 := Nat.le_trans (Keep.refl h0 []).1 (Nat.le_of_eq gb1.symm)
  have K4 := (Keep.refl h0 []).ext E1
  have V1 : Arv Z h1 b1 k1 .byte 1 [(.int (0 : Int32))] (.int (0 : Int32)) := (Arv.new A1 (by decide)).pad (pad_rep [] _ 1)
  refine OGo.go (U' := T1.setTop (mkF m 3 #[.val (.int x1)] [(.ref b1)])) st1 ?_
  refine OGo.go (U' := T1.setTop (mkF m 4 #[.val (.int x1)] [(.ref b1), (.ref b1)])) (fun _ k => XS.dup X1.here hx rfl (hb hby d_tob_3) rfl rfl k) ?_
  refine OGo.go (U' := T1.setTop (mkF m 5 #[.val (.int x1)] [(.int (0 : Int32)), (.ref b1), (.ref b1)])) (fun _ k => XS.iconst X1.here hx rfl (hb hby d_tob_4) k) ?_
  refine OGo.go (U' := T1.setTop (mkF m 6 #[.val (.int x1)] [(.int x1), (.int (0 : Int32)), (.ref b1), (.ref b1)])) (fun _ k => XS.iloadN X1.here hx rfl (hb hby d_tob_5) rfl k) ?_
  refine OGo.go (U' := T1.setTop (mkF m 7 #[.val (.int x1)] [(.int (x1.toInt8.toInt32)), (.int (0 : Int32)), (.ref b1), (.ref b1)])) (fun _ k => XS.i2b X1.here hx rfl (hb hby d_tob_6) rfl k) ?_
  obtain ⟨T5, h5, X5, e5, W5, V5, st5⟩ := Arv.stB' X1 hx hZ e1 V1 ⟨by decide, by decide⟩ 0 (by decide) (by simp) (g := (mkF m 7 #[.val (.int x1)] [(.int (x1.toInt8.toInt32)), (.int (0 : Int32)), (.ref b1), (.ref b1)])) rfl rfl (hb hby d_tob_7)
  have N6 := Fr.snoc X5 (Fr.nil n0) g2
  have K7 := K4.wr W5 (Or.inr sz3)
  refine OGo.go (U' := T5.setTop (mkF m 8 #[.val (.int x1)] [(.ref b1)])) st5 ?_
  refine OGo.retA X5 hx hret hlk rfl rfl (hb hby d_tob_8) ?_ (by decide) (by decide)
  rw [e5]
  exact ⟨b1, k1, _, rfl, N6, K7, V5, sz3⟩
def OStr (Z : State) (h : Heap) (a : Addr) : Prop := Exa Z h a "java/lang/String" ∧ ∃ (d : Addr) (k : ClassId) (z : Int32) (vs : List Value), Fld Z h a "java/lang/String" "value" "[B" (.ref d) ∧ Arv Z h d k .byte z vs (.int 0) ∧ ¬ z = 0
theorem d_vof_0 : decode jdk_42_method_139_code 0 = .ok (.getstatic 38, 3) := by decide +kernel
theorem d_vof_3 : decode jdk_42_method_139_code 3 = .ok (.ifCond .eq 23, 3) := by decide +kernel
theorem d_vof_6 : decode jdk_42_method_139_code 6 = .ok (.iload_n 0, 1) := by decide +kernel
theorem d_vof_7 : decode jdk_42_method_139_code 7 = .ok (.invokestatic 1015, 3) := by decide +kernel
theorem d_vof_10 : decode jdk_42_method_139_code 10 = .ok (.ifCond .eq 16, 3) := by decide +kernel
theorem d_vof_13 : decode jdk_42_method_139_code 13 = .ok (.new 10, 3) := by decide +kernel
theorem d_vof_16 : decode jdk_42_method_139_code 16 = .ok (.dup, 1) := by decide +kernel
theorem d_vof_17 : decode jdk_42_method_139_code 17 = .ok (.iload_n 0, 1) := by decide +kernel
theorem d_vof_18 : decode jdk_42_method_139_code 18 = .ok (.invokestatic 1018, 3) := by decide +kernel
theorem d_vof_21 : decode jdk_42_method_139_code 21 = .ok (.iconst 0, 1) := by decide +kernel
theorem d_vof_22 : decode jdk_42_method_139_code 22 = .ok (.invokespecial 209, 3) := by decide +kernel
theorem d_vof_25 : decode jdk_42_method_139_code 25 = .ok (.areturn, 1) := by decide +kernel
theorem ef_vof (m : MethodId) (x1 : Int32) : entryFrame m #[(.int x1)] 1 = mkF m 0 #[.val (.int x1)] [] := by first | (simp [entryFrame, mkF, argsToLocals, Value.category]; done) | rfl
theorem pn_vof : plainFor (⟨"java/lang/String", "valueOf", "(C)Ljava/lang/String;"⟩ : MethodName) = true := by first | exact plainFor_of_name (by first | (simp [plainName, overriddenIn]; done) | decide +kernel) | decide +kernel
set_option maxRecDepth 65536 in
set_option maxHeartbeats 40000000 in
theorem rm_vof (l : Launch) (Z : State) (a0 : Array Value) (hw : ∀ d ∈ tables_1, d.before a0 Z = true) (x1 : Int32) (cs : Int32) (n0 : Nat) (h0 : Heap) (Z0 : n0 ≤ h0.size) (S0 : Sta Z h0 "java/lang/String" "COMPACT_STRINGS" "Z" (.int cs)) (hcs : ¬ cs = 0) (hx1 : ¬ (255 : Int32) < x1) :
    OMet l Z (⟨"java/lang/String", "valueOf", "(C)Ljava/lang/String;"⟩ : MethodName) jdk_42_method_139_code 1 (some (.object "java/lang/String")) [] ({ frames := 2, cells := 2, slots := 5, locals := 30 } : Room) #[(.int x1)] h0 (fun v h L => ∃ a : Addr, v = some (.ref a) ∧ Fr n0 L ∧ Keep h0 h [] ∧ OStr Z h a) := by
  refine OMet.of pn_vof ?_
  intro p e s m below meth c T0 X0 hx hby hml hown0 hnm hret hlk hZ e0
  have hown : s.vm.findClass "java/lang/String" = some m.cls := hown0
  refine OGo.go (fun t k => castTop (ef_vof m x1) k) ?_
  obtain ⟨T1, X1, e1, st1⟩ := getS2 X0 hx hZ hown (host := "") (Or.inl (hw _ (List.mem_of_getElem? (i := 10) rfl))) Via.refl e0 S0 (g := (mkF m 0 #[.val (.int x1)] [])) rfl (hb hby d_vof_0)
  refine OGo.go (U' := T1.setTop (mkF m 3 #[.val (.int x1)] [(.int cs)])) st1 ?_
  refine OGo.go (U' := T1.setTop (mkF m 6 #[.val (.int x1)] [])) (fun _ k => XS.ifNo X1.here hx rfl (hb hby d_vof_3) rfl ((if0 _ _).trans (feq hcs).1) k) ?_
  refine OGo.go (U' := T1.setTop (mkF m 7 #[.val (.int x1)] [(.int x1)])) (fun _ k => XS.iloadN X1.here hx rfl (hb hby d_vof_6) rfl k) ?_
  refine OGo.callS X1 hx hZ (y := (⟨"java/lang/StringLatin1", "canEncode", "(C)Z"⟩ : MethodName)) hown (hw _ (List.mem_of_getElem? (i := 11) rfl)) (hw _ (List.mem_of_getElem? (i := 12) rfl)) (hw _ (List.mem_of_getElem? (i := 13) rfl)) (hw _ (List.mem_of_getElem? (i := 14) rfl)) (by decide) (g := (mkF m 7 #[.val (.int x1)] [(.int x1)])) (argsL := [(.int x1)]) (rest := []) e1 (rm_can l Z a0 hw x1 h0 hx1) rfl (by rw [hml]; rfl) (lenOf pd_2 rfl) rfl (W := 0) (by show 2 * 0 + _ ≤ _; exact Nat.le_of_eq rfl) (hb hby d_vof_7) (by decide) (by decide) (by decide) (by decide) ?_
  rintro _ T2 _ X2 ⟨rfl, e2, rfl⟩
  rw [List.append_nil] at X2
  show OGo p e below _ (T2.setTop (mkF m 10 #[.val (.int x1)] [(.int (1 : Int32))]))
  refine OGo.go (U' := T2.setTop (mkF m 13 #[.val (.int x1)] [])) (fun _ k => XS.ifNo X2.here hx rfl (hb hby d_vof_10) rfl ((if0 _ _).trans (feq (by decide)).1) k) ?_
  obtain ⟨T3, h3, X3, e3, E3, A3, D3, -, st3⟩ := newO X2 hx hZ hown (hw _ (List.mem_of_getElem? (i := 15) rfl)) (hw _ (List.mem_of_getElem? (i := 16) rfl)) (hw _ (List.mem_of_getElem? (i := 8) rfl)) e2 (g := (mkF m 13 #[.val (.int x1)] [])) rfl (hb hby d_vof_13) (by decide) (by decide)
  obtain ⟨b3, gb3⟩ : ∃ z, z = h0.size := ⟨_, rfl⟩
  rw [← gb3] at A3 D3 st3
  have g4 : n0 ≤ b3 := Nat.le_trans Z0 (Nat.le_of_eq gb3.symm)
  have sz5 := Nat.le_trans (Keep.refl h0 []).1 (Nat.le_of_eq gb3.symm)
  have f6 := S0.ext E3
  have K7 := (Keep.refl h0 []).ext E3
  have f8 : Fld Z h3 b3 "java/lang/String" "value" "[B" .null := D3 (Or.inr (hw _ (List.mem_of_getElem? (i := 29) rfl))) (ty := (.array .byte)) (by decide)
  have f9 : Fld Z h3 b3 "java/lang/String" "coder" "B" (.int (0 : Int32)) := D3 (Or.inr (hw _ (List.mem_of_getElem? (i := 31) rfl))) (ty := .byte) (by decide)
  refine OGo.go (U' := T3.setTop (mkF m 16 #[.val (.int x1)] [(.ref b3)])) st3 ?_
  refine OGo.go (U' := T3.setTop (mkF m 17 #[.val (.int x1)] [(.ref b3), (.ref b3)])) (fun _ k => XS.dup X3.here hx rfl (hb hby d_vof_16) rfl rfl k) ?_
  refine OGo.go (U' := T3.setTop (mkF m 18 #[.val (.int x1)] [(.int x1), (.ref b3), (.ref b3)])) (fun _ k => XS.iloadN X3.here hx rfl (hb hby d_vof_17) rfl k) ?_
  refine OGo.callS X3 hx hZ (y := (⟨"java/lang/StringLatin1", "toBytes", "(C)[B"⟩ : MethodName)) hown (hw _ (List.mem_of_getElem? (i := 17) rfl)) (hw _ (List.mem_of_getElem? (i := 18) rfl)) (hw _ (List.mem_of_getElem? (i := 13) rfl)) (hw _ (List.mem_of_getElem? (i := 19) rfl)) (by decide) (g := (mkF m 18 #[.val (.int x1)] [(.int x1), (.ref b3), (.ref b3)])) (argsL := [(.int x1)]) (rest := [(.ref b3), (.ref b3)]) e3 (rm_tob l Z a0 hw x1 n0 h3 (Nat.le_trans Z0 E3.1)) rfl (by rw [hml]; rfl) (lenOf pd_3 rfl) rfl (W := 2) (by show 2 * 0 + _ ≤ _; exact Nat.le_of_eq rfl) (hb hby d_vof_18) (by decide) (by decide) (by decide) (by decide) ?_
  rintro _ T10 L10 X10 ⟨b10, k10, vs10, rfl, N10, K10, A10, gb10⟩
  have e10 : T10.heap = T10.heap := rfl
  have N11 := Fr.app (Fr.nil n0) N10
  have ne12 : b3 ≠ b10 := Nat.ne_of_lt (Nat.lt_of_lt_of_le A3.lt gb10)
  have g13 : n0 ≤ b10 := Nat.le_trans (Nat.le_trans Z0 E3.1) gb10
  have sz14 := Nat.le_trans K7.1 gb10
  have f15 := own_sta_keep f6 K10 all0
  have f16 := A3.keep K10
  have f17 := f8.keep K10 nin0
  have f18 := f9.keep K10 nin0
  have K19 := K7.trans K10 all0
  show OGo p e below _ (T10.setTop (mkF m 21 #[.val (.int x1)] [(.ref b10), (.ref b3), (.ref b3)]))
  refine OGo.go (U' := T10.setTop (mkF m 22 #[.val (.int x1)] [(.int (0 : Int32)), (.ref b10), (.ref b3), (.ref b3)])) (fun _ k => XS.iconst X10.here hx rfl (hb hby d_vof_21) k) ?_
  refine OGo.callI X10 hx hZ (y := (⟨"java/lang/String", "<init>", "([BB)V"⟩ : MethodName)) rfl hown (hw _ (List.mem_of_getElem? (i := 21) rfl)) (hw _ (List.mem_of_getElem? (i := 22) rfl)) (hw _ (List.mem_of_getElem? (i := 8) rfl)) (hw _ (List.mem_of_getElem? (i := 24) rfl)) (by decide) (g := (mkF m 22 #[.val (.int x1)] [(.int (0 : Int32)), (.ref b10), (.ref b3), (.ref b3)])) (a := b3) (argsL := [(.ref b10), (.int (0 : Int32))]) (rest := [(.ref b3)]) e10 (rm_si2 l Z a0 hw b3 b10 (0 : Int32) .null (.int (0 : Int32))  n0 T10.heap (Nat.le_trans (Nat.le_trans Z0 E3.1) K10.1) f16 f17 f18 g4) rfl (by rw [hml]; rfl) (lenOf pd_4 rfl) rfl (W := 1) (by show 2 * 0 + _ ≤ _; exact Nat.le_of_eq rfl) (hb hby d_vof_22) (by decide) (by decide) (by decide) (by decide) ?_
  rintro _ T20 L20 X20 ⟨rfl, N20, K20, Ea20, F20_0, F20_1⟩
  have e20 : T20.heap = T20.heap := rfl
  have N21 := Fr.app N11 N20
  have f22 := own_sta_keep f15 K20 (allS (P := fun x => ∀ cell : Cell, _ → cell.vm.isStatics = false) (own_plain f16) all0)
  have f23 := f16.keep K20
  have f24 := A10.keep K20 (ninS (Ne.symm ne12) nin0)
  have K25 := K19.trans K20 (allS (P := fun x => x ∈ _ ∨ _ ≤ x) (Or.inr sz5) all0)
  refine OGo.retA X20 hx hret hlk rfl rfl (hb hby d_vof_25) ?_ (by decide) (by decide)
  rw [e20]
  exact ⟨b3, rfl, N21, K25, ⟨Ea20, b10, k10, _, _, F20_0, f24, by decide⟩⟩
theorem d_cm5_0 : decode jdk_52_method_21_code 0 = .ok (.iconst 0, 1) := by decide +kernel
theorem d_cm5_1 : decode jdk_52_method_21_code 1 = .ok (.istore 5, 2) := by decide +kernel
theorem d_cm5_3 : decode jdk_52_method_21_code 3 = .ok (.iload 5, 2) := by decide +kernel
theorem d_cm5_5 : decode jdk_52_method_21_code 5 = .ok (.iload 4, 2) := by decide +kernel
theorem d_cm5_7 : decode jdk_52_method_21_code 7 = .ok (.if_icmp .ge 37, 3) := by decide +kernel
theorem d_cm5_10 : decode jdk_52_method_21_code 10 = .ok (.aload_n 0, 1) := by decide +kernel
theorem d_cm5_11 : decode jdk_52_method_21_code 11 = .ok (.iload_n 1, 1) := by decide +kernel
theorem d_cm5_12 : decode jdk_52_method_21_code 12 = .ok (.caload, 1) := by decide +kernel
theorem d_cm5_13 : decode jdk_52_method_21_code 13 = .ok (.istore 6, 2) := by decide +kernel
theorem d_cm5_15 : decode jdk_52_method_21_code 15 = .ok (.iload 6, 2) := by decide +kernel
theorem d_cm5_17 : decode jdk_52_method_21_code 17 = .ok (.sipush 255, 3) := by decide +kernel
theorem d_cm5_20 : decode jdk_52_method_21_code 20 = .ok (.if_icmp .le 6, 3) := by decide +kernel
theorem d_cm5_26 : decode jdk_52_method_21_code 26 = .ok (.aload_n 2, 1) := by decide +kernel
theorem d_cm5_27 : decode jdk_52_method_21_code 27 = .ok (.iload_n 3, 1) := by decide +kernel
theorem d_cm5_28 : decode jdk_52_method_21_code 28 = .ok (.iload 6, 2) := by decide +kernel
theorem d_cm5_30 : decode jdk_52_method_21_code 30 = .ok (.i2b, 1) := by decide +kernel
theorem d_cm5_31 : decode jdk_52_method_21_code 31 = .ok (.bastore, 1) := by decide +kernel
theorem d_cm5_32 : decode jdk_52_method_21_code 32 = .ok (.iinc 1 1, 3) := by decide +kernel
theorem d_cm5_35 : decode jdk_52_method_21_code 35 = .ok (.iinc 3 1, 3) := by decide +kernel
theorem d_cm5_38 : decode jdk_52_method_21_code 38 = .ok (.iinc 5 1, 3) := by decide +kernel
theorem d_cm5_41 : decode jdk_52_method_21_code 41 = .ok (.goto (-38), 3) := by decide +kernel
theorem d_cm5_44 : decode jdk_52_method_21_code 44 = .ok (.iload 4, 2) := by decide +kernel
theorem d_cm5_46 : decode jdk_52_method_21_code 46 = .ok (.ireturn, 1) := by decide +kernel
theorem ef_cm5 (m : MethodId) (c1 d1 : Addr) : entryFrame m #[(.ref c1), (.int (0 : Int32)), (.ref d1), (.int (0 : Int32)), (.int (2 : Int32))] 7 = mkF m 0 #[.val (.ref c1), .val (.int (0 : Int32)), .val (.ref d1), .val (.int (0 : Int32)), .val (.int (2 : Int32)), .unset, .unset] [] := by first | (simp [entryFrame, mkF, argsToLocals, Value.category]; done) | rfl
theorem pn_cm5 : plainFor (⟨"java/lang/StringUTF16", "compress", "([CI[BII)I"⟩ : MethodName) = true := by first | exact plainFor_of_name (by first | (simp [plainName, overriddenIn]; done) | decide +kernel) | decide +kernel
set_option maxRecDepth 65536 in
set_option maxHeartbeats 40000000 in
theorem rm_cm5 (l : Launch) (Z : State) (a0 : Array Value) (hw : ∀ d ∈ tables_1, d.before a0 Z = true) (c1 d1 : Addr) (kc kd : ClassId) (u0 u1 : Int32) (n0 : Nat) (h0 : Heap) (Z0 : n0 ≤ h0.size) (Ac : Arv Z h0 c1 kc .char 2 [.int u0, .int u1] (.int 0)) (hu0 : ¬ (255 : Int32) < u0) (hu1 : ¬ (255 : Int32) < u1) (Ad : Arv Z h0 d1 kd .byte 2 [.int 0, .int 0] (.int 0)) (hne : c1 ≠ d1) (gd : n0 ≤ d1) :
    OMet l Z (⟨"java/lang/StringUTF16", "compress", "([CI[BII)I"⟩ : MethodName) jdk_52_method_21_code 7 (some .int) [] ({ frames := 0, cells := 0, slots := 0, locals := 0 } : Room) #[(.ref c1), (.int (0 : Int32)), (.ref d1), (.int (0 : Int32)), (.int (2 : Int32))] h0 (fun v h L => v = some (.int 2) ∧ Fr n0 L ∧ Keep h0 h [d1] ∧ ∃ vs : List Value, Arv Z h d1 kd .byte 2 vs (.int 0)) := by
  refine OMet.of pn_cm5 ?_
  intro p e s m below meth c T0 X0 hx hby hml hown0 hnm hret hlk hZ e0
  have hown : s.vm.findClass "java/lang/StringUTF16" = some m.cls := hown0
  refine OGo.go (fun t k => castTop (ef_cm5 m c1 d1) k) ?_
  refine OGo.go (U' := T0.setTop (mkF m 1 #[.val (.ref c1), .val (.int (0 : Int32)), .val (.ref d1), .val (.int (0 : Int32)), .val (.int (2 : Int32)), .unset, .unset] [(.int (0 : Int32))])) (fun _ k => XS.iconst X0.here hx rfl (hb hby d_cm5_0) k) ?_
  refine OGo.go (U' := T0.setTop (mkF m 3 #[.val (.ref c1), .val (.int (0 : Int32)), .val (.ref d1), .val (.int (0 : Int32)), .val (.int (2 : Int32)), .val (.int (0 : Int32)), .unset] [])) (fun _ k => XS.istore X0.here hx rfl (hb hby d_cm5_1) rfl (l' := #[.val (.ref c1), .val (.int (0 : Int32)), .val (.ref d1), .val (.int (0 : Int32)), .val (.int (2 : Int32)), .val (.int (0 : Int32)), .unset]) rfl k) ?_
  refine OGo.go (U' := T0.setTop (mkF m 5 #[.val (.ref c1), .val (.int (0 : Int32)), .val (.ref d1), .val (.int (0 : Int32)), .val (.int (2 : Int32)), .val (.int (0 : Int32)), .unset] [(.int (0 : Int32))])) (fun _ k => XS.iload X0.here hx rfl (hb hby d_cm5_3) rfl k) ?_
  refine OGo.go (U' := T0.setTop (mkF m 7 #[.val (.ref c1), .val (.int (0 : Int32)), .val (.ref d1), .val (.int (0 : Int32)), .val (.int (2 : Int32)), .val (.int (0 : Int32)), .unset] [(.int (2 : Int32)), (.int (0 : Int32))])) (fun _ k => XS.iload X0.here hx rfl (hb hby d_cm5_5) rfl k) ?_
  refine OGo.go (U' := T0.setTop (mkF m 10 #[.val (.ref c1), .val (.int (0 : Int32)), .val (.ref d1), .val (.int (0 : Int32)), .val (.int (2 : Int32)), .val (.int (0 : Int32)), .unset] [])) (fun _ k => XS.icmpNo X0.here hx rfl (hb hby d_cm5_7) rfl (tlt (by decide)).2.1 k) ?_
  refine OGo.go (U' := T0.setTop (mkF m 11 #[.val (.ref c1), .val (.int (0 : Int32)), .val (.ref d1), .val (.int (0 : Int32)), .val (.int (2 : Int32)), .val (.int (0 : Int32)), .unset] [(.ref c1)])) (fun _ k => XS.aloadN X0.here hx rfl (hb hby d_cm5_10) rfl rfl k) ?_
  refine OGo.go (U' := T0.setTop (mkF m 12 #[.val (.ref c1), .val (.int (0 : Int32)), .val (.ref d1), .val (.int (0 : Int32)), .val (.int (2 : Int32)), .val (.int (0 : Int32)), .unset] [(.int (0 : Int32)), (.ref c1)])) (fun _ k => XS.iloadN X0.here hx rfl (hb hby d_cm5_11) rfl k) ?_
  refine OGo.go (U' := T0.setTop (mkF m 13 #[.val (.ref c1), .val (.int (0 : Int32)), .val (.ref d1), .val (.int (0 : Int32)), .val (.int (2 : Int32)), .val (.int (0 : Int32)), .unset] [(.int u0)])) (fun _ k => Arv.ldC X0 hx hZ e0 Ac (j := 0) ⟨by decide, by decide⟩ (v := (.int u0)) rfl (g := (mkF m 12 #[.val (.ref c1), .val (.int (0 : Int32)), .val (.ref d1), .val (.int (0 : Int32)), .val (.int (2 : Int32)), .val (.int (0 : Int32)), .unset] [(.int (0 : Int32)), (.ref c1)])) rfl rfl (hb hby d_cm5_12) _ k) ?_
  refine OGo.go (U' := T0.setTop (mkF m 15 #[.val (.ref c1), .val (.int (0 : Int32)), .val (.ref d1), .val (.int (0 : Int32)), .val (.int (2 : Int32)), .val (.int (0 : Int32)), .val (.int u0)] [])) (fun _ k => XS.istore X0.here hx rfl (hb hby d_cm5_13) rfl (l' := #[.val (.ref c1), .val (.int (0 : Int32)), .val (.ref d1), .val (.int (0 : Int32)), .val (.int (2 : Int32)), .val (.int (0 : Int32)), .val (.int u0)]) rfl k) ?_
  refine OGo.go (U' := T0.setTop (mkF m 17 #[.val (.ref c1), .val (.int (0 : Int32)), .val (.ref d1), .val (.int (0 : Int32)), .val (.int (2 : Int32)), .val (.int (0 : Int32)), .val (.int u0)] [(.int u0)])) (fun _ k => XS.iload X0.here hx rfl (hb hby d_cm5_15) rfl k) ?_
  refine OGo.go (U' := T0.setTop (mkF m 20 #[.val (.ref c1), .val (.int (0 : Int32)), .val (.ref d1), .val (.int (0 : Int32)), .val (.int (2 : Int32)), .val (.int (0 : Int32)), .val (.int u0)] [(.int (255 : Int32)), (.int u0)])) (fun _ k => XS.sipush X0.here hx rfl (hb hby d_cm5_17) k) ?_
  refine OGo.go (U' := T0.setTop (mkF m 26 #[.val (.ref c1), .val (.int (0 : Int32)), .val (.ref d1), .val (.int (0 : Int32)), .val (.int (2 : Int32)), .val (.int (0 : Int32)), .val (.int u0)] [])) (fun _ k => XS.icmpYes X0.here hx rfl (pc0 := 20) (pc' := 26) rfl (hb hby d_cm5_20) rfl (flt hu0).2.2.2 (by decide) (by decide) k) ?_
  refine OGo.go (U' := T0.setTop (mkF m 27 #[.val (.ref c1), .val (.int (0 : Int32)), .val (.ref d1), .val (.int (0 : Int32)), .val (.int (2 : Int32)), .val (.int (0 : Int32)), .val (.int u0)] [(.ref d1)])) (fun _ k => XS.aloadN X0.here hx rfl (hb hby d_cm5_26) rfl rfl k) ?_
  refine OGo.go (U' := T0.setTop (mkF m 28 #[.val (.ref c1), .val (.int (0 : Int32)), .val (.ref d1), .val (.int (0 : Int32)), .val (.int (2 : Int32)), .val (.int (0 : Int32)), .val (.int u0)] [(.int (0 : Int32)), (.ref d1)])) (fun _ k => XS.iloadN X0.here hx rfl (hb hby d_cm5_27) rfl k) ?_
  refine OGo.go (U' := T0.setTop (mkF m 30 #[.val (.ref c1), .val (.int (0 : Int32)), .val (.ref d1), .val (.int (0 : Int32)), .val (.int (2 : Int32)), .val (.int (0 : Int32)), .val (.int u0)] [(.int u0), (.int (0 : Int32)), (.ref d1)])) (fun _ k => XS.iload X0.here hx rfl (hb hby d_cm5_28) rfl k) ?_
  refine OGo.go (U' := T0.setTop (mkF m 31 #[.val (.ref c1), .val (.int (0 : Int32)), .val (.ref d1), .val (.int (0 : Int32)), .val (.int (2 : Int32)), .val (.int (0 : Int32)), .val (.int u0)] [(.int (u0.toInt8.toInt32)), (.int (0 : Int32)), (.ref d1)])) (fun _ k => XS.i2b X0.here hx rfl (hb hby d_cm5_30) rfl k) ?_
  obtain ⟨T2, h2, X2, e2, W2, V2, st2⟩ := Arv.stB' X0 hx hZ e0 Ad ⟨by decide, by decide⟩ 0 (by decide) (by simp) (g := (mkF m 31 #[.val (.ref c1), .val (.int (0 : Int32)), .val (.ref d1), .val (.int (0 : Int32)), .val (.int (2 : Int32)), .val (.int (0 : Int32)), .val (.int u0)] [(.int (u0.toInt8.toInt32)), (.int (0 : Int32)), (.ref d1)])) rfl rfl (hb hby d_cm5_31)
  have N3 := Fr.snoc X2 (Fr.nil n0) gd
  have f4 := Ac.other W2 hne
  have K5 := (Keep.refl h0 [d1]).wr W2 (Or.inl (List.mem_of_getElem? (i := 0) rfl))
  refine OGo.go (U' := T2.setTop (mkF m 32 #[.val (.ref c1), .val (.int (0 : Int32)), .val (.ref d1), .val (.int (0 : Int32)), .val (.int (2 : Int32)), .val (.int (0 : Int32)), .val (.int u0)] [])) st2 ?_
  refine OGo.go (U' := T2.setTop (mkF m 35 #[.val (.ref c1), .val (.int (1 : Int32)), .val (.ref d1), .val (.int (0 : Int32)), .val (.int (2 : Int32)), .val (.int (0 : Int32)), .val (.int u0)] [])) (fun _ k => XS.iinc X2.here hx rfl (hb hby d_cm5_32) rfl (l' := #[.val (.ref c1), .val (.int (1 : Int32)), .val (.ref d1), .val (.int (0 : Int32)), .val (.int (2 : Int32)), .val (.int (0 : Int32)), .val (.int u0)]) rfl k) ?_
  refine OGo.go (U' := T2.setTop (mkF m 38 #[.val (.ref c1), .val (.int (1 : Int32)), .val (.ref d1), .val (.int (1 : Int32)), .val (.int (2 : Int32)), .val (.int (0 : Int32)), .val (.int u0)] [])) (fun _ k => XS.iinc X2.here hx rfl (hb hby d_cm5_35) rfl (l' := #[.val (.ref c1), .val (.int (1 : Int32)), .val (.ref d1), .val (.int (1 : Int32)), .val (.int (2 : Int32)), .val (.int (0 : Int32)), .val (.int u0)]) rfl k) ?_
  refine OGo.go (U' := T2.setTop (mkF m 41 #[.val (.ref c1), .val (.int (1 : Int32)), .val (.ref d1), .val (.int (1 : Int32)), .val (.int (2 : Int32)), .val (.int (1 : Int32)), .val (.int u0)] [])) (fun _ k => XS.iinc X2.here hx rfl (hb hby d_cm5_38) rfl (l' := #[.val (.ref c1), .val (.int (1 : Int32)), .val (.ref d1), .val (.int (1 : Int32)), .val (.int (2 : Int32)), .val (.int (1 : Int32)), .val (.int u0)]) rfl k) ?_
  refine OGo.go (U' := T2.setTop (mkF m 3 #[.val (.ref c1), .val (.int (1 : Int32)), .val (.ref d1), .val (.int (1 : Int32)), .val (.int (2 : Int32)), .val (.int (1 : Int32)), .val (.int u0)] [])) (fun _ k => XS.goto X2.here hx rfl (pc0 := 41) (pc' := 3) rfl (hb hby d_cm5_41) (by decide) (by decide) k) ?_
  refine OGo.go (U' := T2.setTop (mkF m 5 #[.val (.ref c1), .val (.int (1 : Int32)), .val (.ref d1), .val (.int (1 : Int32)), .val (.int (2 : Int32)), .val (.int (1 : Int32)), .val (.int u0)] [(.int (1 : Int32))])) (fun _ k => XS.iload X2.here hx rfl (hb hby d_cm5_3) rfl k) ?_
  refine OGo.go (U' := T2.setTop (mkF m 7 #[.val (.ref c1), .val (.int (1 : Int32)), .val (.ref d1), .val (.int (1 : Int32)), .val (.int (2 : Int32)), .val (.int (1 : Int32)), .val (.int u0)] [(.int (2 : Int32)), (.int (1 : Int32))])) (fun _ k => XS.iload X2.here hx rfl (hb hby d_cm5_5) rfl k) ?_
  refine OGo.go (U' := T2.setTop (mkF m 10 #[.val (.ref c1), .val (.int (1 : Int32)), .val (.ref d1), .val (.int (1 : Int32)), .val (.int (2 : Int32)), .val (.int (1 : Int32)), .val (.int u0)] [])) (fun _ k => XS.icmpNo X2.here hx rfl (hb hby d_cm5_7) rfl (tlt (by decide)).2.1 k) ?_
  refine OGo.go (U' := T2.setTop (mkF m 11 #[.val (.ref c1), .val (.int (1 : Int32)), .val (.ref d1), .val (.int (1 : Int32)), .val (.int (2 : Int32)), .val (.int (1 : Int32)), .val (.int u0)] [(.ref c1)])) (fun _ k => XS.aloadN X2.here hx rfl (hb hby d_cm5_10) rfl rfl k) ?_
  refine OGo.go (U' := T2.setTop (mkF m 12 #[.val (.ref c1), .val (.int (1 : Int32)), .val (.ref d1), .val (.int (1 : Int32)), .val (.int (2 : Int32)), .val (.int (1 : Int32)), .val (.int u0)] [(.int (1 : Int32)), (.ref c1)])) (fun _ k => XS.iloadN X2.here hx rfl (hb hby d_cm5_11) rfl k) ?_
  refine OGo.go (U' := T2.setTop (mkF m 13 #[.val (.ref c1), .val (.int (1 : Int32)), .val (.ref d1), .val (.int (1 : Int32)), .val (.int (2 : Int32)), .val (.int (1 : Int32)), .val (.int u0)] [(.int u1)])) (fun _ k => Arv.ldC X2 hx hZ e2 f4 (j := 1) ⟨by decide, by decide⟩ (v := (.int u1)) rfl (g := (mkF m 12 #[.val (.ref c1), .val (.int (1 : Int32)), .val (.ref d1), .val (.int (1 : Int32)), .val (.int (2 : Int32)), .val (.int (1 : Int32)), .val (.int u0)] [(.int (1 : Int32)), (.ref c1)])) rfl rfl (hb hby d_cm5_12) _ k) ?_
  refine OGo.go (U' := T2.setTop (mkF m 15 #[.val (.ref c1), .val (.int (1 : Int32)), .val (.ref d1), .val (.int (1 : Int32)), .val (.int (2 : Int32)), .val (.int (1 : Int32)), .val (.int u1)] [])) (fun _ k => XS.istore X2.here hx rfl (hb hby d_cm5_13) rfl (l' := #[.val (.ref c1), .val (.int (1 : Int32)), .val (.ref d1), .val (.int (1 : Int32)), .val (.int (2 : Int32)), .val (.int (1 : Int32)), .val (.int u1)]) rfl k) ?_
  refine OGo.go (U' := T2.setTop (mkF m 17 #[.val (.ref c1), .val (.int (1 : Int32)), .val (.ref d1), .val (.int (1 : Int32)), .val (.int (2 : Int32)), .val (.int (1 : Int32)), .val (.int u1)] [(.int u1)])) (fun _ k => XS.iload X2.here hx rfl (hb hby d_cm5_15) rfl k) ?_
  refine OGo.go (U' := T2.setTop (mkF m 20 #[.val (.ref c1), .val (.int (1 : Int32)), .val (.ref d1), .val (.int (1 : Int32)), .val (.int (2 : Int32)), .val (.int (1 : Int32)), .val (.int u1)] [(.int (255 : Int32)), (.int u1)])) (fun _ k => XS.sipush X2.here hx rfl (hb hby d_cm5_17) k) ?_
  refine OGo.go (U' := T2.setTop (mkF m 26 #[.val (.ref c1), .val (.int (1 : Int32)), .val (.ref d1), .val (.int (1 : Int32)), .val (.int (2 : Int32)), .val (.int (1 : Int32)), .val (.int u1)] [])) (fun _ k => XS.icmpYes X2.here hx rfl (pc0 := 20) (pc' := 26) rfl (hb hby d_cm5_20) rfl (flt hu1).2.2.2 (by decide) (by decide) k) ?_
  refine OGo.go (U' := T2.setTop (mkF m 27 #[.val (.ref c1), .val (.int (1 : Int32)), .val (.ref d1), .val (.int (1 : Int32)), .val (.int (2 : Int32)), .val (.int (1 : Int32)), .val (.int u1)] [(.ref d1)])) (fun _ k => XS.aloadN X2.here hx rfl (hb hby d_cm5_26) rfl rfl k) ?_
  refine OGo.go (U' := T2.setTop (mkF m 28 #[.val (.ref c1), .val (.int (1 : Int32)), .val (.ref d1), .val (.int (1 : Int32)), .val (.int (2 : Int32)), .val (.int (1 : Int32)), .val (.int u1)] [(.int (1 : Int32)), (.ref d1)])) (fun _ k => XS.iloadN X2.here hx rfl (hb hby d_cm5_27) rfl k) ?_
  refine OGo.go (U' := T2.setTop (mkF m 30 #[.val (.ref c1), .val (.int (1 : Int32)), .val (.ref d1), .val (.int (1 : Int32)), .val (.int (2 : Int32)), .val (.int (1 : Int32)), .val (.int u1)] [(.int u1), (.int (1 : Int32)), (.ref d1)])) (fun _ k => XS.iload X2.here hx rfl (hb hby d_cm5_28) rfl k) ?_
  refine OGo.go (U' := T2.setTop (mkF m 31 #[.val (.ref c1), .val (.int (1 : Int32)), .val (.ref d1), .val (.int (1 : Int32)), .val (.int (2 : Int32)), .val (.int (1 : Int32)), .val (.int u1)] [(.int (u1.toInt8.toInt32)), (.int (1 : Int32)), (.ref d1)])) (fun _ k => XS.i2b X2.here hx rfl (hb hby d_cm5_30) rfl k) ?_
  obtain ⟨T7, h7, X7, e7, W7, V7, st7⟩ := Arv.stB' X2 hx hZ e2 V2 ⟨by decide, by decide⟩ 1 (by decide) (by simp) (g := (mkF m 31 #[.val (.ref c1), .val (.int (1 : Int32)), .val (.ref d1), .val (.int (1 : Int32)), .val (.int (2 : Int32)), .val (.int (1 : Int32)), .val (.int u1)] [(.int (u1.toInt8.toInt32)), (.int (1 : Int32)), (.ref d1)])) rfl rfl (hb hby d_cm5_31)
  have N8 := Fr.snoc X7 N3 gd
  have f9 := f4.other W7 hne
  have K10 := K5.wr W7 (Or.inl (List.mem_of_getElem? (i := 0) rfl))
  refine OGo.go (U' := T7.setTop (mkF m 32 #[.val (.ref c1), .val (.int (1 : Int32)), .val (.ref d1), .val (.int (1 : Int32)), .val (.int (2 : Int32)), .val (.int (1 : Int32)), .val (.int u1)] [])) st7 ?_
  refine OGo.go (U' := T7.setTop (mkF m 35 #[.val (.ref c1), .val (.int (2 : Int32)), .val (.ref d1), .val (.int (1 : Int32)), .val (.int (2 : Int32)), .val (.int (1 : Int32)), .val (.int u1)] [])) (fun _ k => XS.iinc X7.here hx rfl (hb hby d_cm5_32) rfl (l' := #[.val (.ref c1), .val (.int (2 : Int32)), .val (.ref d1), .val (.int (1 : Int32)), .val (.int (2 : Int32)), .val (.int (1 : Int32)), .val (.int u1)]) rfl k) ?_
  refine OGo.go (U' := T7.setTop (mkF m 38 #[.val (.ref c1), .val (.int (2 : Int32)), .val (.ref d1), .val (.int (2 : Int32)), .val (.int (2 : Int32)), .val (.int (1 : Int32)), .val (.int u1)] [])) (fun _ k => XS.iinc X7.here hx rfl (hb hby d_cm5_35) rfl (l' := #[.val (.ref c1), .val (.int (2 : Int32)), .val (.ref d1), .val (.int (2 : Int32)), .val (.int (2 : Int32)), .val (.int (1 : Int32)), .val (.int u1)]) rfl k) ?_
  refine OGo.go (U' := T7.setTop (mkF m 41 #[.val (.ref c1), .val (.int (2 : Int32)), .val (.ref d1), .val (.int (2 : Int32)), .val (.int (2 : Int32)), .val (.int (2 : Int32)), .val (.int u1)] [])) (fun _ k => XS.iinc X7.here hx rfl (hb hby d_cm5_38) rfl (l' := #[.val (.ref c1), .val (.int (2 : Int32)), .val (.ref d1), .val (.int (2 : Int32)), .val (.int (2 : Int32)), .val (.int (2 : Int32)), .val (.int u1)]) rfl k) ?_
  refine OGo.go (U' := T7.setTop (mkF m 3 #[.val (.ref c1), .val (.int (2 : Int32)), .val (.ref d1), .val (.int (2 : Int32)), .val (.int (2 : Int32)), .val (.int (2 : Int32)), .val (.int u1)] [])) (fun _ k => XS.goto X7.here hx rfl (pc0 := 41) (pc' := 3) rfl (hb hby d_cm5_41) (by decide) (by decide) k) ?_
  refine OGo.go (U' := T7.setTop (mkF m 5 #[.val (.ref c1), .val (.int (2 : Int32)), .val (.ref d1), .val (.int (2 : Int32)), .val (.int (2 : Int32)), .val (.int (2 : Int32)), .val (.int u1)] [(.int (2 : Int32))])) (fun _ k => XS.iload X7.here hx rfl (hb hby d_cm5_3) rfl k) ?_
  refine OGo.go (U' := T7.setTop (mkF m 7 #[.val (.ref c1), .val (.int (2 : Int32)), .val (.ref d1), .val (.int (2 : Int32)), .val (.int (2 : Int32)), .val (.int (2 : Int32)), .val (.int u1)] [(.int (2 : Int32)), (.int (2 : Int32))])) (fun _ k => XS.iload X7.here hx rfl (hb hby d_cm5_5) rfl k) ?_
  refine OGo.go (U' := T7.setTop (mkF m 44 #[.val (.ref c1), .val (.int (2 : Int32)), .val (.ref d1), .val (.int (2 : Int32)), .val (.int (2 : Int32)), .val (.int (2 : Int32)), .val (.int u1)] [])) (fun _ k => XS.icmpYes X7.here hx rfl (pc0 := 7) (pc' := 44) rfl (hb hby d_cm5_7) rfl (flt (by decide)).2.1 (by decide) (by decide) k) ?_
  refine OGo.go (U' := T7.setTop (mkF m 46 #[.val (.ref c1), .val (.int (2 : Int32)), .val (.ref d1), .val (.int (2 : Int32)), .val (.int (2 : Int32)), .val (.int (2 : Int32)), .val (.int u1)] [(.int (2 : Int32))])) (fun _ k => XS.iload X7.here hx rfl (hb hby d_cm5_44) rfl k) ?_
  refine OGo.retI X7 hx hret hlk (hb hby d_cm5_46) ?_ (by decide) (by decide)
  rw [e7]
  exact ⟨rfl, N8, K10, _, V7⟩
theorem d_cm3_0 : decode jdk_52_method_16_code 0 = .ok (.iload_n 2, 1) := by decide +kernel
theorem d_cm3_1 : decode jdk_52_method_16_code 1 = .ok (.newarray .byte, 2) := by decide +kernel
theorem d_cm3_3 : decode jdk_52_method_16_code 3 = .ok (.astore_n 3, 1) := by decide +kernel
theorem d_cm3_4 : decode jdk_52_method_16_code 4 = .ok (.aload_n 0, 1) := by decide +kernel
theorem d_cm3_5 : decode jdk_52_method_16_code 5 = .ok (.iload_n 1, 1) := by decide +kernel
theorem d_cm3_6 : decode jdk_52_method_16_code 6 = .ok (.aload_n 3, 1) := by decide +kernel
theorem d_cm3_7 : decode jdk_52_method_16_code 7 = .ok (.iconst 0, 1) := by decide +kernel
theorem d_cm3_8 : decode jdk_52_method_16_code 8 = .ok (.iload_n 2, 1) := by decide +kernel
theorem d_cm3_9 : decode jdk_52_method_16_code 9 = .ok (.invokestatic 115, 3) := by decide +kernel
theorem d_cm3_12 : decode jdk_52_method_16_code 12 = .ok (.istore 4, 2) := by decide +kernel
theorem d_cm3_14 : decode jdk_52_method_16_code 14 = .ok (.iload 4, 2) := by decide +kernel
theorem d_cm3_16 : decode jdk_52_method_16_code 16 = .ok (.iload_n 2, 1) := by decide +kernel
theorem d_cm3_17 : decode jdk_52_method_16_code 17 = .ok (.if_icmp .eq 40, 3) := by decide +kernel
theorem d_cm3_57 : decode jdk_52_method_16_code 57 = .ok (.aload_n 3, 1) := by decide +kernel
theorem d_cm3_58 : decode jdk_52_method_16_code 58 = .ok (.areturn, 1) := by decide +kernel
theorem ef_cm3 (m : MethodId) (c1 : Addr) : entryFrame m #[(.ref c1), (.int (0 : Int32)), (.int (2 : Int32))] 6 = mkF m 0 #[.val (.ref c1), .val (.int (0 : Int32)), .val (.int (2 : Int32)), .unset, .unset, .unset] [] := by first | (simp [entryFrame, mkF, argsToLocals, Value.category]; done) | rfl
theorem pn_cm3 : plainFor (⟨"java/lang/StringUTF16", "compress", "([CII)[B"⟩ : MethodName) = true := by first | exact plainFor_of_name (by first | (simp [plainName, overriddenIn]; done) | decide +kernel) | decide +kernel
set_option maxRecDepth 65536 in
set_option maxHeartbeats 40000000 in
theorem rm_cm3 (l : Launch) (Z : State) (a0 : Array Value) (hw : ∀ d ∈ tables_1, d.before a0 Z = true) (c1 : Addr) (kc : ClassId) (u0 u1 : Int32) (n0 : Nat) (h0 : Heap) (Z0 : n0 ≤ h0.size) (Ac : Arv Z h0 c1 kc .char 2 [.int u0, .int u1] (.int 0)) (hu0 : ¬ (255 : Int32) < u0) (hu1 : ¬ (255 : Int32) < u1) :
    OMet l Z (⟨"java/lang/StringUTF16", "compress", "([CII)[B"⟩ : MethodName) jdk_52_method_16_code 6 (some (.array .byte)) [] ({ frames := 1, cells := 1, slots := 2, locals := 18 } : Room) #[(.ref c1), (.int (0 : Int32)), (.int (2 : Int32))] h0 (fun v h L => ∃ (b : Addr) (k : ClassId) (vs : List Value), v = some (.ref b) ∧ Fr n0 L ∧ Keep h0 h [] ∧ Arv Z h b k .byte 2 vs (.int 0) ∧ h0.size ≤ b) := by
  refine OMet.of pn_cm3 ?_
  intro p e s m below meth c T0 X0 hx hby hml hown0 hnm hret hlk hZ e0
  have hown : s.vm.findClass "java/lang/StringUTF16" = some m.cls := hown0
  refine OGo.go (fun t k => castTop (ef_cm3 m c1) k) ?_
  refine OGo.go (U' := T0.setTop (mkF m 1 #[.val (.ref c1), .val (.int (0 : Int32)), .val (.int (2 : Int32)), .unset, .unset, .unset] [(.int (2 : Int32))])) (fun _ k => XS.iloadN X0.here hx rfl (hb hby d_cm3_0) rfl k) ?_
  obtain ⟨T1, h1, k1, X1, e1, E1, A1, st1⟩ := newP X0 hx hZ (hw _ (List.mem_of_getElem? (i := 20) rfl)) e0 (g := (mkF m 1 #[.val (.ref c1), .val (.int (0 : Int32)), .val (.int (2 : Int32)), .unset, .unset, .unset] [(.int (2 : Int32))])) rfl (hb hby d_cm3_1) rfl (n := 2) (by decide) (cap := 2) (by decide) (by decide) (by decide) (by decide)
  obtain ⟨b1, gb1⟩ : ∃ z, z = h0.size := ⟨_, rfl⟩
  rw [← gb1] at A1 st1
  have ne2 : c1 ≠ b1 := Nat.ne_of_lt (Nat.lt_of_lt_of_le Ac.lt (Nat.le_of_eq gb1.symm))
  have g3 : n0 ≤ b1 := Nat.le_trans Z0 (Nat.le_of_eq gb1.symm)
  have sz4 := Nat.le_trans (Keep.refl h0 []).1 (Nat.le_of_eq gb1.symm)
  have f5 := Ac.ext E1
  have K6 := (Keep.refl h0 []).ext E1
  have V1 : Arv Z h1 b1 k1 .byte 2 [(.int (0 : Int32)), (.int (0 : Int32))] (.int (0 : Int32)) := (Arv.new A1 (by decide)).pad (pad_rep [] _ 2)
  refine OGo.go (U' := T1.setTop (mkF m 3 #[.val (.ref c1), .val (.int (0 : Int32)), .val (.int (2 : Int32)), .unset, .unset, .unset] [(.ref b1)])) st1 ?_
  refine OGo.go (U' := T1.setTop (mkF m 4 #[.val (.ref c1), .val (.int (0 : Int32)), .val (.int (2 : Int32)), .val (.ref b1), .unset, .unset] [])) (fun _ k => XS.astoreN X1.here hx rfl (hb hby d_cm3_3) rfl rfl (l' := #[.val (.ref c1), .val (.int (0 : Int32)), .val (.int (2 : Int32)), .val (.ref b1), .unset, .unset]) rfl k) ?_
  refine OGo.go (U' := T1.setTop (mkF m 5 #[.val (.ref c1), .val (.int (0 : Int32)), .val (.int (2 : Int32)), .val (.ref b1), .unset, .unset] [(.ref c1)])) (fun _ k => XS.aloadN X1.here hx rfl (hb hby d_cm3_4) rfl rfl k) ?_
  refine OGo.go (U' := T1.setTop (mkF m 6 #[.val (.ref c1), .val (.int (0 : Int32)), .val (.int (2 : Int32)), .val (.ref b1), .unset, .unset] [(.int (0 : Int32)), (.ref c1)])) (fun _ k => XS.iloadN X1.here hx rfl (hb hby d_cm3_5) rfl k) ?_
  refine OGo.go (U' := T1.setTop (mkF m 7 #[.val (.ref c1), .val (.int (0 : Int32)), .val (.int (2 : Int32)), .val (.ref b1), .unset, .unset] [(.ref b1), (.int (0 : Int32)), (.ref c1)])) (fun _ k => XS.aloadN X1.here hx rfl (hb hby d_cm3_6) rfl rfl k) ?_
  refine OGo.go (U' := T1.setTop (mkF m 8 #[.val (.ref c1), .val (.int (0 : Int32)), .val (.int (2 : Int32)), .val (.ref b1), .unset, .unset] [(.int (0 : Int32)), (.ref b1), (.int (0 : Int32)), (.ref c1)])) (fun _ k => XS.iconst X1.here hx rfl (hb hby d_cm3_7) k) ?_
  refine OGo.go (U' := T1.setTop (mkF m 9 #[.val (.ref c1), .val (.int (0 : Int32)), .val (.int (2 : Int32)), .val (.ref b1), .unset, .unset] [(.int (2 : Int32)), (.int (0 : Int32)), (.ref b1), (.int (0 : Int32)), (.ref c1)])) (fun _ k => XS.iloadN X1.here hx rfl (hb hby d_cm3_8) rfl k) ?_
  refine OGo.callS X1 hx hZ (y := (⟨"java/lang/StringUTF16", "compress", "([CI[BII)I"⟩ : MethodName)) hown (hw _ (List.mem_of_getElem? (i := 82) rfl)) (hw _ (List.mem_of_getElem? (i := 83) rfl)) (hw _ (List.mem_of_getElem? (i := 80) rfl)) (hw _ (List.mem_of_getElem? (i := 84) rfl)) (by decide) (g := (mkF m 9 #[.val (.ref c1), .val (.int (0 : Int32)), .val (.int (2 : Int32)), .val (.ref b1), .unset, .unset] [(.int (2 : Int32)), (.int (0 : Int32)), (.ref b1), (.int (0 : Int32)), (.ref c1)])) (argsL := [(.ref c1), (.int (0 : Int32)), (.ref b1), (.int (0 : Int32)), (.int (2 : Int32))]) (rest := []) e1 (rm_cm5 l Z a0 hw c1 b1 kc k1 u0 u1 n0 h1 (Nat.le_trans Z0 E1.1) f5 hu0 hu1 V1 ne2 g3) rfl (by rw [hml]; rfl) (lenOf pd_5 rfl) rfl (W := 0) (by show 2 * 0 + _ ≤ _; exact Nat.le_of_eq rfl) (hb hby d_cm3_9) (by decide) (by decide) (by decide) (by decide) ?_
  rintro _ T7 L7 X7 ⟨rfl, N7, K7, vs7, A7⟩
  have e7 : T7.heap = T7.heap := rfl
  have N8 := Fr.app (Fr.nil n0) N7
  have f9 := f5.keep K7 (ninS ne2 nin0)
  have K10 := K6.trans K7 (allS (P := fun x => x ∈ _ ∨ _ ≤ x) (Or.inr sz4) all0)
  show OGo p e below _ (T7.setTop (mkF m 12 #[.val (.ref c1), .val (.int (0 : Int32)), .val (.int (2 : Int32)), .val (.ref b1), .unset, .unset] [(.int (2 : Int32))]))
  refine OGo.go (U' := T7.setTop (mkF m 14 #[.val (.ref c1), .val (.int (0 : Int32)), .val (.int (2 : Int32)), .val (.ref b1), .val (.int (2 : Int32)), .unset] [])) (fun _ k => XS.istore X7.here hx rfl (hb hby d_cm3_12) rfl (l' := #[.val (.ref c1), .val (.int (0 : Int32)), .val (.int (2 : Int32)), .val (.ref b1), .val (.int (2 : Int32)), .unset]) rfl k) ?_
  refine OGo.go (U' := T7.setTop (mkF m 16 #[.val (.ref c1), .val (.int (0 : Int32)), .val (.int (2 : Int32)), .val (.ref b1), .val (.int (2 : Int32)), .unset] [(.int (2 : Int32))])) (fun _ k => XS.iload X7.here hx rfl (hb hby d_cm3_14) rfl k) ?_
  refine OGo.go (U' := T7.setTop (mkF m 17 #[.val (.ref c1), .val (.int (0 : Int32)), .val (.int (2 : Int32)), .val (.ref b1), .val (.int (2 : Int32)), .unset] [(.int (2 : Int32)), (.int (2 : Int32))])) (fun _ k => XS.iloadN X7.here hx rfl (hb hby d_cm3_16) rfl k) ?_
  refine OGo.go (U' := T7.setTop (mkF m 57 #[.val (.ref c1), .val (.int (0 : Int32)), .val (.int (2 : Int32)), .val (.ref b1), .val (.int (2 : Int32)), .unset] [])) (fun _ k => XS.icmpYes X7.here hx rfl (pc0 := 17) (pc' := 57) rfl (hb hby d_cm3_17) rfl (teq rfl).1 (by decide) (by decide) k) ?_
  refine OGo.go (U' := T7.setTop (mkF m 58 #[.val (.ref c1), .val (.int (0 : Int32)), .val (.int (2 : Int32)), .val (.ref b1), .val (.int (2 : Int32)), .unset] [(.ref b1)])) (fun _ k => XS.aloadN X7.here hx rfl (hb hby d_cm3_57) rfl rfl k) ?_
  refine OGo.retA X7 hx hret hlk rfl rfl (hb hby d_cm3_58) ?_ (by decide) (by decide)
  rw [e7]
  exact ⟨b1, k1, _, rfl, N8, K10, A7, sz4⟩
theorem d_cfa_0 : decode jdk_52_method_15_code 0 = .ok (.iload_n 1, 1) := by decide +kernel
theorem d_cfa_1 : decode jdk_52_method_15_code 1 = .ok (.aload_n 0, 1) := by decide +kernel
theorem d_cfa_2 : decode jdk_52_method_15_code 2 = .ok (.arraylength, 1) := by decide +kernel
theorem d_cfa_3 : decode jdk_52_method_15_code 3 = .ok (.isub, 1) := by decide +kernel
theorem d_cfa_4 : decode jdk_52_method_15_code 4 = .ok (.bipush 31, 2) := by decide +kernel
theorem d_cfa_6 : decode jdk_52_method_15_code 6 = .ok (.iushr, 1) := by decide +kernel
theorem d_cfa_7 : decode jdk_52_method_15_code 7 = .ok (.i2b, 1) := by decide +kernel
theorem d_cfa_8 : decode jdk_52_method_15_code 8 = .ok (.ireturn, 1) := by decide +kernel
theorem ef_cfa (m : MethodId) (b1 : Addr) : entryFrame m #[(.ref b1), (.int (2 : Int32))] 2 = mkF m 0 #[.val (.ref b1), .val (.int (2 : Int32))] [] := by first | (simp [entryFrame, mkF, argsToLocals, Value.category]; done) | rfl
theorem pn_cfa : plainFor (⟨"java/lang/StringUTF16", "coderFromArrayLen", "([BI)B"⟩ : MethodName) = true := by first | exact plainFor_of_name (by first | (simp [plainName, overriddenIn]; done) | decide +kernel) | decide +kernel
set_option maxRecDepth 65536 in
set_option maxHeartbeats 40000000 in
theorem rm_cfa (l : Launch) (Z : State) (a0 : Array Value) (hw : ∀ d ∈ tables_1, d.before a0 Z = true) (b1 : Addr) (kd : ClassId) (vs : List Value) (h0 : Heap) (A1 : Arv Z h0 b1 kd .byte 2 vs (.int 0)) :
    OMet l Z (⟨"java/lang/StringUTF16", "coderFromArrayLen", "([BI)B"⟩ : MethodName) jdk_52_method_15_code 2 (some .byte) [] ({ frames := 0, cells := 0, slots := 0, locals := 0 } : Room) #[(.ref b1), (.int (2 : Int32))] h0 (OPure (some (.int 0)) h0) := by
  refine OMet.of pn_cfa ?_
  intro p e s m below meth c T0 X0 hx hby hml hown0 hnm hret hlk hZ e0
  have hown : s.vm.findClass "java/lang/StringUTF16" = some m.cls := hown0
  refine OGo.go (fun t k => castTop (ef_cfa m b1) k) ?_
  refine OGo.go (U' := T0.setTop (mkF m 1 #[.val (.ref b1), .val (.int (2 : Int32))] [(.int (2 : Int32))])) (fun _ k => XS.iloadN X0.here hx rfl (hb hby d_cfa_0) rfl k) ?_
  refine OGo.go (U' := T0.setTop (mkF m 2 #[.val (.ref b1), .val (.int (2 : Int32))] [(.ref b1), (.int (2 : Int32))])) (fun _ k => XS.aloadN X0.here hx rfl (hb hby d_cfa_1) rfl rfl k) ?_
  refine OGo.go (U' := T0.setTop (mkF m 3 #[.val (.ref b1), .val (.int (2 : Int32))] [(.int (2 : Int32)), (.int (2 : Int32))])) (fun _ k => Arv.len' X0 hx hZ e0 A1 (g := (mkF m 2 #[.val (.ref b1), .val (.int (2 : Int32))] [(.ref b1), (.int (2 : Int32))])) rfl rfl (hb hby d_cfa_2) _ k) ?_
  refine OGo.go (U' := T0.setTop (mkF m 4 #[.val (.ref b1), .val (.int (2 : Int32))] [(.int ((2 : Int32) - (2 : Int32)))])) (fun _ k => XS.isub X0.here hx rfl (hb hby d_cfa_3) rfl k) ?_
  refine OGo.go (U' := T0.setTop (mkF m 6 #[.val (.ref b1), .val (.int (2 : Int32))] [(.int (31 : Int32)), (.int ((2 : Int32) - (2 : Int32)))])) (fun _ k => XS.bipush X0.here hx rfl (hb hby d_cfa_4) k) ?_
  refine OGo.go (U' := T0.setTop (mkF m 7 #[.val (.ref b1), .val (.int (2 : Int32))] [(.int ((((2 : Int32) - (2 : Int32)).toUInt32 >>> ((31 : Int32) &&& 31).toUInt32).toInt32))])) (fun _ k => XS.iushr X0.here hx rfl (hb hby d_cfa_6) rfl k) ?_
  refine OGo.go (U' := T0.setTop (mkF m 8 #[.val (.ref b1), .val (.int (2 : Int32))] [(.int (((((2 : Int32) - (2 : Int32)).toUInt32 >>> ((31 : Int32) &&& 31).toUInt32).toInt32).toInt8.toInt32))])) (fun _ k => XS.i2b X0.here hx rfl (hb hby d_cfa_7) rfl k) ?_
  refine OGo.retN X0 hx (t := .byte) hret hlk (by simp) (hb hby d_cfa_8) ?_ (by decide) (by decide)
  exact ⟨congrArg (fun z => some (Value.int z)) (by decide), e0, rfl⟩
theorem d_si4_0 : decode jdk_42_method_149_code 0 = .ok (.aload_n 0, 1) := by decide +kernel
theorem d_si4_1 : decode jdk_42_method_149_code 1 = .ok (.invokespecial 1, 3) := by decide +kernel
theorem d_si4_4 : decode jdk_42_method_149_code 4 = .ok (.iload_n 3, 1) := by decide +kernel
theorem d_si4_5 : decode jdk_42_method_149_code 5 = .ok (.ifCond .ne 22, 3) := by decide +kernel
theorem d_si4_27 : decode jdk_42_method_149_code 27 = .ok (.getstatic 38, 3) := by decide +kernel
theorem d_si4_30 : decode jdk_42_method_149_code 30 = .ok (.ifCond .eq 28, 3) := by decide +kernel
theorem d_si4_33 : decode jdk_42_method_149_code 33 = .ok (.aload_n 1, 1) := by decide +kernel
theorem d_si4_34 : decode jdk_42_method_149_code 34 = .ok (.iload_n 2, 1) := by decide +kernel
theorem d_si4_35 : decode jdk_42_method_149_code 35 = .ok (.iload_n 3, 1) := by decide +kernel
theorem d_si4_36 : decode jdk_42_method_149_code 36 = .ok (.invokestatic 177, 3) := by decide +kernel
theorem d_si4_39 : decode jdk_42_method_149_code 39 = .ok (.astore 5, 2) := by decide +kernel
theorem d_si4_41 : decode jdk_42_method_149_code 41 = .ok (.aload_n 0, 1) := by decide +kernel
theorem d_si4_42 : decode jdk_42_method_149_code 42 = .ok (.aload 5, 2) := by decide +kernel
theorem d_si4_44 : decode jdk_42_method_149_code 44 = .ok (.iload_n 3, 1) := by decide +kernel
theorem d_si4_45 : decode jdk_42_method_149_code 45 = .ok (.invokestatic 47, 3) := by decide +kernel
theorem d_si4_48 : decode jdk_42_method_149_code 48 = .ok (.putfield 15, 3) := by decide +kernel
theorem d_si4_51 : decode jdk_42_method_149_code 51 = .ok (.aload_n 0, 1) := by decide +kernel
theorem d_si4_52 : decode jdk_42_method_149_code 52 = .ok (.aload 5, 2) := by decide +kernel
theorem d_si4_54 : decode jdk_42_method_149_code 54 = .ok (.putfield 9, 3) := by decide +kernel
theorem d_si4_57 : decode jdk_42_method_149_code 57 = .ok (.return_, 1) := by decide +kernel
theorem ef_si4 (m : MethodId) (a1 c1 : Addr) : entryFrame m #[(.ref a1), (.ref c1), (.int (0 : Int32)), (.int (2 : Int32)), .null] 6 = mkF m 0 #[.val (.ref a1), .val (.ref c1), .val (.int (0 : Int32)), .val (.int (2 : Int32)), .val .null, .unset] [] := by first | (simp [entryFrame, mkF, argsToLocals, Value.category]; done) | rfl
theorem pn_si4 : plainFor (⟨"java/lang/String", "<init>", "([CIILjava/lang/Void;)V"⟩ : MethodName) = true := by first | exact plainFor_of_name (by first | (simp [plainName, overriddenIn]; done) | decide +kernel) | decide +kernel
set_option maxRecDepth 65536 in
set_option maxHeartbeats 40000000 in
theorem rm_si4 (l : Launch) (Z : State) (a0 : Array Value) (hw : ∀ d ∈ tables_1, d.before a0 Z = true) (a1 c1 : Addr) (u_value u_coder : Value) (kc : ClassId) (u0 u1 : Int32) (cs : Int32) (n0 : Nat) (h0 : Heap) (Z0 : n0 ≤ h0.size) (E0 : Exa Z h0 a1 "java/lang/String") (F_value : Fld Z h0 a1 "java/lang/String" "value" "[B" u_value) (F_coder : Fld Z h0 a1 "java/lang/String" "coder" "B" u_coder) (g0 : n0 ≤ a1) (hne : a1 ≠ c1) (Ac : Arv Z h0 c1 kc .char 2 [.int u0, .int u1] (.int 0)) (hu0 : ¬ (255 : Int32) < u0) (hu1 : ¬ (255 : Int32) < u1) (S0 : Sta Z h0 "java/lang/String" "COMPACT_STRINGS" "Z" (.int cs)) (hcs : ¬ cs = 0) :
    OMet l Z (⟨"java/lang/String", "<init>", "([CIILjava/lang/Void;)V"⟩ : MethodName) jdk_42_method_149_code 6 none [] ({ frames := 2, cells := 1, slots := 2, locals := 38 } : Room) #[(.ref a1), (.ref c1), (.int (0 : Int32)), (.int (2 : Int32)), .null] h0 (fun v h L => v = none ∧ Fr n0 L ∧ Keep h0 h [a1] ∧ OStr Z h a1) := by
  refine OMet.of pn_si4 ?_
  intro p e s m below meth c T0 X0 hx hby hml hown0 hnm hret hlk hZ e0
  have hown : s.vm.findClass "java/lang/String" = some m.cls := hown0
  refine OGo.go (fun t k => castTop (ef_si4 m a1 c1) k) ?_
  refine OGo.go (U' := T0.setTop (mkF m 1 #[.val (.ref a1), .val (.ref c1), .val (.int (0 : Int32)), .val (.int (2 : Int32)), .val .null, .unset] [(.ref a1)])) (fun _ k => XS.aloadN X0.here hx rfl (hb hby d_si4_0) rfl rfl k) ?_
  obtain ⟨T1, X1, e1, st1⟩ := initO X0 hx hZ hown (hw _ (List.mem_of_getElem? (i := 25) rfl)) (hw _ (List.mem_of_getElem? (i := 26) rfl)) (hw _ (List.mem_of_getElem? (i := 27) rfl)) e0 (g := (mkF m 1 #[.val (.ref a1), .val (.ref c1), .val (.int (0 : Int32)), .val (.int (2 : Int32)), .val .null, .unset] [(.ref a1)])) rfl (by rw [hml]; rfl) rfl (hb hby d_si4_1) (by decide) (W := 0) (by show 2 * 0 + _ ≤ _; exact Nat.le_of_eq rfl) (by decide)
  refine OGo.go (U' := T1.setTop (mkF m 4 #[.val (.ref a1), .val (.ref c1), .val (.int (0 : Int32)), .val (.int (2 : Int32)), .val .null, .unset] [])) st1 ?_
  refine OGo.go (U' := T1.setTop (mkF m 5 #[.val (.ref a1), .val (.ref c1), .val (.int (0 : Int32)), .val (.int (2 : Int32)), .val .null, .unset] [(.int (2 : Int32))])) (fun _ k => XS.iloadN X1.here hx rfl (hb hby d_si4_4) rfl k) ?_
  refine OGo.go (U' := T1.setTop (mkF m 27 #[.val (.ref a1), .val (.ref c1), .val (.int (0 : Int32)), .val (.int (2 : Int32)), .val .null, .unset] [])) (fun _ k => XS.ifYes X1.here hx rfl (pc0 := 5) (pc' := 27) rfl (hb hby d_si4_5) rfl ((if0 _ _).trans (feq (by decide)).2) (by decide) (by decide) k) ?_
  obtain ⟨T2, X2, e2, st2⟩ := getS2 X1 hx hZ hown (host := "") (Or.inl (hw _ (List.mem_of_getElem? (i := 10) rfl))) Via.refl e1 S0 (g := (mkF m 27 #[.val (.ref a1), .val (.ref c1), .val (.int (0 : Int32)), .val (.int (2 : Int32)), .val .null, .unset] [])) rfl (hb hby d_si4_27)
  refine OGo.go (U' := T2.setTop (mkF m 30 #[.val (.ref a1), .val (.ref c1), .val (.int (0 : Int32)), .val (.int (2 : Int32)), .val .null, .unset] [(.int cs)])) st2 ?_
  refine OGo.go (U' := T2.setTop (mkF m 33 #[.val (.ref a1), .val (.ref c1), .val (.int (0 : Int32)), .val (.int (2 : Int32)), .val .null, .unset] [])) (fun _ k => XS.ifNo X2.here hx rfl (hb hby d_si4_30) rfl ((if0 _ _).trans (feq hcs).1) k) ?_
  refine OGo.go (U' := T2.setTop (mkF m 34 #[.val (.ref a1), .val (.ref c1), .val (.int (0 : Int32)), .val (.int (2 : Int32)), .val .null, .unset] [(.ref c1)])) (fun _ k => XS.aloadN X2.here hx rfl (hb hby d_si4_33) rfl rfl k) ?_
  refine OGo.go (U' := T2.setTop (mkF m 35 #[.val (.ref a1), .val (.ref c1), .val (.int (0 : Int32)), .val (.int (2 : Int32)), .val .null, .unset] [(.int (0 : Int32)), (.ref c1)])) (fun _ k => XS.iloadN X2.here hx rfl (hb hby d_si4_34) rfl k) ?_
  refine OGo.go (U' := T2.setTop (mkF m 36 #[.val (.ref a1), .val (.ref c1), .val (.int (0 : Int32)), .val (.int (2 : Int32)), .val .null, .unset] [(.int (2 : Int32)), (.int (0 : Int32)), (.ref c1)])) (fun _ k => XS.iloadN X2.here hx rfl (hb hby d_si4_35) rfl k) ?_
  refine OGo.callS X2 hx hZ (y := (⟨"java/lang/StringUTF16", "compress", "([CII)[B"⟩ : MethodName)) hown (hw _ (List.mem_of_getElem? (i := 78) rfl)) (hw _ (List.mem_of_getElem? (i := 79) rfl)) (hw _ (List.mem_of_getElem? (i := 80) rfl)) (hw _ (List.mem_of_getElem? (i := 81) rfl)) (by decide) (g := (mkF m 36 #[.val (.ref a1), .val (.ref c1), .val (.int (0 : Int32)), .val (.int (2 : Int32)), .val .null, .unset] [(.int (2 : Int32)), (.int (0 : Int32)), (.ref c1)])) (argsL := [(.ref c1), (.int (0 : Int32)), (.int (2 : Int32))]) (rest := []) e2 (rm_cm3 l Z a0 hw c1 kc u0 u1 n0 h0 Z0 Ac hu0 hu1) rfl (by rw [hml]; rfl) (lenOf pd_6 rfl) rfl (W := 0) (by show 2 * 0 + _ ≤ _; exact Nat.le_of_eq rfl) (hb hby d_si4_36) (by decide) (by decide) (by decide) (by decide) ?_
  rintro _ T3 L3 X3 ⟨b3, k3, vs3, rfl, N3, K3, A3, gb3⟩
  have e3 : T3.heap = T3.heap := rfl
  have N4 := Fr.app (Fr.nil n0) N3
  have ne5 : a1 ≠ b3 := Nat.ne_of_lt (Nat.lt_of_lt_of_le E0.lt gb3)
  have ne6 : c1 ≠ b3 := Nat.ne_of_lt (Nat.lt_of_lt_of_le Ac.lt gb3)
  have g7 : n0 ≤ b3 := Nat.le_trans Z0 gb3
  have sz8 := Nat.le_trans (Keep.refl h0 [a1]).1 gb3
  have f9 := E0.keep K3
  have f10 := F_value.keep K3 nin0
  have f11 := F_coder.keep K3 nin0
  have f12 := Ac.keep K3 nin0
  have f13 := own_sta_keep S0 K3 all0
  have K14 := (Keep.refl h0 [a1]).trans K3 all0
  show OGo p e below _ (T3.setTop (mkF m 39 #[.val (.ref a1), .val (.ref c1), .val (.int (0 : Int32)), .val (.int (2 : Int32)), .val .null, .unset] [(.ref b3)]))
  refine OGo.go (U' := T3.setTop (mkF m 41 #[.val (.ref a1), .val (.ref c1), .val (.int (0 : Int32)), .val (.int (2 : Int32)), .val .null, .val (.ref b3)] [])) (fun _ k => XS.astore X3.here hx rfl (hb hby d_si4_39) rfl rfl (l' := #[.val (.ref a1), .val (.ref c1), .val (.int (0 : Int32)), .val (.int (2 : Int32)), .val .null, .val (.ref b3)]) rfl k) ?_
  refine OGo.go (U' := T3.setTop (mkF m 42 #[.val (.ref a1), .val (.ref c1), .val (.int (0 : Int32)), .val (.int (2 : Int32)), .val .null, .val (.ref b3)] [(.ref a1)])) (fun _ k => XS.aloadN X3.here hx rfl (hb hby d_si4_41) rfl rfl k) ?_
  refine OGo.go (U' := T3.setTop (mkF m 44 #[.val (.ref a1), .val (.ref c1), .val (.int (0 : Int32)), .val (.int (2 : Int32)), .val .null, .val (.ref b3)] [(.ref b3), (.ref a1)])) (fun _ k => XS.aload X3.here hx rfl (hb hby d_si4_42) rfl rfl k) ?_
  refine OGo.go (U' := T3.setTop (mkF m 45 #[.val (.ref a1), .val (.ref c1), .val (.int (0 : Int32)), .val (.int (2 : Int32)), .val .null, .val (.ref b3)] [(.int (2 : Int32)), (.ref b3), (.ref a1)])) (fun _ k => XS.iloadN X3.here hx rfl (hb hby d_si4_44) rfl k) ?_
  refine OGo.callS X3 hx hZ (y := (⟨"java/lang/StringUTF16", "coderFromArrayLen", "([BI)B"⟩ : MethodName)) hown (hw _ (List.mem_of_getElem? (i := 85) rfl)) (hw _ (List.mem_of_getElem? (i := 86) rfl)) (hw _ (List.mem_of_getElem? (i := 80) rfl)) (hw _ (List.mem_of_getElem? (i := 87) rfl)) (by decide) (g := (mkF m 45 #[.val (.ref a1), .val (.ref c1), .val (.int (0 : Int32)), .val (.int (2 : Int32)), .val .null, .val (.ref b3)] [(.int (2 : Int32)), (.ref b3), (.ref a1)])) (argsL := [(.ref b3), (.int (2 : Int32))]) (rest := [(.ref a1)]) e3 (rm_cfa l Z a0 hw b3 k3 vs3 T3.heap A3) rfl (by rw [hml]; rfl) (lenOf pd_7 rfl) rfl (W := 1) (by show 2 * 0 + _ ≤ _; exact Nat.le_of_eq rfl) (hb hby d_si4_45) (by decide) (by decide) (by decide) (by decide) ?_
  rintro _ T15 _ X15 ⟨rfl, e15, rfl⟩
  rw [List.append_nil] at X15
  show OGo p e below _ (T15.setTop (mkF m 48 #[.val (.ref a1), .val (.ref c1), .val (.int (0 : Int32)), .val (.int (2 : Int32)), .val .null, .val (.ref b3)] [(.int (0 : Int32)), (.ref a1)]))
  obtain ⟨T16, h16, X16, e16, W16, st16⟩ := putFN X15 hx hZ hown (hw _ (List.mem_of_getElem? (i := 30) rfl)) Via.refl e15 f11 f9 (Or.inr ⟨(hw _ (List.mem_of_getElem? (i := 31) rfl)), rfl, hnm⟩) (hw _ (List.mem_of_getElem? (i := 16) rfl)) (ty := .byte) (v' := (.int (nar .byte (0 : Int32)))) (by decide) rfl (fits_nar_byte _) (g := (mkF m 48 #[.val (.ref a1), .val (.ref c1), .val (.int (0 : Int32)), .val (.int (2 : Int32)), .val .null, .val (.ref b3)] [(.int (0 : Int32)), (.ref a1)])) rfl rfl (hb hby d_si4_48)
  have N17 := Fr.snoc X16 N4 g0
  have f18 := f9.wr W16
  have f19 := f10.other W16 (Or.inr (slot_ne (Or.inr (hw _ (List.mem_of_getElem? (i := 29) rfl))) (Or.inr (hw _ (List.mem_of_getElem? (i := 31) rfl))) (by decide) (t := (.array .byte)) (t' := .byte) (by decide) (by decide)))
  have f20 := f11.same W16
  have f21 := f12.other W16 (Ne.symm hne)
  have f22 := f13.wr W16
  have f23 := A3.other W16 (Ne.symm ne5)
  have K24 := K14.wr W16 (Or.inl (List.mem_of_getElem? (i := 0) rfl))
  refine OGo.go (U' := T16.setTop (mkF m 51 #[.val (.ref a1), .val (.ref c1), .val (.int (0 : Int32)), .val (.int (2 : Int32)), .val .null, .val (.ref b3)] [])) st16 ?_
  refine OGo.go (U' := T16.setTop (mkF m 52 #[.val (.ref a1), .val (.ref c1), .val (.int (0 : Int32)), .val (.int (2 : Int32)), .val .null, .val (.ref b3)] [(.ref a1)])) (fun _ k => XS.aloadN X16.here hx rfl (hb hby d_si4_51) rfl rfl k) ?_
  refine OGo.go (U' := T16.setTop (mkF m 54 #[.val (.ref a1), .val (.ref c1), .val (.int (0 : Int32)), .val (.int (2 : Int32)), .val .null, .val (.ref b3)] [(.ref b3), (.ref a1)])) (fun _ k => XS.aload X16.here hx rfl (hb hby d_si4_52) rfl rfl k) ?_
  obtain ⟨T25, h25, X25, e25, W25, st25⟩ := putF X16 hx hZ hown (host := "") (Or.inl (hw _ (List.mem_of_getElem? (i := 28) rfl))) Via.refl e16 f19 f18 (Or.inr ⟨(hw _ (List.mem_of_getElem? (i := 29) rfl)), rfl, hnm⟩) (hw _ (List.mem_of_getElem? (i := 16) rfl)) (ty := (.array .byte)) (by decide) rfl rfl (g := (mkF m 54 #[.val (.ref a1), .val (.ref c1), .val (.int (0 : Int32)), .val (.int (2 : Int32)), .val .null, .val (.ref b3)] [(.ref b3), (.ref a1)])) rfl rfl (hb hby d_si4_54)
  have N26 := Fr.snoc X25 N17 g0
  have f27 := f18.wr W25
  have f28 := f19.same W25
  have f29 := f20.other W25 (Or.inr (slot_ne (Or.inr (hw _ (List.mem_of_getElem? (i := 31) rfl))) (Or.inr (hw _ (List.mem_of_getElem? (i := 29) rfl))) (by decide) (t := .byte) (t' := (.array .byte)) (by decide) (by decide)))
  have f30 := f21.other W25 (Ne.symm hne)
  have f31 := f22.wr W25
  have f32 := f23.other W25 (Ne.symm ne5)
  have K33 := K24.wr W25 (Or.inl (List.mem_of_getElem? (i := 0) rfl))
  refine OGo.go (U' := T25.setTop (mkF m 57 #[.val (.ref a1), .val (.ref c1), .val (.int (0 : Int32)), .val (.int (2 : Int32)), .val .null, .val (.ref b3)] [])) st25 ?_
  refine OGo.ret0 X25 hx hret hlk (hb hby d_si4_57) ?_ (by decide) (by decide)
  rw [e25]
  exact ⟨rfl, N26, K33, ⟨f27, b3, k3, _, _, f28, f32, by decide⟩⟩
theorem d_si1_0 : decode jdk_42_method_3_code 0 = .ok (.aload_n 0, 1) := by decide +kernel
theorem d_si1_1 : decode jdk_42_method_3_code 1 = .ok (.aload_n 1, 1) := by decide +kernel
theorem d_si1_2 : decode jdk_42_method_3_code 2 = .ok (.iconst 0, 1) := by decide +kernel
theorem d_si1_3 : decode jdk_42_method_3_code 3 = .ok (.aload_n 1, 1) := by decide +kernel
theorem d_si1_4 : decode jdk_42_method_3_code 4 = .ok (.arraylength, 1) := by decide +kernel
theorem d_si1_5 : decode jdk_42_method_3_code 5 = .ok (.aconst_null, 1) := by decide +kernel
theorem d_si1_6 : decode jdk_42_method_3_code 6 = .ok (.invokespecial 27, 3) := by decide +kernel
theorem d_si1_9 : decode jdk_42_method_3_code 9 = .ok (.return_, 1) := by decide +kernel
theorem ef_si1 (m : MethodId) (a1 : Addr) (c1 : Addr) : entryFrame m #[(.ref a1), (.ref c1)] 2 = mkF m 0 #[.val (.ref a1), .val (.ref c1)] [] := by first | (simp [entryFrame, mkF, argsToLocals, Value.category]; done) | rfl
theorem pn_si1 : plainFor (⟨"java/lang/String", "<init>", "([C)V"⟩ : MethodName) = true := by first | exact plainFor_of_name (by first | (simp [plainName, overriddenIn]; done) | decide +kernel) | decide +kernel
set_option maxRecDepth 65536 in
set_option maxHeartbeats 40000000 in
theorem rm_si1 (l : Launch) (Z : State) (a0 : Array Value) (hw : ∀ d ∈ tables_1, d.before a0 Z = true) (a1 : Addr) (c1 : Addr) (u_value u_coder : Value) (kc : ClassId) (u0 u1 : Int32) (cs : Int32) (n0 : Nat) (h0 : Heap) (Z0 : n0 ≤ h0.size) (E0 : Exa Z h0 a1 "java/lang/String") (F_value : Fld Z h0 a1 "java/lang/String" "value" "[B" u_value) (F_coder : Fld Z h0 a1 "java/lang/String" "coder" "B" u_coder) (g0 : n0 ≤ a1) (hne : a1 ≠ c1) (Ac : Arv Z h0 c1 kc .char 2 [.int u0, .int u1] (.int 0)) (hu0 : ¬ (255 : Int32) < u0) (hu1 : ¬ (255 : Int32) < u1) (S0 : Sta Z h0 "java/lang/String" "COMPACT_STRINGS" "Z" (.int cs)) (hcs : ¬ cs = 0) :
    OMet l Z (⟨"java/lang/String", "<init>", "([C)V"⟩ : MethodName) jdk_42_method_3_code 2 none [] ({ frames := 3, cells := 1, slots := 2, locals := 55 } : Room) #[(.ref a1), (.ref c1)] h0 (fun v h L => v = none ∧ Fr n0 L ∧ Keep h0 h [a1] ∧ OStr Z h a1) := by
  refine OMet.of pn_si1 ?_
  intro p e s m below meth c T0 X0 hx hby hml hown0 hnm hret hlk hZ e0
  have hown : s.vm.findClass "java/lang/String" = some m.cls := hown0
  refine OGo.go (fun t k => castTop (ef_si1 m a1 c1) k) ?_
  refine OGo.go (U' := T0.setTop (mkF m 1 #[.val (.ref a1), .val (.ref c1)] [(.ref a1)])) (fun _ k => XS.aloadN X0.here hx rfl (hb hby d_si1_0) rfl rfl k) ?_
  refine OGo.go (U' := T0.setTop (mkF m 2 #[.val (.ref a1), .val (.ref c1)] [(.ref c1), (.ref a1)])) (fun _ k => XS.aloadN X0.here hx rfl (hb hby d_si1_1) rfl rfl k) ?_
  refine OGo.go (U' := T0.setTop (mkF m 3 #[.val (.ref a1), .val (.ref c1)] [(.int (0 : Int32)), (.ref c1), (.ref a1)])) (fun _ k => XS.iconst X0.here hx rfl (hb hby d_si1_2) k) ?_
  refine OGo.go (U' := T0.setTop (mkF m 4 #[.val (.ref a1), .val (.ref c1)] [(.ref c1), (.int (0 : Int32)), (.ref c1), (.ref a1)])) (fun _ k => XS.aloadN X0.here hx rfl (hb hby d_si1_3) rfl rfl k) ?_
  refine OGo.go (U' := T0.setTop (mkF m 5 #[.val (.ref a1), .val (.ref c1)] [(.int (2 : Int32)), (.int (0 : Int32)), (.ref c1), (.ref a1)])) (fun _ k => Arv.len' X0 hx hZ e0 Ac (g := (mkF m 4 #[.val (.ref a1), .val (.ref c1)] [(.ref c1), (.int (0 : Int32)), (.ref c1), (.ref a1)])) rfl rfl (hb hby d_si1_4) _ k) ?_
  refine OGo.go (U' := T0.setTop (mkF m 6 #[.val (.ref a1), .val (.ref c1)] [.null, (.int (2 : Int32)), (.int (0 : Int32)), (.ref c1), (.ref a1)])) (fun _ k => XS.aconstNull X0.here hx rfl (hb hby d_si1_5) k) ?_
  refine OGo.callI X0 hx hZ (y := (⟨"java/lang/String", "<init>", "([CIILjava/lang/Void;)V"⟩ : MethodName)) rfl hown (hw _ (List.mem_of_getElem? (i := 75) rfl)) (hw _ (List.mem_of_getElem? (i := 76) rfl)) (hw _ (List.mem_of_getElem? (i := 8) rfl)) (hw _ (List.mem_of_getElem? (i := 77) rfl)) (by decide) (g := (mkF m 6 #[.val (.ref a1), .val (.ref c1)] [.null, (.int (2 : Int32)), (.int (0 : Int32)), (.ref c1), (.ref a1)])) (a := a1) (argsL := [(.ref c1), (.int (0 : Int32)), (.int (2 : Int32)), .null]) (rest := []) e0 (rm_si4 l Z a0 hw a1 c1 u_value u_coder kc u0 u1 cs n0 h0 Z0 E0 F_value F_coder g0 hne Ac hu0 hu1 S0 hcs) rfl (by rw [hml]; rfl) (lenOf pd_8 rfl) rfl (W := 0) (by show 2 * 0 + _ ≤ _; exact Nat.le_of_eq rfl) (hb hby d_si1_6) (by decide) (by decide) (by decide) (by decide) ?_
  rintro _ T2 L2 X2 ⟨rfl, N2, K2, Ea2, d2, kd2, zd2, vd2, fs2, Ad2, hz2⟩
  have e2 : T2.heap = T2.heap := rfl
  have N3 := Fr.app (Fr.nil n0) N2
  have f4 := E0.keep K2
  have f5 := Ac.keep K2 (ninS (Ne.symm hne) nin0)
  have f6 := own_sta_keep S0 K2 (allS (P := fun x => ∀ cell : Cell, _ → cell.vm.isStatics = false) (own_plain E0) all0)
  have K7 := (Keep.refl h0 [a1]).trans K2 (allS (P := fun x => x ∈ _ ∨ _ ≤ x) (Or.inl (List.mem_of_getElem? (i := 0) rfl)) all0)
  show OGo p e below _ (T2.setTop (mkF m 9 #[.val (.ref a1), .val (.ref c1)] []))
  refine OGo.ret0 X2 hx hret hlk (hb hby d_si1_9) ?_ (by decide) (by decide)
  rw [e2]
  exact ⟨rfl, N3, K7, ⟨Ea2, d2, kd2, _, _, fs2, Ad2, hz2⟩⟩
abbrev own_EL : List (String × Nat) := [("com/example/farcall/farcall/model/RemoteReference", 46)]
theorem d_oc_0 : decode prog_49_method_2_code 0 = .ok (.new 31, 3) := by decide +kernel
theorem d_oc_3 : decode prog_49_method_2_code 3 = .ok (.dup, 1) := by decide +kernel
theorem d_oc_4 : decode prog_49_method_2_code 4 = .ok (.ldc 46, 2) := by decide +kernel
theorem d_oc_6 : decode prog_49_method_2_code 6 = .ok (.iconst 0, 1) := by decide +kernel
theorem d_oc_7 : decode prog_49_method_2_code 7 = .ok (.iload_n 0, 1) := by decide +kernel
theorem d_oc_8 : decode prog_49_method_2_code 8 = .ok (.iload_n 1, 1) := by decide +kernel
theorem d_oc_9 : decode prog_49_method_2_code 9 = .ok (.invokespecial 48, 3) := by decide +kernel
theorem d_oc_12 : decode prog_49_method_2_code 12 = .ok (.areturn, 1) := by decide +kernel
theorem ef_oc (m : MethodId) (x1 : Int32) (x2 : Int32) : entryFrame m #[(.int x1), (.int x2)] 2 = mkF m 0 #[.val (.int x1), .val (.int x2)] [] := by first | (simp [entryFrame, mkF, argsToLocals, Value.category]; done) | rfl
theorem pn_oc : plainFor (⟨"com/example/farcall/farcall/model/RemoteReference", "overConnection", "(II)Lcom/example/farcall/farcall/model/RemoteReference;"⟩ : MethodName) = true := by first | exact plainFor_of_name (by first | (simp [plainName, overriddenIn]; done) | decide +kernel) | decide +kernel
set_option maxRecDepth 65536 in
set_option maxHeartbeats 40000000 in
theorem rm_oc (l : Launch) (Z : State) (a0 : Array Value) (hw : ∀ d ∈ tables_1, d.before a0 Z = true) (x1 : Int32) (x2 : Int32) (n0 : Nat) (h0 : Heap) (Z0 : n0 ≤ h0.size) :
    OMetV l Z own_EL (⟨"com/example/farcall/farcall/model/RemoteReference", "overConnection", "(II)Lcom/example/farcall/farcall/model/RemoteReference;"⟩ : MethodName) prog_49_method_2_code 2 (some (.object "com/example/farcall/farcall/model/RemoteReference")) [] ({ frames := 3, cells := 3, slots := 44, locals := 44 } : Room) #[(.int x1), (.int x2)] h0 (fun v h L => ∃ b : Addr, v = some (.ref b) ∧ Fr n0 L ∧ Exa Z h b "com/example/farcall/farcall/model/RemoteReference" ∧ Fld Z h b "com/example/farcall/farcall/model/RemoteReference" "port" "I" (.int 0)) := by
  refine OMetV.of pn_oc ?_
  intro p e s m below meth c T0 X0 hx hby hml hown0 hnm hret hlk hZ e0 hs0 Cv0
  have C0 := CHr.refl Cv0
  have hown : s.vm.findClass "com/example/farcall/farcall/model/RemoteReference" = some m.cls := hown0
  refine OGo.go (fun t k => castTop (ef_oc m x1 x2) k) ?_
  have wS : ∀ a ∈ Bundle.stringAtoms, a.before a0 Z = true := fun d hd => by
    simp only [Bundle.stringAtoms, List.mem_cons, List.not_mem_nil, or_false] at hd
    rcases hd with rfl | rfl | rfl | rfl | rfl | rfl | rfl
    all_goals first | exact hw _ (List.mem_of_getElem? (i := 8) rfl) | exact hw _ (List.mem_of_getElem? (i := 16) rfl) | exact hw _ (List.mem_of_getElem? (i := 20) rfl) | exact hw _ (List.mem_of_getElem? (i := 29) rfl) | exact hw _ (List.mem_of_getElem? (i := 31) rfl) | exact hw _ (List.mem_of_getElem? (i := 68) rfl) | exact hw _ (List.mem_of_getElem? (i := 69) rfl)
  have hEL : EW Z a0 own_EL := EW.cons (hw _ (List.mem_of_getElem? (i := 67) rfl)) (by decide +kernel) EW.nil
  obtain ⟨T1, h1, X1, e1, E1, A1, D1, -, st1⟩ := newO X0 hx hZ hown (hw _ (List.mem_of_getElem? (i := 66) rfl)) (hw _ (List.mem_of_getElem? (i := 33) rfl)) (hw _ (List.mem_of_getElem? (i := 34) rfl)) e0 (g := (mkF m 0 #[.val (.int x1), .val (.int x2)] [])) rfl (hb hby d_oc_0) (by decide) (by decide)
  obtain ⟨b1, gb1⟩ : ∃ z, z = h0.size := ⟨_, rfl⟩
  rw [← gb1] at A1 D1 st1
  have g2 : n0 ≤ b1 := Nat.le_trans Z0 (Nat.le_of_eq gb1.symm)
  have f3 : Fld Z h1 b1 "com/example/farcall/farcall/model/RemoteReference" "host" "Ljava/lang/String;" .null := D1 (Or.inr (hw _ (List.mem_of_getElem? (i := 51) rfl))) (ty := (.object "java/lang/String")) (by decide)
  have f4 : Fld Z h1 b1 "com/example/farcall/farcall/model/RemoteReference" "port" "I" (.int (0 : Int32)) := D1 (Or.inr (hw _ (List.mem_of_getElem? (i := 53) rfl))) (ty := .int) (by decide)
  have f5 : Fld Z h1 b1 "com/example/farcall/farcall/model/RemoteReference" "program" "I" (.int (0 : Int32)) := D1 (Or.inr (hw _ (List.mem_of_getElem? (i := 55) rfl))) (ty := .int) (by decide)
  have f6 : Fld Z h1 b1 "com/example/farcall/farcall/model/RemoteReference" "version" "I" (.int (0 : Int32)) := D1 (Or.inr (hw _ (List.mem_of_getElem? (i := 57) rfl))) (ty := .int) (by decide)
  refine OGo.go (U' := T1.setTop (mkF m 3 #[.val (.int x1), .val (.int x2)] [(.ref b1)])) st1 ?_
  refine OGo.go (U' := T1.setTop (mkF m 4 #[.val (.int x1), .val (.int x2)] [(.ref b1), (.ref b1)])) (fun _ k => XS.dup X1.here hx rfl (hb hby d_oc_3) rfl rfl k) ?_
  obtain ⟨a7, T7, h7, k7, d7, kk7, X7, e7, E7, hS7, hk7, hZ7, hown7, Ea7, Fc7, Fv7, Ab7, -, -, Ch7, -, -, st7⟩ := ldcCH (s := s) (vm0 := s.vm) X1 hx hZ hown (hw _ (List.mem_of_getElem? (i := 67) rfl)) wS e1 ((State.WarmedH.refl s).since 0) (Nat.zero_le _) hEL (by simp [own_EL]) (CHr.trans C0 (CHr.ext E1 C0.1)).1 (vs := [.int 108, .int 111, .int 99, .int 97, .int 108, .int 104, .int 111, .int 115, .int 116]) (z := 9) ⟨by decide +kernel, by decide +kernel⟩ (by decide) (by decide) (g := (mkF m 4 #[.val (.int x1), .val (.int x2)] [(.ref b1), (.ref b1)])) rfl (hb hby d_oc_4) (n := 36) (by decide +kernel) (by decide) (by decide) (by decide)
  have f8 := A1.ext E7
  have f9 := f3.ext E7
  have f10 := f4.ext E7
  have f11 := f5.ext E7
  have f12 := f6.ext E7
  refine OGo.go (U' := T7.setTop (mkF m 6 #[.val (.int x1), .val (.int x2)] [(.ref a7), (.ref b1), (.ref b1)])) st7 ?_
  refine OGo.go (U' := T7.setTop (mkF m 7 #[.val (.int x1), .val (.int x2)] [(.int (0 : Int32)), (.ref a7), (.ref b1), (.ref b1)])) (fun _ k => XS.iconst X7.here hx rfl (hb hby d_oc_6) k) ?_
  refine OGo.go (U' := T7.setTop (mkF m 8 #[.val (.int x1), .val (.int x2)] [(.int x1), (.int (0 : Int32)), (.ref a7), (.ref b1), (.ref b1)])) (fun _ k => XS.iloadN X7.here hx rfl (hb hby d_oc_7) rfl k) ?_
  refine OGo.go (U' := T7.setTop (mkF m 9 #[.val (.int x1), .val (.int x2)] [(.int x2), (.int x1), (.int (0 : Int32)), (.ref a7), (.ref b1), (.ref b1)])) (fun _ k => XS.iloadN X7.here hx rfl (hb hby d_oc_8) rfl k) ?_
  refine OGo.callI X7 hx hZ7 (y := (⟨"com/example/farcall/farcall/model/RemoteReference", "<init>", "(Ljava/lang/String;III)V"⟩ : MethodName)) rfl hown7 (hw _ (List.mem_of_getElem? (i := 70) rfl)) (hw _ (List.mem_of_getElem? (i := 36) rfl)) (hw _ (List.mem_of_getElem? (i := 34) rfl)) (hw _ (List.mem_of_getElem? (i := 37) rfl)) (by decide) (g := (mkF m 9 #[.val (.int x1), .val (.int x2)] [(.int x2), (.int x1), (.int (0 : Int32)), (.ref a7), (.ref b1), (.ref b1)])) (a := b1) (argsL := [(.ref a7), (.int (0 : Int32)), (.int x1), (.int x2)]) (rest := [(.ref b1)]) e7 (rm_rri l Z a0 hw b1 a7 (0 : Int32) x1 x2 .null (.int (0 : Int32)) (.int (0 : Int32)) (.int (0 : Int32)) d7 kk7 9 [(.int (108 : Int32)), (.int (111 : Int32)), (.int (99 : Int32)), (.int (97 : Int32)), (.int (108 : Int32)), (.int (104 : Int32)), (.int (111 : Int32)), (.int (115 : Int32)), (.int (116 : Int32))] n0 h7 (Nat.le_trans (Nat.le_trans Z0 E1.1) E7.1) f8 f9 f10 f11 f12 g2 Ea7 Fv7 Ab7 (by decide) (by decide) (by decide)) rfl (by rw [hml]; rfl) (lenOf pd_9 rfl) rfl (W := 1) (by show 2 * 0 + _ ≤ _; exact Nat.le_of_eq rfl) (hb hby d_oc_9) (by decide) (by decide) (by decide) (by decide) ?_
  rintro _ T13 L13 X13 ⟨rfl, N13, K13, Ea13, F13_0, F13_1, F13_2, F13_3⟩
  have e13 : T13.heap = T13.heap := rfl
  have N14 := Fr.app (Fr.nil n0) N13
  have f15 := f8.keep K13
  refine OGo.retAW X13 hS7 (by rw [e13]; exact (Nat.le_trans hk7 K13.1)) hx hret hlk rfl rfl (hb hby d_oc_12) ?_ (by decide) (by decide)
  rw [e13]
  exact ⟨b1, rfl, N14, Ea13, F13_1⟩
theorem own_c8 (x : Int32) : ¬ (255 : Int32) < nar .char ((x &&& (255 : Int32)).toUInt32.toUInt16.toUInt32.toInt32) := by
  have h1 := c_and x 255 (by decide)
  rw [show (255 : Int32).toInt = 255 by decide] at h1
  have h2 := c_i2c (x &&& 255)
  have h3 := c_i2c ((x &&& 255).toUInt32.toUInt16.toUInt32.toInt32)
  show ¬ (255 : Int32) < ((x &&& (255 : Int32)).toUInt32.toUInt16.toUInt32.toInt32).toUInt32.toUInt16.toUInt32.toInt32
  rw [Int32.lt_iff_toInt_lt, show (255 : Int32).toInt = 255 by decide]
  omega
theorem own_pk {y x1 x2 : Int32} (h : y = F_pick x1 x2) : ¬ y < 0 ∧ ¬ (65535 : Int32) < y := by
  have h1 := c_and x2 65535 (by decide)
  rw [show (65535 : Int32).toInt = 65535 by decide] at h1
  have k : 0 ≤ y.toInt ∧ y.toInt ≤ 65535 := by
    rw [h, F_pick]
    repeat' split
    all_goals first | decide | exact h1
  rw [Int32.lt_iff_toInt_lt, Int32.lt_iff_toInt_lt, show (65535 : Int32).toInt = 65535 by decide, show (0 : Int32).toInt = 0 by decide]
  omega

theorem own_ret_0 {x0 : Int32} {x1 : Int32} {x2 : Int32} {y2 : Int32} {z46 : Int32} {y49 : Int32} {z51 : Int32} {y56 : Int32} {z58 : Int32} (hy2 : y2 = (F_pick x1 x2)) (hc16 : (((x0.toUInt32 >>> ((16 : Int32) &&& 31).toUInt32).toInt32) &&& (1 : Int32)) = (0 : Int32)) (hz46 : z46 = (if y2 = (0 : Int32) then (1 : Int32) else (0 : Int32))) (hy49 : y49 = (F_iso y2)) (hz51 : z51 = (if y49 = z46 then (1 : Int32) else (0 : Int32))) (hy56 : y56 = (F_iso (0 : Int32))) (hz58 : z58 = (if z51 = (0 : Int32) then (0 : Int32) else (if y56 = (0 : Int32) then (0 : Int32) else (1 : Int32)))) : some (Value.int (nar .boolean z58)) = some (Value.int 1) := by
  have q : y49 = z46 := by
    rw [hy49, hz46, F_iso]
    by_cases q0 : y2 = 0
    · simp only [q0, if_true, nar_b1]
    · simp only [q0, if_false, nar_b0]
  rw [if_pos q] at hz51
  rw [show F_iso 0 = 1 from by decide] at hy56
  subst hz51 hy56 hz58
  rfl
theorem own_ret_1 {x0 : Int32} {x1 : Int32} {x2 : Int32} {y2 : Int32} {z101 : Int32} {y104 : Int32} {z106 : Int32} {y111 : Int32} {z113 : Int32} (hy2 : y2 = (F_pick x1 x2)) (hc16 : ¬ ((((x0.toUInt32 >>> ((16 : Int32) &&& 31).toUInt32).toInt32) &&& (1 : Int32)) = (0 : Int32))) (hz101 : z101 = (if y2 = (0 : Int32) then (1 : Int32) else (0 : Int32))) (hy104 : y104 = (F_iso y2)) (hz106 : z106 = (if y104 = z101 then (1 : Int32) else (0 : Int32))) (hy111 : y111 = (F_iso (0 : Int32))) (hz113 : z113 = (if z106 = (0 : Int32) then (0 : Int32) else (if y111 = (0 : Int32) then (0 : Int32) else (1 : Int32)))) : some (Value.int (nar .boolean z113)) = some (Value.int 1) := by
  have q : y104 = z101 := by
    rw [hy104, hz101, F_iso]
    by_cases q0 : y2 = 0
    · simp only [q0, if_true, nar_b1]
    · simp only [q0, if_false, nar_b0]
  rw [if_pos q] at hz106
  rw [show F_iso 0 = 1 from by decide] at hy111
  subst hz106 hy111 hz113
  rfl
theorem ef_law (m : MethodId) (x0 : Int32) (x1 : Int32) (x2 : Int32) (x3 : Int32) (x4 : Int32) : entryFrame m #[(.int x0), (.int x1), (.int x2), (.int x3), (.int x4)] maxLocals = mkF m 0 #[.val (.int x0), .val (.int x1), .val (.int x2), .val (.int x3), .val (.int x4), .unset, .unset, .unset, .unset, .unset, .unset, .unset, .unset] [] := by first | (simp [entryFrame, mkF, argsToLocals, Value.category, maxLocals]; done) | rfl
theorem pn_law : plainFor x = true := by first | exact plainFor_of_name (by first | (simp [plainName, overriddenIn]; done) | decide +kernel) | decide +kernel
set_option maxRecDepth 65536 in
set_option maxHeartbeats 40000000 in
theorem rm_law (l : Launch) (Z : State) (a0 : Array Value) (hw : ∀ d ∈ tables_1, d.before a0 Z = true) (x0 : Int32) (x1 : Int32) (x2 : Int32) (x3 : Int32) (x4 : Int32) (cs : Int32) (n0 : Nat) (h0 : Heap) (Z0 : n0 ≤ h0.size) (S0 : Sta Z h0 "java/lang/String" "COMPACT_STRINGS" "Z" (.int cs)) (hcs : ¬ cs = 0) :
    OMetV l Z own_EL x code maxLocals ret tables_1 room_1 #[(.int x0), (.int x1), (.int x2), (.int x3), (.int x4)] h0 (fun v h L => v = some (.int 1) ∧ Fr n0 L) := by
  refine OMetV.of pn_law ?_
  intro p e s m below meth c T0 X0 hx hby hml hown0 hnm hret hlk hZ e0 hs0 Cv0
  have C0 := CHr.refl Cv0
  have hown : s.vm.findClass "com/example/farcall/farcall/model/RemoteReferenceIsOverConnectionPinLaw" = some m.cls := hown0
  refine OGo.go (fun t k => castTop (ef_law m x0 x1 x2 x3 x4) k) ?_
  have wS : ∀ a ∈ Bundle.stringAtoms, a.before a0 Z = true := fun d hd => by
    simp only [Bundle.stringAtoms, List.mem_cons, List.not_mem_nil, or_false] at hd
    rcases hd with rfl | rfl | rfl | rfl | rfl | rfl | rfl
    all_goals first | exact hw _ (List.mem_of_getElem? (i := 8) rfl) | exact hw _ (List.mem_of_getElem? (i := 16) rfl) | exact hw _ (List.mem_of_getElem? (i := 20) rfl) | exact hw _ (List.mem_of_getElem? (i := 29) rfl) | exact hw _ (List.mem_of_getElem? (i := 31) rfl) | exact hw _ (List.mem_of_getElem? (i := 68) rfl) | exact hw _ (List.mem_of_getElem? (i := 69) rfl)
  have hEL : EW Z a0 own_EL := EW.cons (hw _ (List.mem_of_getElem? (i := 67) rfl)) (by decide +kernel) EW.nil
  refine OGo.go (U' := T0.setTop (mkF m 1 #[.val (.int x0), .val (.int x1), .val (.int x2), .val (.int x3), .val (.int x4), .unset, .unset, .unset, .unset, .unset, .unset, .unset, .unset] [(.int x1)])) (fun _ k => XS.iloadN X0.here hx rfl (hb hby at_0) rfl k) ?_
  refine OGo.go (U' := T0.setTop (mkF m 2 #[.val (.int x0), .val (.int x1), .val (.int x2), .val (.int x3), .val (.int x4), .unset, .unset, .unset, .unset, .unset, .unset, .unset, .unset] [(.int x2), (.int x1)])) (fun _ k => XS.iloadN X0.here hx rfl (hb hby at_1) rfl k) ?_
  refine OGo.callS X0 hx hZ (y := (⟨"com/example/farcall/farcall/model/RemoteReferenceIsOverConnectionPinLaw", "pickPort", "(II)I"⟩ : MethodName)) hown (hw _ (List.mem_of_getElem? (i := 0) rfl)) (hw _ (List.mem_of_getElem? (i := 1) rfl)) (hw _ (List.mem_of_getElem? (i := 2) rfl)) (hw _ (List.mem_of_getElem? (i := 3) rfl)) (by decide) (g := (mkF m 2 #[.val (.int x0), .val (.int x1), .val (.int x2), .val (.int x3), .val (.int x4), .unset, .unset, .unset, .unset, .unset, .unset, .unset, .unset] [(.int x2), (.int x1)])) (argsL := [(.int x1), (.int x2)]) (rest := []) e0 (rm_pick l Z a0 hw x1 x2 h0) rfl (by rw [hml]; rfl) (lenOf pd_10 rfl) rfl (W := 0) (by show 2 * 0 + _ ≤ _; exact Nat.le_of_eq rfl) (hb hby at_2) (by decide) (by decide) (by decide) (by decide) ?_
  rintro _ T1 _ X1 ⟨rfl, e1, rfl⟩
  rw [List.append_nil] at X1
  refine OGo.nm (fun (y2 : Int32) => T1.setTop (mkF m 5 #[.val (.int x0), .val (.int x1), .val (.int x2), .val (.int x3), .val (.int x4), .unset, .unset, .unset, .unset, .unset, .unset, .unset, .unset] [(.int y2)])) (x := (F_pick x1 x2)) (fun y2 hy2 => ?_)
  refine OGo.go (U' := T1.setTop (mkF m 7 #[.val (.int x0), .val (.int x1), .val (.int x2), .val (.int x3), .val (.int x4), .val (.int y2), .unset, .unset, .unset, .unset, .unset, .unset, .unset] [])) (fun _ k => XS.istore X1.here hx rfl (hb hby at_5) rfl (l' := #[.val (.int x0), .val (.int x1), .val (.int x2), .val (.int x3), .val (.int x4), .val (.int y2), .unset, .unset, .unset, .unset, .unset, .unset, .unset]) rfl k) ?_
  refine OGo.go (U' := T1.setTop (mkF m 8 #[.val (.int x0), .val (.int x1), .val (.int x2), .val (.int x3), .val (.int x4), .val (.int y2), .unset, .unset, .unset, .unset, .unset, .unset, .unset] [(.int (2 : Int32))])) (fun _ k => XS.iconst X1.here hx rfl (hb hby at_7) k) ?_
  obtain ⟨T3, h3, k3, X3, e3, E3, A3, st3⟩ := newP X1 hx hZ (hw _ (List.mem_of_getElem? (i := 5) rfl)) e1 (g := (mkF m 8 #[.val (.int x0), .val (.int x1), .val (.int x2), .val (.int x3), .val (.int x4), .val (.int y2), .unset, .unset, .unset, .unset, .unset, .unset, .unset] [(.int (2 : Int32))])) rfl (hb hby at_8) rfl (n := 2) (by decide) (cap := 2) (by decide) (by decide) (by decide) (by decide)
  obtain ⟨b3, gb3⟩ : ∃ z, z = h0.size := ⟨_, rfl⟩
  rw [← gb3] at A3 st3
  have g4 : n0 ≤ b3 := Nat.le_trans Z0 (Nat.le_of_eq gb3.symm)
  have sz5 := Nat.le_trans (Keep.refl h0 []).1 (Nat.le_of_eq gb3.symm)
  have f6 := S0.ext E3
  have K7 := (Keep.refl h0 []).ext E3
  have V3 : Arv Z h3 b3 k3 .char 2 [(.int (0 : Int32)), (.int (0 : Int32))] (.int (0 : Int32)) := (Arv.new A3 (by decide)).pad (pad_rep [] _ 2)
  refine OGo.go (U' := T3.setTop (mkF m 10 #[.val (.int x0), .val (.int x1), .val (.int x2), .val (.int x3), .val (.int x4), .val (.int y2), .unset, .unset, .unset, .unset, .unset, .unset, .unset] [(.ref b3)])) st3 ?_
  refine OGo.go (U' := T3.setTop (mkF m 11 #[.val (.int x0), .val (.int x1), .val (.int x2), .val (.int x3), .val (.int x4), .val (.int y2), .unset, .unset, .unset, .unset, .unset, .unset, .unset] [(.ref b3), (.ref b3)])) (fun _ k => XS.dup X3.here hx rfl (hb hby at_10) rfl rfl k) ?_
  refine OGo.go (U' := T3.setTop (mkF m 12 #[.val (.int x0), .val (.int x1), .val (.int x2), .val (.int x3), .val (.int x4), .val (.int y2), .unset, .unset, .unset, .unset, .unset, .unset, .unset] [(.int (0 : Int32)), (.ref b3), (.ref b3)])) (fun _ k => XS.iconst X3.here hx rfl (hb hby at_11) k) ?_
  refine OGo.go (U' := T3.setTop (mkF m 13 #[.val (.int x0), .val (.int x1), .val (.int x2), .val (.int x3), .val (.int x4), .val (.int y2), .unset, .unset, .unset, .unset, .unset, .unset, .unset] [(.int x0), (.int (0 : Int32)), (.ref b3), (.ref b3)])) (fun _ k => XS.iloadN X3.here hx rfl (hb hby at_12) rfl k) ?_
  refine OGo.go (U' := T3.setTop (mkF m 16 #[.val (.int x0), .val (.int x1), .val (.int x2), .val (.int x3), .val (.int x4), .val (.int y2), .unset, .unset, .unset, .unset, .unset, .unset, .unset] [(.int (255 : Int32)), (.int x0), (.int (0 : Int32)), (.ref b3), (.ref b3)])) (fun _ k => XS.sipush X3.here hx rfl (hb hby at_13) k) ?_
  refine OGo.go (U' := T3.setTop (mkF m 17 #[.val (.int x0), .val (.int x1), .val (.int x2), .val (.int x3), .val (.int x4), .val (.int y2), .unset, .unset, .unset, .unset, .unset, .unset, .unset] [(.int (x0 &&& (255 : Int32))), (.int (0 : Int32)), (.ref b3), (.ref b3)])) (fun _ k => XS.iand X3.here hx rfl (hb hby at_16) rfl k) ?_
  refine OGo.go (U' := T3.setTop (mkF m 18 #[.val (.int x0), .val (.int x1), .val (.int x2), .val (.int x3), .val (.int x4), .val (.int y2), .unset, .unset, .unset, .unset, .unset, .unset, .unset] [(.int ((x0 &&& (255 : Int32)).toUInt32.toUInt16.toUInt32.toInt32)), (.int (0 : Int32)), (.ref b3), (.ref b3)])) (fun _ k => XS.i2c X3.here hx rfl (hb hby at_17) rfl k) ?_
  obtain ⟨T8, h8, X8, e8, W8, V8, st8⟩ := Arv.stC' X3 hx hZ e3 V3 ⟨by decide, by decide⟩ 0 (by decide) (by simp) (g := (mkF m 18 #[.val (.int x0), .val (.int x1), .val (.int x2), .val (.int x3), .val (.int x4), .val (.int y2), .unset, .unset, .unset, .unset, .unset, .unset, .unset] [(.int ((x0 &&& (255 : Int32)).toUInt32.toUInt16.toUInt32.toInt32)), (.int (0 : Int32)), (.ref b3), (.ref b3)])) rfl rfl (hb hby at_18)
  have N9 := Fr.snoc X8 (Fr.nil n0) g4
  have f10 := f6.wr W8
  have K11 := K7.wr W8 (Or.inr sz5)
  refine OGo.go (U' := T8.setTop (mkF m 19 #[.val (.int x0), .val (.int x1), .val (.int x2), .val (.int x3), .val (.int x4), .val (.int y2), .unset, .unset, .unset, .unset, .unset, .unset, .unset] [(.ref b3)])) st8 ?_
  refine OGo.go (U' := T8.setTop (mkF m 20 #[.val (.int x0), .val (.int x1), .val (.int x2), .val (.int x3), .val (.int x4), .val (.int y2), .unset, .unset, .unset, .unset, .unset, .unset, .unset] [(.ref b3), (.ref b3)])) (fun _ k => XS.dup X8.here hx rfl (hb hby at_19) rfl rfl k) ?_
  refine OGo.go (U' := T8.setTop (mkF m 21 #[.val (.int x0), .val (.int x1), .val (.int x2), .val (.int x3), .val (.int x4), .val (.int y2), .unset, .unset, .unset, .unset, .unset, .unset, .unset] [(.int (1 : Int32)), (.ref b3), (.ref b3)])) (fun _ k => XS.iconst X8.here hx rfl (hb hby at_20) k) ?_
  refine OGo.go (U' := T8.setTop (mkF m 22 #[.val (.int x0), .val (.int x1), .val (.int x2), .val (.int x3), .val (.int x4), .val (.int y2), .unset, .unset, .unset, .unset, .unset, .unset, .unset] [(.int x0), (.int (1 : Int32)), (.ref b3), (.ref b3)])) (fun _ k => XS.iloadN X8.here hx rfl (hb hby at_21) rfl k) ?_
  refine OGo.go (U' := T8.setTop (mkF m 24 #[.val (.int x0), .val (.int x1), .val (.int x2), .val (.int x3), .val (.int x4), .val (.int y2), .unset, .unset, .unset, .unset, .unset, .unset, .unset] [(.int (8 : Int32)), (.int x0), (.int (1 : Int32)), (.ref b3), (.ref b3)])) (fun _ k => XS.bipush X8.here hx rfl (hb hby at_22) k) ?_
  refine OGo.go (U' := T8.setTop (mkF m 25 #[.val (.int x0), .val (.int x1), .val (.int x2), .val (.int x3), .val (.int x4), .val (.int y2), .unset, .unset, .unset, .unset, .unset, .unset, .unset] [(.int ((x0.toUInt32 >>> ((8 : Int32) &&& 31).toUInt32).toInt32)), (.int (1 : Int32)), (.ref b3), (.ref b3)])) (fun _ k => XS.iushr X8.here hx rfl (hb hby at_24) rfl k) ?_
  refine OGo.go (U' := T8.setTop (mkF m 28 #[.val (.int x0), .val (.int x1), .val (.int x2), .val (.int x3), .val (.int x4), .val (.int y2), .unset, .unset, .unset, .unset, .unset, .unset, .unset] [(.int (255 : Int32)), (.int ((x0.toUInt32 >>> ((8 : Int32) &&& 31).toUInt32).toInt32)), (.int (1 : Int32)), (.ref b3), (.ref b3)])) (fun _ k => XS.sipush X8.here hx rfl (hb hby at_25) k) ?_
  refine OGo.go (U' := T8.setTop (mkF m 29 #[.val (.int x0), .val (.int x1), .val (.int x2), .val (.int x3), .val (.int x4), .val (.int y2), .unset, .unset, .unset, .unset, .unset, .unset, .unset] [(.int (((x0.toUInt32 >>> ((8 : Int32) &&& 31).toUInt32).toInt32) &&& (255 : Int32))), (.int (1 : Int32)), (.ref b3), (.ref b3)])) (fun _ k => XS.iand X8.here hx rfl (hb hby at_28) rfl k) ?_
  refine OGo.go (U' := T8.setTop (mkF m 30 #[.val (.int x0), .val (.int x1), .val (.int x2), .val (.int x3), .val (.int x4), .val (.int y2), .unset, .unset, .unset, .unset, .unset, .unset, .unset] [(.int ((((x0.toUInt32 >>> ((8 : Int32) &&& 31).toUInt32).toInt32) &&& (255 : Int32)).toUInt32.toUInt16.toUInt32.toInt32)), (.int (1 : Int32)), (.ref b3), (.ref b3)])) (fun _ k => XS.i2c X8.here hx rfl (hb hby at_29) rfl k) ?_
  obtain ⟨T12, h12, X12, e12, W12, V12, st12⟩ := Arv.stC' X8 hx hZ e8 V8 ⟨by decide, by decide⟩ 1 (by decide) (by simp) (g := (mkF m 30 #[.val (.int x0), .val (.int x1), .val (.int x2), .val (.int x3), .val (.int x4), .val (.int y2), .unset, .unset, .unset, .unset, .unset, .unset, .unset] [(.int ((((x0.toUInt32 >>> ((8 : Int32) &&& 31).toUInt32).toInt32) &&& (255 : Int32)).toUInt32.toUInt16.toUInt32.toInt32)), (.int (1 : Int32)), (.ref b3), (.ref b3)])) rfl rfl (hb hby at_30)
  have N13 := Fr.snoc X12 N9 g4
  have f14 := f10.wr W12
  have K15 := K11.wr W12 (Or.inr sz5)
  refine OGo.go (U' := T12.setTop (mkF m 31 #[.val (.int x0), .val (.int x1), .val (.int x2), .val (.int x3), .val (.int x4), .val (.int y2), .unset, .unset, .unset, .unset, .unset, .unset, .unset] [(.ref b3)])) st12 ?_
  refine OGo.go (U' := T12.setTop (mkF m 33 #[.val (.int x0), .val (.int x1), .val (.int x2), .val (.int x3), .val (.int x4), .val (.int y2), .val (.ref b3), .unset, .unset, .unset, .unset, .unset, .unset] [])) (fun _ k => XS.astore X12.here hx rfl (hb hby at_31) rfl rfl (l' := #[.val (.int x0), .val (.int x1), .val (.int x2), .val (.int x3), .val (.int x4), .val (.int y2), .val (.ref b3), .unset, .unset, .unset, .unset, .unset, .unset]) rfl k) ?_
  refine OGo.go (U' := T12.setTop (mkF m 34 #[.val (.int x0), .val (.int x1), .val (.int x2), .val (.int x3), .val (.int x4), .val (.int y2), .val (.ref b3), .unset, .unset, .unset, .unset, .unset, .unset] [(.int x0)])) (fun _ k => XS.iloadN X12.here hx rfl (hb hby at_33) rfl k) ?_
  refine OGo.go (U' := T12.setTop (mkF m 36 #[.val (.int x0), .val (.int x1), .val (.int x2), .val (.int x3), .val (.int x4), .val (.int y2), .val (.ref b3), .unset, .unset, .unset, .unset, .unset, .unset] [(.int (16 : Int32)), (.int x0)])) (fun _ k => XS.bipush X12.here hx rfl (hb hby at_34) k) ?_
  refine OGo.go (U' := T12.setTop (mkF m 37 #[.val (.int x0), .val (.int x1), .val (.int x2), .val (.int x3), .val (.int x4), .val (.int y2), .val (.ref b3), .unset, .unset, .unset, .unset, .unset, .unset] [(.int ((x0.toUInt32 >>> ((16 : Int32) &&& 31).toUInt32).toInt32))])) (fun _ k => XS.iushr X12.here hx rfl (hb hby at_36) rfl k) ?_
  refine OGo.go (U' := T12.setTop (mkF m 38 #[.val (.int x0), .val (.int x1), .val (.int x2), .val (.int x3), .val (.int x4), .val (.int y2), .val (.ref b3), .unset, .unset, .unset, .unset, .unset, .unset] [(.int (1 : Int32)), (.int ((x0.toUInt32 >>> ((16 : Int32) &&& 31).toUInt32).toInt32))])) (fun _ k => XS.iconst X12.here hx rfl (hb hby at_37) k) ?_
  refine OGo.go (U' := T12.setTop (mkF m 39 #[.val (.int x0), .val (.int x1), .val (.int x2), .val (.int x3), .val (.int x4), .val (.int y2), .val (.ref b3), .unset, .unset, .unset, .unset, .unset, .unset] [(.int (((x0.toUInt32 >>> ((16 : Int32) &&& 31).toUInt32).toInt32) &&& (1 : Int32)))])) (fun _ k => XS.iand X12.here hx rfl (hb hby at_38) rfl k) ?_
  by_cases hc16 : (((x0.toUInt32 >>> ((16 : Int32) &&& 31).toUInt32).toInt32) &&& (1 : Int32)) = (0 : Int32)
  · skip
    refine OGo.go (U' := T12.setTop (mkF m 56 #[.val (.int x0), .val (.int x1), .val (.int x2), .val (.int x3), .val (.int x4), .val (.int y2), .val (.ref b3), .unset, .unset, .unset, .unset, .unset, .unset] [])) (fun _ k => XS.ifYes X12.here hx rfl (pc0 := 39) (pc' := 56) rfl (hb hby at_39) rfl ((if0 _ _).trans (teq hc16).1) (by decide) (by decide) k) ?_
    refine OGo.go (U' := T12.setTop (mkF m 58 #[.val (.int x0), .val (.int x1), .val (.int x2), .val (.int x3), .val (.int x4), .val (.int y2), .val (.ref b3), .unset, .unset, .unset, .unset, .unset, .unset] [(.ref b3)])) (fun _ k => XS.aload X12.here hx rfl (hb hby at_56) rfl rfl k) ?_
    refine OGo.go (U' := T12.setTop (mkF m 59 #[.val (.int x0), .val (.int x1), .val (.int x2), .val (.int x3), .val (.int x4), .val (.int y2), .val (.ref b3), .unset, .unset, .unset, .unset, .unset, .unset] [(.int (0 : Int32)), (.ref b3)])) (fun _ k => XS.iconst X12.here hx rfl (hb hby at_58) k) ?_
    refine OGo.go (U' := T12.setTop (mkF m 60 #[.val (.int x0), .val (.int x1), .val (.int x2), .val (.int x3), .val (.int x4), .val (.int y2), .val (.ref b3), .unset, .unset, .unset, .unset, .unset, .unset] [(.int (nar .char ((x0 &&& (255 : Int32)).toUInt32.toUInt16.toUInt32.toInt32)))])) (fun _ k => Arv.ldC X12 hx hZ e12 V12 (j := 0) ⟨by decide, by decide⟩ (v := (.int (nar .char ((x0 &&& (255 : Int32)).toUInt32.toUInt16.toUInt32.toInt32)))) rfl (g := (mkF m 59 #[.val (.int x0), .val (.int x1), .val (.int x2), .val (.int x3), .val (.int x4), .val (.int y2), .val (.ref b3), .unset, .unset, .unset, .unset, .unset, .unset] [(.int (0 : Int32)), (.ref b3)])) rfl rfl (hb hby at_59) _ k) ?_
    refine OGo.callS X12 hx hZ (y := (⟨"java/lang/String", "valueOf", "(C)Ljava/lang/String;"⟩ : MethodName)) hown (hw _ (List.mem_of_getElem? (i := 6) rfl)) (hw _ (List.mem_of_getElem? (i := 7) rfl)) (hw _ (List.mem_of_getElem? (i := 8) rfl)) (hw _ (List.mem_of_getElem? (i := 9) rfl)) (by decide) (g := (mkF m 60 #[.val (.int x0), .val (.int x1), .val (.int x2), .val (.int x3), .val (.int x4), .val (.int y2), .val (.ref b3), .unset, .unset, .unset, .unset, .unset, .unset] [(.int (nar .char ((x0 &&& (255 : Int32)).toUInt32.toUInt16.toUInt32.toInt32)))])) (argsL := [(.int (nar .char ((x0 &&& (255 : Int32)).toUInt32.toUInt16.toUInt32.toInt32)))]) (rest := []) e12 (rm_vof l Z a0 hw (nar .char ((x0 &&& (255 : Int32)).toUInt32.toUInt16.toUInt32.toInt32)) cs n0 h12 (Nat.le_trans (Nat.le_trans (Nat.le_trans Z0 E3.1) (Keep.of_wr W8).1) (Keep.of_wr W12).1) f14 hcs (own_c8 _)) rfl (by rw [hml]; rfl) (lenOf pd_11 rfl) rfl (W := 0) (by show 2 * 0 + _ ≤ _; exact Nat.le_of_eq rfl) (hb hby at_60) (by decide) (by decide) (by decide) (by decide) ?_
    rintro _ T18 L18 X18 ⟨a18, rfl, N18, K18, Ea18, d18, kd18, zd18, vd18, fs18, Ad18, hz18⟩
    have e18 : T18.heap = T18.heap := rfl
    have N19 := Fr.app N13 N18
    have f20 := own_sta_keep f14 K18 all0
    have f21 := V12.keep K18 nin0
    have K22 := K15.trans K18 all0
    show OGo p e below _ (T18.setTop (mkF m 63 #[.val (.int x0), .val (.int x1), .val (.int x2), .val (.int x3), .val (.int x4), .val (.int y2), .val (.ref b3), .unset, .unset, .unset, .unset, .unset, .unset] [(.ref a18)]))
    refine OGo.go (U' := T18.setTop (mkF m 65 #[.val (.int x0), .val (.int x1), .val (.int x2), .val (.int x3), .val (.int x4), .val (.int y2), .val (.ref b3), .val (.ref a18), .unset, .unset, .unset, .unset, .unset] [])) (fun _ k => XS.astore X18.here hx rfl (hb hby at_63) rfl rfl (l' := #[.val (.int x0), .val (.int x1), .val (.int x2), .val (.int x3), .val (.int x4), .val (.int y2), .val (.ref b3), .val (.ref a18), .unset, .unset, .unset, .unset, .unset]) rfl k) ?_
    obtain ⟨T23, h23, X23, e23, E23, A23, D23, -, st23⟩ := newO X18 hx hZ hown (hw _ (List.mem_of_getElem? (i := 32) rfl)) (hw _ (List.mem_of_getElem? (i := 33) rfl)) (hw _ (List.mem_of_getElem? (i := 34) rfl)) e18 (g := (mkF m 65 #[.val (.int x0), .val (.int x1), .val (.int x2), .val (.int x3), .val (.int x4), .val (.int y2), .val (.ref b3), .val (.ref a18), .unset, .unset, .unset, .unset, .unset] [])) rfl (hb hby at_65) (by decide) (by decide)
    obtain ⟨b23, gb23⟩ : ∃ z, z = T18.heap.size := ⟨_, rfl⟩
    rw [← gb23] at A23 D23 st23
    have ne24 : b3 ≠ b23 := Nat.ne_of_lt (Nat.lt_of_lt_of_le f21.lt (Nat.le_of_eq gb23.symm))
    have ne25 : a18 ≠ b23 := Nat.ne_of_lt (Nat.lt_of_lt_of_le Ea18.lt (Nat.le_of_eq gb23.symm))
    have ne26 : d18 ≠ b23 := Nat.ne_of_lt (Nat.lt_of_lt_of_le Ad18.lt (Nat.le_of_eq gb23.symm))
    have g27 : n0 ≤ b23 := Nat.le_trans (Nat.le_trans (Nat.le_trans (Nat.le_trans (Nat.le_trans Z0 E3.1) (Keep.of_wr W8).1) (Keep.of_wr W12).1) K18.1) (Nat.le_of_eq gb23.symm)
    have sz28 := Nat.le_trans K22.1 (Nat.le_of_eq gb23.symm)
    have f29 := f20.ext E23
    have f30 := f21.ext E23
    have f31 := Ea18.ext E23
    have f32 := fs18.ext E23
    have f33 := Ad18.ext E23
    have K34 := K22.ext E23
    have f35 : Fld Z h23 b23 "com/example/farcall/farcall/model/RemoteReference" "host" "Ljava/lang/String;" .null := D23 (Or.inr (hw _ (List.mem_of_getElem? (i := 51) rfl))) (ty := (.object "java/lang/String")) (by decide)
    have f36 : Fld Z h23 b23 "com/example/farcall/farcall/model/RemoteReference" "port" "I" (.int (0 : Int32)) := D23 (Or.inr (hw _ (List.mem_of_getElem? (i := 53) rfl))) (ty := .int) (by decide)
    have f37 : Fld Z h23 b23 "com/example/farcall/farcall/model/RemoteReference" "program" "I" (.int (0 : Int32)) := D23 (Or.inr (hw _ (List.mem_of_getElem? (i := 55) rfl))) (ty := .int) (by decide)
    have f38 : Fld Z h23 b23 "com/example/farcall/farcall/model/RemoteReference" "version" "I" (.int (0 : Int32)) := D23 (Or.inr (hw _ (List.mem_of_getElem? (i := 57) rfl))) (ty := .int) (by decide)
    refine OGo.go (U' := T23.setTop (mkF m 68 #[.val (.int x0), .val (.int x1), .val (.int x2), .val (.int x3), .val (.int x4), .val (.int y2), .val (.ref b3), .val (.ref a18), .unset, .unset, .unset, .unset, .unset] [(.ref b23)])) st23 ?_
    refine OGo.go (U' := T23.setTop (mkF m 69 #[.val (.int x0), .val (.int x1), .val (.int x2), .val (.int x3), .val (.int x4), .val (.int y2), .val (.ref b3), .val (.ref a18), .unset, .unset, .unset, .unset, .unset] [(.ref b23), (.ref b23)])) (fun _ k => XS.dup X23.here hx rfl (hb hby at_68) rfl rfl k) ?_
    refine OGo.go (U' := T23.setTop (mkF m 71 #[.val (.int x0), .val (.int x1), .val (.int x2), .val (.int x3), .val (.int x4), .val (.int y2), .val (.ref b3), .val (.ref a18), .unset, .unset, .unset, .unset, .unset] [(.ref a18), (.ref b23), (.ref b23)])) (fun _ k => XS.aload X23.here hx rfl (hb hby at_69) rfl rfl k) ?_
    refine OGo.go (U' := T23.setTop (mkF m 73 #[.val (.int x0), .val (.int x1), .val (.int x2), .val (.int x3), .val (.int x4), .val (.int y2), .val (.ref b3), .val (.ref a18), .unset, .unset, .unset, .unset, .unset] [(.int y2), (.ref a18), (.ref b23), (.ref b23)])) (fun _ k => XS.iload X23.here hx rfl (hb hby at_71) rfl k) ?_
    refine OGo.go (U' := T23.setTop (mkF m 74 #[.val (.int x0), .val (.int x1), .val (.int x2), .val (.int x3), .val (.int x4), .val (.int y2), .val (.ref b3), .val (.ref a18), .unset, .unset, .unset, .unset, .unset] [(.int x3), (.int y2), (.ref a18), (.ref b23), (.ref b23)])) (fun _ k => XS.iloadN X23.here hx rfl (hb hby at_73) rfl k) ?_
    refine OGo.go (U' := T23.setTop (mkF m 76 #[.val (.int x0), .val (.int x1), .val (.int x2), .val (.int x3), .val (.int x4), .val (.int y2), .val (.ref b3), .val (.ref a18), .unset, .unset, .unset, .unset, .unset] [(.int x4), (.int x3), (.int y2), (.ref a18), (.ref b23), (.ref b23)])) (fun _ k => XS.iload X23.here hx rfl (hb hby at_74) rfl k) ?_
    refine OGo.callI X23 hx hZ (y := (⟨"com/example/farcall/farcall/model/RemoteReference", "<init>", "(Ljava/lang/String;III)V"⟩ : MethodName)) rfl hown (hw _ (List.mem_of_getElem? (i := 35) rfl)) (hw _ (List.mem_of_getElem? (i := 36) rfl)) (hw _ (List.mem_of_getElem? (i := 34) rfl)) (hw _ (List.mem_of_getElem? (i := 37) rfl)) (by decide) (g := (mkF m 76 #[.val (.int x0), .val (.int x1), .val (.int x2), .val (.int x3), .val (.int x4), .val (.int y2), .val (.ref b3), .val (.ref a18), .unset, .unset, .unset, .unset, .unset] [(.int x4), (.int x3), (.int y2), (.ref a18), (.ref b23), (.ref b23)])) (a := b23) (argsL := [(.ref a18), (.int y2), (.int x3), (.int x4)]) (rest := [(.ref b23)]) e23 (rm_rri l Z a0 hw b23 a18 y2 x3 x4 .null (.int (0 : Int32)) (.int (0 : Int32)) (.int (0 : Int32)) d18 kd18 zd18 vd18 n0 h23 (Nat.le_trans (Nat.le_trans (Nat.le_trans (Nat.le_trans (Nat.le_trans Z0 E3.1) (Keep.of_wr W8).1) (Keep.of_wr W12).1) K18.1) E23.1) A23 f35 f36 f37 f38 g27 f31 f32 f33 hz18 (own_pk hy2).1 (own_pk hy2).2) rfl (by rw [hml]; rfl) (lenOf pd_9 rfl) rfl (W := 1) (by show 2 * 0 + _ ≤ _; exact Nat.le_of_eq rfl) (hb hby at_76) (by decide) (by decide) (by decide) (by decide) ?_
    rintro _ T39 L39 X39 ⟨rfl, N39, K39, Ea39, F39_0, F39_1, F39_2, F39_3⟩
    have e39 : T39.heap = T39.heap := rfl
    have N40 := Fr.app N19 N39
    have f41 := own_sta_keep f29 K39 (allS (P := fun x => ∀ cell : Cell, _ → cell.vm.isStatics = false) (own_plain A23) all0)
    have f42 := f30.keep K39 (ninS ne24 nin0)
    have f43 := A23.keep K39
    have K44 := K34.trans K39 (allS (P := fun x => x ∈ _ ∨ _ ≤ x) (Or.inr sz28) all0)
    refine OGo.go (U' := T39.setTop (mkF m 81 #[.val (.int x0), .val (.int x1), .val (.int x2), .val (.int x3), .val (.int x4), .val (.int y2), .val (.ref b3), .val (.ref a18), .val (.ref b23), .unset, .unset, .unset, .unset] [])) (fun _ k => XS.astore X39.here hx rfl (hb hby at_79) rfl rfl (l' := #[.val (.int x0), .val (.int x1), .val (.int x2), .val (.int x3), .val (.int x4), .val (.int y2), .val (.ref b3), .val (.ref a18), .val (.ref b23), .unset, .unset, .unset, .unset]) rfl k) ?_
    refine OGo.go (U' := T39.setTop (mkF m 83 #[.val (.int x0), .val (.int x1), .val (.int x2), .val (.int x3), .val (.int x4), .val (.int y2), .val (.ref b3), .val (.ref a18), .val (.ref b23), .unset, .unset, .unset, .unset] [(.int y2)])) (fun _ k => XS.iload X39.here hx rfl (hb hby at_81) rfl k) ?_
    refine OGo.ite1 (P := y2 = (0 : Int32)) (fun (z46 : Int32) => T39.setTop (mkF m 91 #[.val (.int x0), .val (.int x1), .val (.int x2), .val (.int x3), .val (.int x4), .val (.int y2), .val (.ref b3), .val (.ref a18), .val (.ref b23), .unset, .unset, .unset, .unset] [(.int z46)])) (x := (1 : Int32)) (y := (0 : Int32)) (fun hc45 k47 => ?_) (fun hc45 k47 => ?_) ?_
    · skip
      refine OGo.go (U' := T39.setTop (mkF m 86 #[.val (.int x0), .val (.int x1), .val (.int x2), .val (.int x3), .val (.int x4), .val (.int y2), .val (.ref b3), .val (.ref a18), .val (.ref b23), .unset, .unset, .unset, .unset] [])) (fun _ k => XS.ifNo X39.here hx rfl (hb hby at_83) rfl ((if0 _ _).trans (teq hc45).2) k) ?_
      refine OGo.go (U' := T39.setTop (mkF m 87 #[.val (.int x0), .val (.int x1), .val (.int x2), .val (.int x3), .val (.int x4), .val (.int y2), .val (.ref b3), .val (.ref a18), .val (.ref b23), .unset, .unset, .unset, .unset] [(.int (1 : Int32))])) (fun _ k => XS.iconst X39.here hx rfl (hb hby at_86) k) ?_
      refine OGo.go (U' := T39.setTop (mkF m 91 #[.val (.int x0), .val (.int x1), .val (.int x2), .val (.int x3), .val (.int x4), .val (.int y2), .val (.ref b3), .val (.ref a18), .val (.ref b23), .unset, .unset, .unset, .unset] [(.int (1 : Int32))])) (fun _ k => XS.goto X39.here hx rfl (pc0 := 87) (pc' := 91) rfl (hb hby at_87) (by decide) (by decide) k) ?_
      exact k47
    · skip
      refine OGo.go (U' := T39.setTop (mkF m 90 #[.val (.int x0), .val (.int x1), .val (.int x2), .val (.int x3), .val (.int x4), .val (.int y2), .val (.ref b3), .val (.ref a18), .val (.ref b23), .unset, .unset, .unset, .unset] [])) (fun _ k => XS.ifYes X39.here hx rfl (pc0 := 83) (pc' := 90) rfl (hb hby at_83) rfl ((if0 _ _).trans (feq hc45).2) (by decide) (by decide) k) ?_
      refine OGo.go (U' := T39.setTop (mkF m 91 #[.val (.int x0), .val (.int x1), .val (.int x2), .val (.int x3), .val (.int x4), .val (.int y2), .val (.ref b3), .val (.ref a18), .val (.ref b23), .unset, .unset, .unset, .unset] [(.int (0 : Int32))])) (fun _ k => XS.iconst X39.here hx rfl (hb hby at_90) k) ?_
      exact k47
    intro z46 hz46
    refine OGo.go (U' := T39.setTop (mkF m 93 #[.val (.int x0), .val (.int x1), .val (.int x2), .val (.int x3), .val (.int x4), .val (.int y2), .val (.ref b3), .val (.ref a18), .val (.ref b23), .val (.int z46), .unset, .unset, .unset] [])) (fun _ k => XS.istore X39.here hx rfl (hb hby at_91) rfl (l' := #[.val (.int x0), .val (.int x1), .val (.int x2), .val (.int x3), .val (.int x4), .val (.int y2), .val (.ref b3), .val (.ref a18), .val (.ref b23), .val (.int z46), .unset, .unset, .unset]) rfl k) ?_
    refine OGo.go (U' := T39.setTop (mkF m 95 #[.val (.int x0), .val (.int x1), .val (.int x2), .val (.int x3), .val (.int x4), .val (.int y2), .val (.ref b3), .val (.ref a18), .val (.ref b23), .val (.int z46), .unset, .unset, .unset] [(.ref b23)])) (fun _ k => XS.aload X39.here hx rfl (hb hby at_93) rfl rfl k) ?_
    refine OGo.callV X39 hx hZ (y := (⟨"com/example/farcall/farcall/model/RemoteReference", "isOverConnection", "()Z"⟩ : MethodName)) (C := "com/example/farcall/farcall/model/RemoteReference") hown (hw _ (List.mem_of_getElem? (i := 58) rfl)) (hw _ (List.mem_of_getElem? (i := 59) rfl)) (hw _ (List.mem_of_getElem? (i := 61) rfl)) (hw _ (List.mem_of_getElem? (i := 60) rfl)) (hw _ (List.mem_of_getElem? (i := 34) rfl)) (hw _ (List.mem_of_getElem? (i := 62) rfl)) (by decide) (g := (mkF m 95 #[.val (.int x0), .val (.int x1), .val (.int x2), .val (.int x3), .val (.int x4), .val (.int y2), .val (.ref b3), .val (.ref a18), .val (.ref b23), .val (.int z46), .unset, .unset, .unset] [(.ref b23)])) (a := b23) (argsL := []) (rest := []) e39 Ea39 (rm_iso l Z a0 hw b23 y2 T39.heap F39_1) rfl (by rw [hml]; rfl) (lenOf pd_1 rfl) rfl (W := 0) (by show 2 * 0 + _ ≤ _; exact Nat.le_of_eq rfl) (hb hby at_95) (by decide) (by decide) (by decide) (by decide) ?_
    rintro _ T48 _ X48 ⟨rfl, e48, rfl⟩
    rw [List.append_nil] at X48
    refine OGo.nm (fun (y49 : Int32) => T48.setTop (mkF m 98 #[.val (.int x0), .val (.int x1), .val (.int x2), .val (.int x3), .val (.int x4), .val (.int y2), .val (.ref b3), .val (.ref a18), .val (.ref b23), .val (.int z46), .unset, .unset, .unset] [(.int y49)])) (x := (F_iso y2)) (fun y49 hy49 => ?_)
    refine OGo.go (U' := T48.setTop (mkF m 100 #[.val (.int x0), .val (.int x1), .val (.int x2), .val (.int x3), .val (.int x4), .val (.int y2), .val (.ref b3), .val (.ref a18), .val (.ref b23), .val (.int z46), .unset, .unset, .unset] [(.int z46), (.int y49)])) (fun _ k => XS.iload X48.here hx rfl (hb hby at_98) rfl k) ?_
    refine OGo.ite1 (P := y49 = z46) (fun (z51 : Int32) => T48.setTop (mkF m 108 #[.val (.int x0), .val (.int x1), .val (.int x2), .val (.int x3), .val (.int x4), .val (.int y2), .val (.ref b3), .val (.ref a18), .val (.ref b23), .val (.int z46), .unset, .unset, .unset] [(.int z51)])) (x := (1 : Int32)) (y := (0 : Int32)) (fun hc50 k52 => ?_) (fun hc50 k52 => ?_) ?_
    · skip
      refine OGo.go (U' := T48.setTop (mkF m 103 #[.val (.int x0), .val (.int x1), .val (.int x2), .val (.int x3), .val (.int x4), .val (.int y2), .val (.ref b3), .val (.ref a18), .val (.ref b23), .val (.int z46), .unset, .unset, .unset] [])) (fun _ k => XS.icmpNo X48.here hx rfl (hb hby at_100) rfl (teq hc50).2 k) ?_
      refine OGo.go (U' := T48.setTop (mkF m 104 #[.val (.int x0), .val (.int x1), .val (.int x2), .val (.int x3), .val (.int x4), .val (.int y2), .val (.ref b3), .val (.ref a18), .val (.ref b23), .val (.int z46), .unset, .unset, .unset] [(.int (1 : Int32))])) (fun _ k => XS.iconst X48.here hx rfl (hb hby at_103) k) ?_
      refine OGo.go (U' := T48.setTop (mkF m 108 #[.val (.int x0), .val (.int x1), .val (.int x2), .val (.int x3), .val (.int x4), .val (.int y2), .val (.ref b3), .val (.ref a18), .val (.ref b23), .val (.int z46), .unset, .unset, .unset] [(.int (1 : Int32))])) (fun _ k => XS.goto X48.here hx rfl (pc0 := 104) (pc' := 108) rfl (hb hby at_104) (by decide) (by decide) k) ?_
      exact k52
    · skip
      refine OGo.go (U' := T48.setTop (mkF m 107 #[.val (.int x0), .val (.int x1), .val (.int x2), .val (.int x3), .val (.int x4), .val (.int y2), .val (.ref b3), .val (.ref a18), .val (.ref b23), .val (.int z46), .unset, .unset, .unset] [])) (fun _ k => XS.icmpYes X48.here hx rfl (pc0 := 100) (pc' := 107) rfl (hb hby at_100) rfl (feq hc50).2 (by decide) (by decide) k) ?_
      refine OGo.go (U' := T48.setTop (mkF m 108 #[.val (.int x0), .val (.int x1), .val (.int x2), .val (.int x3), .val (.int x4), .val (.int y2), .val (.ref b3), .val (.ref a18), .val (.ref b23), .val (.int z46), .unset, .unset, .unset] [(.int (0 : Int32))])) (fun _ k => XS.iconst X48.here hx rfl (hb hby at_107) k) ?_
      exact k52
    intro z51 hz51
    refine OGo.go (U' := T48.setTop (mkF m 110 #[.val (.int x0), .val (.int x1), .val (.int x2), .val (.int x3), .val (.int x4), .val (.int y2), .val (.ref b3), .val (.ref a18), .val (.ref b23), .val (.int z46), .val (.int z51), .unset, .unset] [])) (fun _ k => XS.istore X48.here hx rfl (hb hby at_108) rfl (l' := #[.val (.int x0), .val (.int x1), .val (.int x2), .val (.int x3), .val (.int x4), .val (.int y2), .val (.ref b3), .val (.ref a18), .val (.ref b23), .val (.int z46), .val (.int z51), .unset, .unset]) rfl k) ?_
    refine OGo.go (U' := T48.setTop (mkF m 111 #[.val (.int x0), .val (.int x1), .val (.int x2), .val (.int x3), .val (.int x4), .val (.int y2), .val (.ref b3), .val (.ref a18), .val (.ref b23), .val (.int z46), .val (.int z51), .unset, .unset] [(.int x3)])) (fun _ k => XS.iloadN X48.here hx rfl (hb hby at_110) rfl k) ?_
    refine OGo.go (U' := T48.setTop (mkF m 113 #[.val (.int x0), .val (.int x1), .val (.int x2), .val (.int x3), .val (.int x4), .val (.int y2), .val (.ref b3), .val (.ref a18), .val (.ref b23), .val (.int z46), .val (.int z51), .unset, .unset] [(.int x4), (.int x3)])) (fun _ k => XS.iload X48.here hx rfl (hb hby at_111) rfl k) ?_
    refine OGo.callSV (s := s) (vm0 := s.vm) X48 hx hZ ((State.WarmedH.refl s).since 0) (Nat.zero_le _) hEL (CHr.keep K44 (fun _ q => nomatch q) Cv0).1 (y := (⟨"com/example/farcall/farcall/model/RemoteReference", "overConnection", "(II)Lcom/example/farcall/farcall/model/RemoteReference;"⟩ : MethodName)) hown (hw _ (List.mem_of_getElem? (i := 63) rfl)) (hw _ (List.mem_of_getElem? (i := 64) rfl)) (hw _ (List.mem_of_getElem? (i := 34) rfl)) (hw _ (List.mem_of_getElem? (i := 65) rfl)) (by decide) (g := (mkF m 113 #[.val (.int x0), .val (.int x1), .val (.int x2), .val (.int x3), .val (.int x4), .val (.int y2), .val (.ref b3), .val (.ref a18), .val (.ref b23), .val (.int z46), .val (.int z51), .unset, .unset] [(.int x4), (.int x3)])) (argsL := [(.int x3), (.int x4)]) (rest := []) e48 (rm_oc l Z a0 hw x3 x4 n0 T39.heap (Nat.le_trans (Nat.le_trans (Nat.le_trans (Nat.le_trans (Nat.le_trans (Nat.le_trans Z0 E3.1) (Keep.of_wr W8).1) (Keep.of_wr W12).1) K18.1) E23.1) K39.1)) rfl (by rw [hml]; rfl) (lenOf pd_12 rfl) rfl (W := 0) (by show 2 * 0 + _ ≤ _; exact Nat.le_of_eq rfl) (hb hby at_113) (by decide) (by decide) (by decide) (by decide) ?_
    rintro _ T53 L53 X53 ⟨b53, rfl, N53, Eb53, fp53⟩ hS53 hZ53 hown53
    have N54 := Fr.app N40 N53
    show OGo p e below _ (T53.setTop (mkF m 116 #[.val (.int x0), .val (.int x1), .val (.int x2), .val (.int x3), .val (.int x4), .val (.int y2), .val (.ref b3), .val (.ref a18), .val (.ref b23), .val (.int z46), .val (.int z51), .unset, .unset] [(.ref b53)]))
    refine OGo.go (U' := T53.setTop (mkF m 118 #[.val (.int x0), .val (.int x1), .val (.int x2), .val (.int x3), .val (.int x4), .val (.int y2), .val (.ref b3), .val (.ref a18), .val (.ref b23), .val (.int z46), .val (.int z51), .val (.ref b53), .unset] [])) (fun _ k => XS.astore X53.here hx rfl (hb hby at_116) rfl rfl (l' := #[.val (.int x0), .val (.int x1), .val (.int x2), .val (.int x3), .val (.int x4), .val (.int y2), .val (.ref b3), .val (.ref a18), .val (.ref b23), .val (.int z46), .val (.int z51), .val (.ref b53), .unset]) rfl k) ?_
    refine OGo.go (U' := T53.setTop (mkF m 120 #[.val (.int x0), .val (.int x1), .val (.int x2), .val (.int x3), .val (.int x4), .val (.int y2), .val (.ref b3), .val (.ref a18), .val (.ref b23), .val (.int z46), .val (.int z51), .val (.ref b53), .unset] [(.ref b53)])) (fun _ k => XS.aload X53.here hx rfl (hb hby at_118) rfl rfl k) ?_
    refine OGo.callV X53 hx hZ53 (y := (⟨"com/example/farcall/farcall/model/RemoteReference", "isOverConnection", "()Z"⟩ : MethodName)) (C := "com/example/farcall/farcall/model/RemoteReference") hown53 (hw _ (List.mem_of_getElem? (i := 58) rfl)) (hw _ (List.mem_of_getElem? (i := 59) rfl)) (hw _ (List.mem_of_getElem? (i := 61) rfl)) (hw _ (List.mem_of_getElem? (i := 60) rfl)) (hw _ (List.mem_of_getElem? (i := 34) rfl)) (hw _ (List.mem_of_getElem? (i := 62) rfl)) (by decide) (g := (mkF m 120 #[.val (.int x0), .val (.int x1), .val (.int x2), .val (.int x3), .val (.int x4), .val (.int y2), .val (.ref b3), .val (.ref a18), .val (.ref b23), .val (.int z46), .val (.int z51), .val (.ref b53), .unset] [(.ref b53)])) (a := b53) (argsL := []) (rest := []) (rfl : T53.heap = T53.heap) Eb53 (rm_iso l Z a0 hw b53 (0 : Int32) T53.heap fp53) rfl (by rw [hml]; rfl) (lenOf pd_1 rfl) rfl (W := 0) (by show 2 * 0 + _ ≤ _; exact Nat.le_of_eq rfl) (hb hby at_120) (by decide) (by decide) (by decide) (by decide) ?_
    rintro _ T55 _ X55 ⟨rfl, e55, rfl⟩
    rw [List.append_nil] at X55
    refine OGo.nm (fun (y56 : Int32) => T55.setTop (mkF m 123 #[.val (.int x0), .val (.int x1), .val (.int x2), .val (.int x3), .val (.int x4), .val (.int y2), .val (.ref b3), .val (.ref a18), .val (.ref b23), .val (.int z46), .val (.int z51), .val (.ref b53), .unset] [(.int y56)])) (x := (F_iso (0 : Int32))) (fun y56 hy56 => ?_)
    refine OGo.go (U' := T55.setTop (mkF m 125 #[.val (.int x0), .val (.int x1), .val (.int x2), .val (.int x3), .val (.int x4), .val (.int y2), .val (.ref b3), .val (.ref a18), .val (.ref b23), .val (.int z46), .val (.int z51), .val (.ref b53), .val (.int y56)] [])) (fun _ k => XS.istore X55.here hx rfl (hb hby at_123) rfl (l' := #[.val (.int x0), .val (.int x1), .val (.int x2), .val (.int x3), .val (.int x4), .val (.int y2), .val (.ref b3), .val (.ref a18), .val (.ref b23), .val (.int z46), .val (.int z51), .val (.ref b53), .val (.int y56)]) rfl k) ?_
    refine OGo.go (U' := T55.setTop (mkF m 127 #[.val (.int x0), .val (.int x1), .val (.int x2), .val (.int x3), .val (.int x4), .val (.int y2), .val (.ref b3), .val (.ref a18), .val (.ref b23), .val (.int z46), .val (.int z51), .val (.ref b53), .val (.int y56)] [(.int z51)])) (fun _ k => XS.iload X55.here hx rfl (hb hby at_125) rfl k) ?_
    refine OGo.ite1 (P := z51 = (0 : Int32)) (fun (z58 : Int32) => T55.setTop (mkF m 140 #[.val (.int x0), .val (.int x1), .val (.int x2), .val (.int x3), .val (.int x4), .val (.int y2), .val (.ref b3), .val (.ref a18), .val (.ref b23), .val (.int z46), .val (.int z51), .val (.ref b53), .val (.int y56)] [(.int z58)])) (x := (0 : Int32)) (y := (if y56 = (0 : Int32) then (0 : Int32) else (1 : Int32))) (fun hc57 k59 => ?_) (fun hc57 k59 => ?_) ?_
    · skip
      refine OGo.go (U' := T55.setTop (mkF m 139 #[.val (.int x0), .val (.int x1), .val (.int x2), .val (.int x3), .val (.int x4), .val (.int y2), .val (.ref b3), .val (.ref a18), .val (.ref b23), .val (.int z46), .val (.int z51), .val (.ref b53), .val (.int y56)] [])) (fun _ k => XS.ifYes X55.here hx rfl (pc0 := 127) (pc' := 139) rfl (hb hby at_127) rfl ((if0 _ _).trans (teq hc57).1) (by decide) (by decide) k) ?_
      refine OGo.go (U' := T55.setTop (mkF m 140 #[.val (.int x0), .val (.int x1), .val (.int x2), .val (.int x3), .val (.int x4), .val (.int y2), .val (.ref b3), .val (.ref a18), .val (.ref b23), .val (.int z46), .val (.int z51), .val (.ref b53), .val (.int y56)] [(.int (0 : Int32))])) (fun _ k => XS.iconst X55.here hx rfl (hb hby at_139) k) ?_
      exact k59
    · skip
      refine OGo.go (U' := T55.setTop (mkF m 130 #[.val (.int x0), .val (.int x1), .val (.int x2), .val (.int x3), .val (.int x4), .val (.int y2), .val (.ref b3), .val (.ref a18), .val (.ref b23), .val (.int z46), .val (.int z51), .val (.ref b53), .val (.int y56)] [])) (fun _ k => XS.ifNo X55.here hx rfl (hb hby at_127) rfl ((if0 _ _).trans (feq hc57).1) k) ?_
      refine OGo.go (U' := T55.setTop (mkF m 132 #[.val (.int x0), .val (.int x1), .val (.int x2), .val (.int x3), .val (.int x4), .val (.int y2), .val (.ref b3), .val (.ref a18), .val (.ref b23), .val (.int z46), .val (.int z51), .val (.ref b53), .val (.int y56)] [(.int y56)])) (fun _ k => XS.iload X55.here hx rfl (hb hby at_130) rfl k) ?_
      refine OGo.ite1 (P := y56 = (0 : Int32)) (fun (z61 : Int32) => T55.setTop (mkF m 140 #[.val (.int x0), .val (.int x1), .val (.int x2), .val (.int x3), .val (.int x4), .val (.int y2), .val (.ref b3), .val (.ref a18), .val (.ref b23), .val (.int z46), .val (.int z51), .val (.ref b53), .val (.int y56)] [(.int z61)])) (x := (0 : Int32)) (y := (1 : Int32)) (fun hc60 k62 => ?_) (fun hc60 k62 => ?_) (fun z61 hz61 => by subst hz61; exact k59)
      · skip
        refine OGo.go (U' := T55.setTop (mkF m 139 #[.val (.int x0), .val (.int x1), .val (.int x2), .val (.int x3), .val (.int x4), .val (.int y2), .val (.ref b3), .val (.ref a18), .val (.ref b23), .val (.int z46), .val (.int z51), .val (.ref b53), .val (.int y56)] [])) (fun _ k => XS.ifYes X55.here hx rfl (pc0 := 132) (pc' := 139) rfl (hb hby at_132) rfl ((if0 _ _).trans (teq hc60).1) (by decide) (by decide) k) ?_
        refine OGo.go (U' := T55.setTop (mkF m 140 #[.val (.int x0), .val (.int x1), .val (.int x2), .val (.int x3), .val (.int x4), .val (.int y2), .val (.ref b3), .val (.ref a18), .val (.ref b23), .val (.int z46), .val (.int z51), .val (.ref b53), .val (.int y56)] [(.int (0 : Int32))])) (fun _ k => XS.iconst X55.here hx rfl (hb hby at_139) k) ?_
        exact k62
      · skip
        refine OGo.go (U' := T55.setTop (mkF m 135 #[.val (.int x0), .val (.int x1), .val (.int x2), .val (.int x3), .val (.int x4), .val (.int y2), .val (.ref b3), .val (.ref a18), .val (.ref b23), .val (.int z46), .val (.int z51), .val (.ref b53), .val (.int y56)] [])) (fun _ k => XS.ifNo X55.here hx rfl (hb hby at_132) rfl ((if0 _ _).trans (feq hc60).1) k) ?_
        refine OGo.go (U' := T55.setTop (mkF m 136 #[.val (.int x0), .val (.int x1), .val (.int x2), .val (.int x3), .val (.int x4), .val (.int y2), .val (.ref b3), .val (.ref a18), .val (.ref b23), .val (.int z46), .val (.int z51), .val (.ref b53), .val (.int y56)] [(.int (1 : Int32))])) (fun _ k => XS.iconst X55.here hx rfl (hb hby at_135) k) ?_
        refine OGo.go (U' := T55.setTop (mkF m 140 #[.val (.int x0), .val (.int x1), .val (.int x2), .val (.int x3), .val (.int x4), .val (.int y2), .val (.ref b3), .val (.ref a18), .val (.ref b23), .val (.int z46), .val (.int z51), .val (.ref b53), .val (.int y56)] [(.int (1 : Int32))])) (fun _ k => XS.goto X55.here hx rfl (pc0 := 136) (pc' := 140) rfl (hb hby at_136) (by decide) (by decide) k) ?_
        exact k62
    intro z58 hz58
    refine OGo.retNW X55 hS53 (by rw [e55]; exact (Nat.le_refl _)) hx (t := .boolean) hret hlk (by simp) (hb hby at_140) ?_ (by decide) (by decide)
    exact ⟨own_ret_0 hy2 hc16 hz46 hy49 hz51 hy56 hz58, N54⟩
  · skip
    refine OGo.go (U' := T12.setTop (mkF m 42 #[.val (.int x0), .val (.int x1), .val (.int x2), .val (.int x3), .val (.int x4), .val (.int y2), .val (.ref b3), .unset, .unset, .unset, .unset, .unset, .unset] [])) (fun _ k => XS.ifNo X12.here hx rfl (hb hby at_39) rfl ((if0 _ _).trans (feq hc16).1) k) ?_
    obtain ⟨T63, h63, X63, e63, E63, A63, D63, -, st63⟩ := newO X12 hx hZ hown (hw _ (List.mem_of_getElem? (i := 71) rfl)) (hw _ (List.mem_of_getElem? (i := 16) rfl)) (hw _ (List.mem_of_getElem? (i := 8) rfl)) e12 (g := (mkF m 42 #[.val (.int x0), .val (.int x1), .val (.int x2), .val (.int x3), .val (.int x4), .val (.int y2), .val (.ref b3), .unset, .unset, .unset, .unset, .unset, .unset] [])) rfl (hb hby at_42) (by decide) (by decide)
    obtain ⟨b63, gb63⟩ : ∃ z, z = h12.size := ⟨_, rfl⟩
    rw [← gb63] at A63 D63 st63
    have ne64 : b3 ≠ b63 := Nat.ne_of_lt (Nat.lt_of_lt_of_le V12.lt (Nat.le_of_eq gb63.symm))
    have g65 : n0 ≤ b63 := Nat.le_trans (Nat.le_trans (Nat.le_trans (Nat.le_trans Z0 E3.1) (Keep.of_wr W8).1) (Keep.of_wr W12).1) (Nat.le_of_eq gb63.symm)
    have sz66 := Nat.le_trans K15.1 (Nat.le_of_eq gb63.symm)
    have f67 := f14.ext E63
    have f68 := V12.ext E63
    have K69 := K15.ext E63
    have f70 : Fld Z h63 b63 "java/lang/String" "value" "[B" .null := D63 (Or.inr (hw _ (List.mem_of_getElem? (i := 29) rfl))) (ty := (.array .byte)) (by decide)
    have f71 : Fld Z h63 b63 "java/lang/String" "coder" "B" (.int (0 : Int32)) := D63 (Or.inr (hw _ (List.mem_of_getElem? (i := 31) rfl))) (ty := .byte) (by decide)
    refine OGo.go (U' := T63.setTop (mkF m 45 #[.val (.int x0), .val (.int x1), .val (.int x2), .val (.int x3), .val (.int x4), .val (.int y2), .val (.ref b3), .unset, .unset, .unset, .unset, .unset, .unset] [(.ref b63)])) st63 ?_
    refine OGo.go (U' := T63.setTop (mkF m 46 #[.val (.int x0), .val (.int x1), .val (.int x2), .val (.int x3), .val (.int x4), .val (.int y2), .val (.ref b3), .unset, .unset, .unset, .unset, .unset, .unset] [(.ref b63), (.ref b63)])) (fun _ k => XS.dup X63.here hx rfl (hb hby at_45) rfl rfl k) ?_
    refine OGo.go (U' := T63.setTop (mkF m 48 #[.val (.int x0), .val (.int x1), .val (.int x2), .val (.int x3), .val (.int x4), .val (.int y2), .val (.ref b3), .unset, .unset, .unset, .unset, .unset, .unset] [(.ref b3), (.ref b63), (.ref b63)])) (fun _ k => XS.aload X63.here hx rfl (hb hby at_46) rfl rfl k) ?_
    refine OGo.callI X63 hx hZ (y := (⟨"java/lang/String", "<init>", "([C)V"⟩ : MethodName)) rfl hown (hw _ (List.mem_of_getElem? (i := 72) rfl)) (hw _ (List.mem_of_getElem? (i := 73) rfl)) (hw _ (List.mem_of_getElem? (i := 8) rfl)) (hw _ (List.mem_of_getElem? (i := 74) rfl)) (by decide) (g := (mkF m 48 #[.val (.int x0), .val (.int x1), .val (.int x2), .val (.int x3), .val (.int x4), .val (.int y2), .val (.ref b3), .unset, .unset, .unset, .unset, .unset, .unset] [(.ref b3), (.ref b63), (.ref b63)])) (a := b63) (argsL := [(.ref b3)]) (rest := [(.ref b63)]) e63 (rm_si1 l Z a0 hw b63 b3 .null (.int (0 : Int32)) k3 (nar .char ((x0 &&& (255 : Int32)).toUInt32.toUInt16.toUInt32.toInt32)) (nar .char ((((x0.toUInt32 >>> ((8 : Int32) &&& 31).toUInt32).toInt32) &&& (255 : Int32)).toUInt32.toUInt16.toUInt32.toInt32)) cs n0 h63 (Nat.le_trans (Nat.le_trans (Nat.le_trans (Nat.le_trans Z0 E3.1) (Keep.of_wr W8).1) (Keep.of_wr W12).1) E63.1) A63 f70 f71 g65 (Ne.symm ne64) f68 (own_c8 _) (own_c8 _) f67 hcs) rfl (by rw [hml]; rfl) (lenOf pd_13 rfl) rfl (W := 1) (by show 2 * 0 + _ ≤ _; exact Nat.le_of_eq rfl) (hb hby at_48) (by decide) (by decide) (by decide) (by decide) ?_
    rintro _ T72 L72 X72 ⟨rfl, N72, K72, Ea72, d72, kd72, zd72, vd72, fs72, Ad72, hz72⟩
    have e72 : T72.heap = T72.heap := rfl
    have N73 := Fr.app N13 N72
    have f74 := own_sta_keep f67 K72 (allS (P := fun x => ∀ cell : Cell, _ → cell.vm.isStatics = false) (own_plain A63) all0)
    have f75 := f68.keep K72 (ninS ne64 nin0)
    have f76 := A63.keep K72
    have K77 := K69.trans K72 (allS (P := fun x => x ∈ _ ∨ _ ≤ x) (Or.inr sz66) all0)
    show OGo p e below _ (T72.setTop (mkF m 51 #[.val (.int x0), .val (.int x1), .val (.int x2), .val (.int x3), .val (.int x4), .val (.int y2), .val (.ref b3), .unset, .unset, .unset, .unset, .unset, .unset] [(.ref b63)]))
    refine OGo.go (U' := T72.setTop (mkF m 53 #[.val (.int x0), .val (.int x1), .val (.int x2), .val (.int x3), .val (.int x4), .val (.int y2), .val (.ref b3), .val (.ref b63), .unset, .unset, .unset, .unset, .unset] [])) (fun _ k => XS.astore X72.here hx rfl (hb hby at_51) rfl rfl (l' := #[.val (.int x0), .val (.int x1), .val (.int x2), .val (.int x3), .val (.int x4), .val (.int y2), .val (.ref b3), .val (.ref b63), .unset, .unset, .unset, .unset, .unset]) rfl k) ?_
    refine OGo.go (U' := T72.setTop (mkF m 65 #[.val (.int x0), .val (.int x1), .val (.int x2), .val (.int x3), .val (.int x4), .val (.int y2), .val (.ref b3), .val (.ref b63), .unset, .unset, .unset, .unset, .unset] [])) (fun _ k => XS.goto X72.here hx rfl (pc0 := 53) (pc' := 65) rfl (hb hby at_53) (by decide) (by decide) k) ?_
    obtain ⟨T78, h78, X78, e78, E78, A78, D78, -, st78⟩ := newO X72 hx hZ hown (hw _ (List.mem_of_getElem? (i := 32) rfl)) (hw _ (List.mem_of_getElem? (i := 33) rfl)) (hw _ (List.mem_of_getElem? (i := 34) rfl)) e72 (g := (mkF m 65 #[.val (.int x0), .val (.int x1), .val (.int x2), .val (.int x3), .val (.int x4), .val (.int y2), .val (.ref b3), .val (.ref b63), .unset, .unset, .unset, .unset, .unset] [])) rfl (hb hby at_65) (by decide) (by decide)
    obtain ⟨b78, gb78⟩ : ∃ z, z = T72.heap.size := ⟨_, rfl⟩
    rw [← gb78] at A78 D78 st78
    have ne79 : b3 ≠ b78 := Nat.ne_of_lt (Nat.lt_of_lt_of_le f75.lt (Nat.le_of_eq gb78.symm))
    have ne80 : b63 ≠ b78 := Nat.ne_of_lt (Nat.lt_of_lt_of_le Ea72.lt (Nat.le_of_eq gb78.symm))
    have ne81 : d72 ≠ b78 := Nat.ne_of_lt (Nat.lt_of_lt_of_le Ad72.lt (Nat.le_of_eq gb78.symm))
    have g82 : n0 ≤ b78 := Nat.le_trans (Nat.le_trans (Nat.le_trans (Nat.le_trans (Nat.le_trans (Nat.le_trans Z0 E3.1) (Keep.of_wr W8).1) (Keep.of_wr W12).1) E63.1) K72.1) (Nat.le_of_eq gb78.symm)
    have sz83 := Nat.le_trans K77.1 (Nat.le_of_eq gb78.symm)
    have f84 := f74.ext E78
    have f85 := f75.ext E78
    have f86 := Ea72.ext E78
    have f87 := fs72.ext E78
    have f88 := Ad72.ext E78
    have K89 := K77.ext E78
    have f90 : Fld Z h78 b78 "com/example/farcall/farcall/model/RemoteReference" "host" "Ljava/lang/String;" .null := D78 (Or.inr (hw _ (List.mem_of_getElem? (i := 51) rfl))) (ty := (.object "java/lang/String")) (by decide)
    have f91 : Fld Z h78 b78 "com/example/farcall/farcall/model/RemoteReference" "port" "I" (.int (0 : Int32)) := D78 (Or.inr (hw _ (List.mem_of_getElem? (i := 53) rfl))) (ty := .int) (by decide)
    have f92 : Fld Z h78 b78 "com/example/farcall/farcall/model/RemoteReference" "program" "I" (.int (0 : Int32)) := D78 (Or.inr (hw _ (List.mem_of_getElem? (i := 55) rfl))) (ty := .int) (by decide)
    have f93 : Fld Z h78 b78 "com/example/farcall/farcall/model/RemoteReference" "version" "I" (.int (0 : Int32)) := D78 (Or.inr (hw _ (List.mem_of_getElem? (i := 57) rfl))) (ty := .int) (by decide)
    refine OGo.go (U' := T78.setTop (mkF m 68 #[.val (.int x0), .val (.int x1), .val (.int x2), .val (.int x3), .val (.int x4), .val (.int y2), .val (.ref b3), .val (.ref b63), .unset, .unset, .unset, .unset, .unset] [(.ref b78)])) st78 ?_
    refine OGo.go (U' := T78.setTop (mkF m 69 #[.val (.int x0), .val (.int x1), .val (.int x2), .val (.int x3), .val (.int x4), .val (.int y2), .val (.ref b3), .val (.ref b63), .unset, .unset, .unset, .unset, .unset] [(.ref b78), (.ref b78)])) (fun _ k => XS.dup X78.here hx rfl (hb hby at_68) rfl rfl k) ?_
    refine OGo.go (U' := T78.setTop (mkF m 71 #[.val (.int x0), .val (.int x1), .val (.int x2), .val (.int x3), .val (.int x4), .val (.int y2), .val (.ref b3), .val (.ref b63), .unset, .unset, .unset, .unset, .unset] [(.ref b63), (.ref b78), (.ref b78)])) (fun _ k => XS.aload X78.here hx rfl (hb hby at_69) rfl rfl k) ?_
    refine OGo.go (U' := T78.setTop (mkF m 73 #[.val (.int x0), .val (.int x1), .val (.int x2), .val (.int x3), .val (.int x4), .val (.int y2), .val (.ref b3), .val (.ref b63), .unset, .unset, .unset, .unset, .unset] [(.int y2), (.ref b63), (.ref b78), (.ref b78)])) (fun _ k => XS.iload X78.here hx rfl (hb hby at_71) rfl k) ?_
    refine OGo.go (U' := T78.setTop (mkF m 74 #[.val (.int x0), .val (.int x1), .val (.int x2), .val (.int x3), .val (.int x4), .val (.int y2), .val (.ref b3), .val (.ref b63), .unset, .unset, .unset, .unset, .unset] [(.int x3), (.int y2), (.ref b63), (.ref b78), (.ref b78)])) (fun _ k => XS.iloadN X78.here hx rfl (hb hby at_73) rfl k) ?_
    refine OGo.go (U' := T78.setTop (mkF m 76 #[.val (.int x0), .val (.int x1), .val (.int x2), .val (.int x3), .val (.int x4), .val (.int y2), .val (.ref b3), .val (.ref b63), .unset, .unset, .unset, .unset, .unset] [(.int x4), (.int x3), (.int y2), (.ref b63), (.ref b78), (.ref b78)])) (fun _ k => XS.iload X78.here hx rfl (hb hby at_74) rfl k) ?_
    refine OGo.callI X78 hx hZ (y := (⟨"com/example/farcall/farcall/model/RemoteReference", "<init>", "(Ljava/lang/String;III)V"⟩ : MethodName)) rfl hown (hw _ (List.mem_of_getElem? (i := 35) rfl)) (hw _ (List.mem_of_getElem? (i := 36) rfl)) (hw _ (List.mem_of_getElem? (i := 34) rfl)) (hw _ (List.mem_of_getElem? (i := 37) rfl)) (by decide) (g := (mkF m 76 #[.val (.int x0), .val (.int x1), .val (.int x2), .val (.int x3), .val (.int x4), .val (.int y2), .val (.ref b3), .val (.ref b63), .unset, .unset, .unset, .unset, .unset] [(.int x4), (.int x3), (.int y2), (.ref b63), (.ref b78), (.ref b78)])) (a := b78) (argsL := [(.ref b63), (.int y2), (.int x3), (.int x4)]) (rest := [(.ref b78)]) e78 (rm_rri l Z a0 hw b78 b63 y2 x3 x4 .null (.int (0 : Int32)) (.int (0 : Int32)) (.int (0 : Int32)) d72 kd72 zd72 vd72 n0 h78 (Nat.le_trans (Nat.le_trans (Nat.le_trans (Nat.le_trans (Nat.le_trans (Nat.le_trans Z0 E3.1) (Keep.of_wr W8).1) (Keep.of_wr W12).1) E63.1) K72.1) E78.1) A78 f90 f91 f92 f93 g82 f86 f87 f88 hz72 (own_pk hy2).1 (own_pk hy2).2) rfl (by rw [hml]; rfl) (lenOf pd_9 rfl) rfl (W := 1) (by show 2 * 0 + _ ≤ _; exact Nat.le_of_eq rfl) (hb hby at_76) (by decide) (by decide) (by decide) (by decide) ?_
    rintro _ T94 L94 X94 ⟨rfl, N94, K94, Ea94, F94_0, F94_1, F94_2, F94_3⟩
    have e94 : T94.heap = T94.heap := rfl
    have N95 := Fr.app N73 N94
    have f96 := own_sta_keep f84 K94 (allS (P := fun x => ∀ cell : Cell, _ → cell.vm.isStatics = false) (own_plain A78) all0)
    have f97 := f85.keep K94 (ninS ne79 nin0)
    have f98 := A78.keep K94
    have K99 := K89.trans K94 (allS (P := fun x => x ∈ _ ∨ _ ≤ x) (Or.inr sz83) all0)
    refine OGo.go (U' := T94.setTop (mkF m 81 #[.val (.int x0), .val (.int x1), .val (.int x2), .val (.int x3), .val (.int x4), .val (.int y2), .val (.ref b3), .val (.ref b63), .val (.ref b78), .unset, .unset, .unset, .unset] [])) (fun _ k => XS.astore X94.here hx rfl (hb hby at_79) rfl rfl (l' := #[.val (.int x0), .val (.int x1), .val (.int x2), .val (.int x3), .val (.int x4), .val (.int y2), .val (.ref b3), .val (.ref b63), .val (.ref b78), .unset, .unset, .unset, .unset]) rfl k) ?_
    refine OGo.go (U' := T94.setTop (mkF m 83 #[.val (.int x0), .val (.int x1), .val (.int x2), .val (.int x3), .val (.int x4), .val (.int y2), .val (.ref b3), .val (.ref b63), .val (.ref b78), .unset, .unset, .unset, .unset] [(.int y2)])) (fun _ k => XS.iload X94.here hx rfl (hb hby at_81) rfl k) ?_
    refine OGo.ite1 (P := y2 = (0 : Int32)) (fun (z101 : Int32) => T94.setTop (mkF m 91 #[.val (.int x0), .val (.int x1), .val (.int x2), .val (.int x3), .val (.int x4), .val (.int y2), .val (.ref b3), .val (.ref b63), .val (.ref b78), .unset, .unset, .unset, .unset] [(.int z101)])) (x := (1 : Int32)) (y := (0 : Int32)) (fun hc100 k102 => ?_) (fun hc100 k102 => ?_) ?_
    · skip
      refine OGo.go (U' := T94.setTop (mkF m 86 #[.val (.int x0), .val (.int x1), .val (.int x2), .val (.int x3), .val (.int x4), .val (.int y2), .val (.ref b3), .val (.ref b63), .val (.ref b78), .unset, .unset, .unset, .unset] [])) (fun _ k => XS.ifNo X94.here hx rfl (hb hby at_83) rfl ((if0 _ _).trans (teq hc100).2) k) ?_
      refine OGo.go (U' := T94.setTop (mkF m 87 #[.val (.int x0), .val (.int x1), .val (.int x2), .val (.int x3), .val (.int x4), .val (.int y2), .val (.ref b3), .val (.ref b63), .val (.ref b78), .unset, .unset, .unset, .unset] [(.int (1 : Int32))])) (fun _ k => XS.iconst X94.here hx rfl (hb hby at_86) k) ?_
      refine OGo.go (U' := T94.setTop (mkF m 91 #[.val (.int x0), .val (.int x1), .val (.int x2), .val (.int x3), .val (.int x4), .val (.int y2), .val (.ref b3), .val (.ref b63), .val (.ref b78), .unset, .unset, .unset, .unset] [(.int (1 : Int32))])) (fun _ k => XS.goto X94.here hx rfl (pc0 := 87) (pc' := 91) rfl (hb hby at_87) (by decide) (by decide) k) ?_
      exact k102
    · skip
      refine OGo.go (U' := T94.setTop (mkF m 90 #[.val (.int x0), .val (.int x1), .val (.int x2), .val (.int x3), .val (.int x4), .val (.int y2), .val (.ref b3), .val (.ref b63), .val (.ref b78), .unset, .unset, .unset, .unset] [])) (fun _ k => XS.ifYes X94.here hx rfl (pc0 := 83) (pc' := 90) rfl (hb hby at_83) rfl ((if0 _ _).trans (feq hc100).2) (by decide) (by decide) k) ?_
      refine OGo.go (U' := T94.setTop (mkF m 91 #[.val (.int x0), .val (.int x1), .val (.int x2), .val (.int x3), .val (.int x4), .val (.int y2), .val (.ref b3), .val (.ref b63), .val (.ref b78), .unset, .unset, .unset, .unset] [(.int (0 : Int32))])) (fun _ k => XS.iconst X94.here hx rfl (hb hby at_90) k) ?_
      exact k102
    intro z101 hz101
    refine OGo.go (U' := T94.setTop (mkF m 93 #[.val (.int x0), .val (.int x1), .val (.int x2), .val (.int x3), .val (.int x4), .val (.int y2), .val (.ref b3), .val (.ref b63), .val (.ref b78), .val (.int z101), .unset, .unset, .unset] [])) (fun _ k => XS.istore X94.here hx rfl (hb hby at_91) rfl (l' := #[.val (.int x0), .val (.int x1), .val (.int x2), .val (.int x3), .val (.int x4), .val (.int y2), .val (.ref b3), .val (.ref b63), .val (.ref b78), .val (.int z101), .unset, .unset, .unset]) rfl k) ?_
    refine OGo.go (U' := T94.setTop (mkF m 95 #[.val (.int x0), .val (.int x1), .val (.int x2), .val (.int x3), .val (.int x4), .val (.int y2), .val (.ref b3), .val (.ref b63), .val (.ref b78), .val (.int z101), .unset, .unset, .unset] [(.ref b78)])) (fun _ k => XS.aload X94.here hx rfl (hb hby at_93) rfl rfl k) ?_
    refine OGo.callV X94 hx hZ (y := (⟨"com/example/farcall/farcall/model/RemoteReference", "isOverConnection", "()Z"⟩ : MethodName)) (C := "com/example/farcall/farcall/model/RemoteReference") hown (hw _ (List.mem_of_getElem? (i := 58) rfl)) (hw _ (List.mem_of_getElem? (i := 59) rfl)) (hw _ (List.mem_of_getElem? (i := 61) rfl)) (hw _ (List.mem_of_getElem? (i := 60) rfl)) (hw _ (List.mem_of_getElem? (i := 34) rfl)) (hw _ (List.mem_of_getElem? (i := 62) rfl)) (by decide) (g := (mkF m 95 #[.val (.int x0), .val (.int x1), .val (.int x2), .val (.int x3), .val (.int x4), .val (.int y2), .val (.ref b3), .val (.ref b63), .val (.ref b78), .val (.int z101), .unset, .unset, .unset] [(.ref b78)])) (a := b78) (argsL := []) (rest := []) e94 Ea94 (rm_iso l Z a0 hw b78 y2 T94.heap F94_1) rfl (by rw [hml]; rfl) (lenOf pd_1 rfl) rfl (W := 0) (by show 2 * 0 + _ ≤ _; exact Nat.le_of_eq rfl) (hb hby at_95) (by decide) (by decide) (by decide) (by decide) ?_
    rintro _ T103 _ X103 ⟨rfl, e103, rfl⟩
    rw [List.append_nil] at X103
    refine OGo.nm (fun (y104 : Int32) => T103.setTop (mkF m 98 #[.val (.int x0), .val (.int x1), .val (.int x2), .val (.int x3), .val (.int x4), .val (.int y2), .val (.ref b3), .val (.ref b63), .val (.ref b78), .val (.int z101), .unset, .unset, .unset] [(.int y104)])) (x := (F_iso y2)) (fun y104 hy104 => ?_)
    refine OGo.go (U' := T103.setTop (mkF m 100 #[.val (.int x0), .val (.int x1), .val (.int x2), .val (.int x3), .val (.int x4), .val (.int y2), .val (.ref b3), .val (.ref b63), .val (.ref b78), .val (.int z101), .unset, .unset, .unset] [(.int z101), (.int y104)])) (fun _ k => XS.iload X103.here hx rfl (hb hby at_98) rfl k) ?_
    refine OGo.ite1 (P := y104 = z101) (fun (z106 : Int32) => T103.setTop (mkF m 108 #[.val (.int x0), .val (.int x1), .val (.int x2), .val (.int x3), .val (.int x4), .val (.int y2), .val (.ref b3), .val (.ref b63), .val (.ref b78), .val (.int z101), .unset, .unset, .unset] [(.int z106)])) (x := (1 : Int32)) (y := (0 : Int32)) (fun hc105 k107 => ?_) (fun hc105 k107 => ?_) ?_
    · skip
      refine OGo.go (U' := T103.setTop (mkF m 103 #[.val (.int x0), .val (.int x1), .val (.int x2), .val (.int x3), .val (.int x4), .val (.int y2), .val (.ref b3), .val (.ref b63), .val (.ref b78), .val (.int z101), .unset, .unset, .unset] [])) (fun _ k => XS.icmpNo X103.here hx rfl (hb hby at_100) rfl (teq hc105).2 k) ?_
      refine OGo.go (U' := T103.setTop (mkF m 104 #[.val (.int x0), .val (.int x1), .val (.int x2), .val (.int x3), .val (.int x4), .val (.int y2), .val (.ref b3), .val (.ref b63), .val (.ref b78), .val (.int z101), .unset, .unset, .unset] [(.int (1 : Int32))])) (fun _ k => XS.iconst X103.here hx rfl (hb hby at_103) k) ?_
      refine OGo.go (U' := T103.setTop (mkF m 108 #[.val (.int x0), .val (.int x1), .val (.int x2), .val (.int x3), .val (.int x4), .val (.int y2), .val (.ref b3), .val (.ref b63), .val (.ref b78), .val (.int z101), .unset, .unset, .unset] [(.int (1 : Int32))])) (fun _ k => XS.goto X103.here hx rfl (pc0 := 104) (pc' := 108) rfl (hb hby at_104) (by decide) (by decide) k) ?_
      exact k107
    · skip
      refine OGo.go (U' := T103.setTop (mkF m 107 #[.val (.int x0), .val (.int x1), .val (.int x2), .val (.int x3), .val (.int x4), .val (.int y2), .val (.ref b3), .val (.ref b63), .val (.ref b78), .val (.int z101), .unset, .unset, .unset] [])) (fun _ k => XS.icmpYes X103.here hx rfl (pc0 := 100) (pc' := 107) rfl (hb hby at_100) rfl (feq hc105).2 (by decide) (by decide) k) ?_
      refine OGo.go (U' := T103.setTop (mkF m 108 #[.val (.int x0), .val (.int x1), .val (.int x2), .val (.int x3), .val (.int x4), .val (.int y2), .val (.ref b3), .val (.ref b63), .val (.ref b78), .val (.int z101), .unset, .unset, .unset] [(.int (0 : Int32))])) (fun _ k => XS.iconst X103.here hx rfl (hb hby at_107) k) ?_
      exact k107
    intro z106 hz106
    refine OGo.go (U' := T103.setTop (mkF m 110 #[.val (.int x0), .val (.int x1), .val (.int x2), .val (.int x3), .val (.int x4), .val (.int y2), .val (.ref b3), .val (.ref b63), .val (.ref b78), .val (.int z101), .val (.int z106), .unset, .unset] [])) (fun _ k => XS.istore X103.here hx rfl (hb hby at_108) rfl (l' := #[.val (.int x0), .val (.int x1), .val (.int x2), .val (.int x3), .val (.int x4), .val (.int y2), .val (.ref b3), .val (.ref b63), .val (.ref b78), .val (.int z101), .val (.int z106), .unset, .unset]) rfl k) ?_
    refine OGo.go (U' := T103.setTop (mkF m 111 #[.val (.int x0), .val (.int x1), .val (.int x2), .val (.int x3), .val (.int x4), .val (.int y2), .val (.ref b3), .val (.ref b63), .val (.ref b78), .val (.int z101), .val (.int z106), .unset, .unset] [(.int x3)])) (fun _ k => XS.iloadN X103.here hx rfl (hb hby at_110) rfl k) ?_
    refine OGo.go (U' := T103.setTop (mkF m 113 #[.val (.int x0), .val (.int x1), .val (.int x2), .val (.int x3), .val (.int x4), .val (.int y2), .val (.ref b3), .val (.ref b63), .val (.ref b78), .val (.int z101), .val (.int z106), .unset, .unset] [(.int x4), (.int x3)])) (fun _ k => XS.iload X103.here hx rfl (hb hby at_111) rfl k) ?_
    refine OGo.callSV (s := s) (vm0 := s.vm) X103 hx hZ ((State.WarmedH.refl s).since 0) (Nat.zero_le _) hEL (CHr.keep K99 (fun _ q => nomatch q) Cv0).1 (y := (⟨"com/example/farcall/farcall/model/RemoteReference", "overConnection", "(II)Lcom/example/farcall/farcall/model/RemoteReference;"⟩ : MethodName)) hown (hw _ (List.mem_of_getElem? (i := 63) rfl)) (hw _ (List.mem_of_getElem? (i := 64) rfl)) (hw _ (List.mem_of_getElem? (i := 34) rfl)) (hw _ (List.mem_of_getElem? (i := 65) rfl)) (by decide) (g := (mkF m 113 #[.val (.int x0), .val (.int x1), .val (.int x2), .val (.int x3), .val (.int x4), .val (.int y2), .val (.ref b3), .val (.ref b63), .val (.ref b78), .val (.int z101), .val (.int z106), .unset, .unset] [(.int x4), (.int x3)])) (argsL := [(.int x3), (.int x4)]) (rest := []) e103 (rm_oc l Z a0 hw x3 x4 n0 T94.heap (Nat.le_trans (Nat.le_trans (Nat.le_trans (Nat.le_trans (Nat.le_trans (Nat.le_trans (Nat.le_trans Z0 E3.1) (Keep.of_wr W8).1) (Keep.of_wr W12).1) E63.1) K72.1) E78.1) K94.1)) rfl (by rw [hml]; rfl) (lenOf pd_12 rfl) rfl (W := 0) (by show 2 * 0 + _ ≤ _; exact Nat.le_of_eq rfl) (hb hby at_113) (by decide) (by decide) (by decide) (by decide) ?_
    rintro _ T108 L108 X108 ⟨b108, rfl, N108, Eb108, fp108⟩ hS108 hZ108 hown108
    have N109 := Fr.app N95 N108
    show OGo p e below _ (T108.setTop (mkF m 116 #[.val (.int x0), .val (.int x1), .val (.int x2), .val (.int x3), .val (.int x4), .val (.int y2), .val (.ref b3), .val (.ref b63), .val (.ref b78), .val (.int z101), .val (.int z106), .unset, .unset] [(.ref b108)]))
    refine OGo.go (U' := T108.setTop (mkF m 118 #[.val (.int x0), .val (.int x1), .val (.int x2), .val (.int x3), .val (.int x4), .val (.int y2), .val (.ref b3), .val (.ref b63), .val (.ref b78), .val (.int z101), .val (.int z106), .val (.ref b108), .unset] [])) (fun _ k => XS.astore X108.here hx rfl (hb hby at_116) rfl rfl (l' := #[.val (.int x0), .val (.int x1), .val (.int x2), .val (.int x3), .val (.int x4), .val (.int y2), .val (.ref b3), .val (.ref b63), .val (.ref b78), .val (.int z101), .val (.int z106), .val (.ref b108), .unset]) rfl k) ?_
    refine OGo.go (U' := T108.setTop (mkF m 120 #[.val (.int x0), .val (.int x1), .val (.int x2), .val (.int x3), .val (.int x4), .val (.int y2), .val (.ref b3), .val (.ref b63), .val (.ref b78), .val (.int z101), .val (.int z106), .val (.ref b108), .unset] [(.ref b108)])) (fun _ k => XS.aload X108.here hx rfl (hb hby at_118) rfl rfl k) ?_
    refine OGo.callV X108 hx hZ108 (y := (⟨"com/example/farcall/farcall/model/RemoteReference", "isOverConnection", "()Z"⟩ : MethodName)) (C := "com/example/farcall/farcall/model/RemoteReference") hown108 (hw _ (List.mem_of_getElem? (i := 58) rfl)) (hw _ (List.mem_of_getElem? (i := 59) rfl)) (hw _ (List.mem_of_getElem? (i := 61) rfl)) (hw _ (List.mem_of_getElem? (i := 60) rfl)) (hw _ (List.mem_of_getElem? (i := 34) rfl)) (hw _ (List.mem_of_getElem? (i := 62) rfl)) (by decide) (g := (mkF m 120 #[.val (.int x0), .val (.int x1), .val (.int x2), .val (.int x3), .val (.int x4), .val (.int y2), .val (.ref b3), .val (.ref b63), .val (.ref b78), .val (.int z101), .val (.int z106), .val (.ref b108), .unset] [(.ref b108)])) (a := b108) (argsL := []) (rest := []) (rfl : T108.heap = T108.heap) Eb108 (rm_iso l Z a0 hw b108 (0 : Int32) T108.heap fp108) rfl (by rw [hml]; rfl) (lenOf pd_1 rfl) rfl (W := 0) (by show 2 * 0 + _ ≤ _; exact Nat.le_of_eq rfl) (hb hby at_120) (by decide) (by decide) (by decide) (by decide) ?_
    rintro _ T110 _ X110 ⟨rfl, e110, rfl⟩
    rw [List.append_nil] at X110
    refine OGo.nm (fun (y111 : Int32) => T110.setTop (mkF m 123 #[.val (.int x0), .val (.int x1), .val (.int x2), .val (.int x3), .val (.int x4), .val (.int y2), .val (.ref b3), .val (.ref b63), .val (.ref b78), .val (.int z101), .val (.int z106), .val (.ref b108), .unset] [(.int y111)])) (x := (F_iso (0 : Int32))) (fun y111 hy111 => ?_)
    refine OGo.go (U' := T110.setTop (mkF m 125 #[.val (.int x0), .val (.int x1), .val (.int x2), .val (.int x3), .val (.int x4), .val (.int y2), .val (.ref b3), .val (.ref b63), .val (.ref b78), .val (.int z101), .val (.int z106), .val (.ref b108), .val (.int y111)] [])) (fun _ k => XS.istore X110.here hx rfl (hb hby at_123) rfl (l' := #[.val (.int x0), .val (.int x1), .val (.int x2), .val (.int x3), .val (.int x4), .val (.int y2), .val (.ref b3), .val (.ref b63), .val (.ref b78), .val (.int z101), .val (.int z106), .val (.ref b108), .val (.int y111)]) rfl k) ?_
    refine OGo.go (U' := T110.setTop (mkF m 127 #[.val (.int x0), .val (.int x1), .val (.int x2), .val (.int x3), .val (.int x4), .val (.int y2), .val (.ref b3), .val (.ref b63), .val (.ref b78), .val (.int z101), .val (.int z106), .val (.ref b108), .val (.int y111)] [(.int z106)])) (fun _ k => XS.iload X110.here hx rfl (hb hby at_125) rfl k) ?_
    refine OGo.ite1 (P := z106 = (0 : Int32)) (fun (z113 : Int32) => T110.setTop (mkF m 140 #[.val (.int x0), .val (.int x1), .val (.int x2), .val (.int x3), .val (.int x4), .val (.int y2), .val (.ref b3), .val (.ref b63), .val (.ref b78), .val (.int z101), .val (.int z106), .val (.ref b108), .val (.int y111)] [(.int z113)])) (x := (0 : Int32)) (y := (if y111 = (0 : Int32) then (0 : Int32) else (1 : Int32))) (fun hc112 k114 => ?_) (fun hc112 k114 => ?_) ?_
    · skip
      refine OGo.go (U' := T110.setTop (mkF m 139 #[.val (.int x0), .val (.int x1), .val (.int x2), .val (.int x3), .val (.int x4), .val (.int y2), .val (.ref b3), .val (.ref b63), .val (.ref b78), .val (.int z101), .val (.int z106), .val (.ref b108), .val (.int y111)] [])) (fun _ k => XS.ifYes X110.here hx rfl (pc0 := 127) (pc' := 139) rfl (hb hby at_127) rfl ((if0 _ _).trans (teq hc112).1) (by decide) (by decide) k) ?_
      refine OGo.go (U' := T110.setTop (mkF m 140 #[.val (.int x0), .val (.int x1), .val (.int x2), .val (.int x3), .val (.int x4), .val (.int y2), .val (.ref b3), .val (.ref b63), .val (.ref b78), .val (.int z101), .val (.int z106), .val (.ref b108), .val (.int y111)] [(.int (0 : Int32))])) (fun _ k => XS.iconst X110.here hx rfl (hb hby at_139) k) ?_
      exact k114
    · skip
      refine OGo.go (U' := T110.setTop (mkF m 130 #[.val (.int x0), .val (.int x1), .val (.int x2), .val (.int x3), .val (.int x4), .val (.int y2), .val (.ref b3), .val (.ref b63), .val (.ref b78), .val (.int z101), .val (.int z106), .val (.ref b108), .val (.int y111)] [])) (fun _ k => XS.ifNo X110.here hx rfl (hb hby at_127) rfl ((if0 _ _).trans (feq hc112).1) k) ?_
      refine OGo.go (U' := T110.setTop (mkF m 132 #[.val (.int x0), .val (.int x1), .val (.int x2), .val (.int x3), .val (.int x4), .val (.int y2), .val (.ref b3), .val (.ref b63), .val (.ref b78), .val (.int z101), .val (.int z106), .val (.ref b108), .val (.int y111)] [(.int y111)])) (fun _ k => XS.iload X110.here hx rfl (hb hby at_130) rfl k) ?_
      refine OGo.ite1 (P := y111 = (0 : Int32)) (fun (z116 : Int32) => T110.setTop (mkF m 140 #[.val (.int x0), .val (.int x1), .val (.int x2), .val (.int x3), .val (.int x4), .val (.int y2), .val (.ref b3), .val (.ref b63), .val (.ref b78), .val (.int z101), .val (.int z106), .val (.ref b108), .val (.int y111)] [(.int z116)])) (x := (0 : Int32)) (y := (1 : Int32)) (fun hc115 k117 => ?_) (fun hc115 k117 => ?_) (fun z116 hz116 => by subst hz116; exact k114)
      · skip
        refine OGo.go (U' := T110.setTop (mkF m 139 #[.val (.int x0), .val (.int x1), .val (.int x2), .val (.int x3), .val (.int x4), .val (.int y2), .val (.ref b3), .val (.ref b63), .val (.ref b78), .val (.int z101), .val (.int z106), .val (.ref b108), .val (.int y111)] [])) (fun _ k => XS.ifYes X110.here hx rfl (pc0 := 132) (pc' := 139) rfl (hb hby at_132) rfl ((if0 _ _).trans (teq hc115).1) (by decide) (by decide) k) ?_
        refine OGo.go (U' := T110.setTop (mkF m 140 #[.val (.int x0), .val (.int x1), .val (.int x2), .val (.int x3), .val (.int x4), .val (.int y2), .val (.ref b3), .val (.ref b63), .val (.ref b78), .val (.int z101), .val (.int z106), .val (.ref b108), .val (.int y111)] [(.int (0 : Int32))])) (fun _ k => XS.iconst X110.here hx rfl (hb hby at_139) k) ?_
        exact k117
      · skip
        refine OGo.go (U' := T110.setTop (mkF m 135 #[.val (.int x0), .val (.int x1), .val (.int x2), .val (.int x3), .val (.int x4), .val (.int y2), .val (.ref b3), .val (.ref b63), .val (.ref b78), .val (.int z101), .val (.int z106), .val (.ref b108), .val (.int y111)] [])) (fun _ k => XS.ifNo X110.here hx rfl (hb hby at_132) rfl ((if0 _ _).trans (feq hc115).1) k) ?_
        refine OGo.go (U' := T110.setTop (mkF m 136 #[.val (.int x0), .val (.int x1), .val (.int x2), .val (.int x3), .val (.int x4), .val (.int y2), .val (.ref b3), .val (.ref b63), .val (.ref b78), .val (.int z101), .val (.int z106), .val (.ref b108), .val (.int y111)] [(.int (1 : Int32))])) (fun _ k => XS.iconst X110.here hx rfl (hb hby at_135) k) ?_
        refine OGo.go (U' := T110.setTop (mkF m 140 #[.val (.int x0), .val (.int x1), .val (.int x2), .val (.int x3), .val (.int x4), .val (.int y2), .val (.ref b3), .val (.ref b63), .val (.ref b78), .val (.int z101), .val (.int z106), .val (.ref b108), .val (.int y111)] [(.int (1 : Int32))])) (fun _ k => XS.goto X110.here hx rfl (pc0 := 136) (pc' := 140) rfl (hb hby at_136) (by decide) (by decide) k) ?_
        exact k117
    intro z113 hz113
    refine OGo.retNW X110 hS108 (by rw [e110]; exact (Nat.le_refl _)) hx (t := .boolean) hret hlk (by simp) (hb hby at_140) ?_ (by decide) (by decide)
    exact ⟨own_ret_1 hy2 hc16 hz101 hy104 hz106 hy111 hz113, N109⟩
set_option maxRecDepth 65536 in
set_option maxHeartbeats 40000000 in
theorem comes_1 {Post : Tables → Env → Array Value → State → Outcome → State → Prop} (hpost : ∀ tb e args s v u, (limb_1_1.after args s (.returned v) u = true ∧ limb_1_2.after args s (.returned v) u = true ∧ True) → ReturnedEndW s (.returned v) u (Jvm.fieldLocs frame_1_writes args s ++ Jvm.arrayLocs frame_1_arrays args s ++ Jvm.staticLocs frame_1_statics s) 24 1152 → Post tb e args s (.returned v) u) :
    ArmFor flags0 classFile x code maxLocals ret World_1 tables_1 room_1 Calls_1 rest_1 Pre_1 Post := by
  intro l hfl _ _ p e ha hc hk s m args below hf hA hF happ hP
  obtain ⟨hcalls, hrest, hpre⟩ := hP
  obtain ⟨-, -, -, hnamed, -, -, -, hat⟩ := (Spec.applies_iff hf).mp happ
  obtain ⟨hg, hn⟩ := and_e (Cond.before_iff.mp (show (Jvm.Cond.and given_1 narrow_1).before args s = true from hpre))
  obtain ⟨g0, g1⟩ := and_e hg
  obtain ⟨w0, w1, w2, w3, w4, rfl⟩ : ∃ w0 w1 w2 w3 w4 : Value, args = #[w0, w1, w2, w3, w4] := by
    have hs : args.size = 5 := by simpa [Cond.value, given_1] using g0
    obtain ⟨L⟩ := args
    match L, hs with
    | [w0, w1, w2, w3, w4], _ => exact ⟨w0, w1, w2, w3, w4, rfl⟩
  have hw := fun d (hd : d ∈ tables_1) => atoms_spec (ws := Jvm.Cond.code x code maxLocals ret :: tables_1) hat d (List.mem_cons_of_mem _ hd)
  have hfit : Fit s := fun {y c} hc i hi => by
    obtain ⟨ha, rfl⟩ := Array.getElem?_eq_some_iff.mp hc
    have q := List.all_eq_true.mp ((Array.all_eq_true_iff_forall_mem.mp hF) _ (Array.getElem_mem ha)) i (List.mem_range.mpr hi)
    simpa [Array.getElem?_eq_getElem hi] using q
  obtain ⟨v0, g2⟩ := and_e g1
  obtain ⟨i0, q0⟩ := is_v v0
  obtain rfl : w0 = (.int i0) := Option.some.inj q0
  obtain ⟨v1, g3⟩ := and_e g2
  obtain ⟨i1, q1⟩ := is_v v1
  obtain rfl : w1 = (.int i1) := Option.some.inj q1
  obtain ⟨v2, g4⟩ := and_e g3
  obtain ⟨i2, q2⟩ := is_v v2
  obtain rfl : w2 = (.int i2) := Option.some.inj q2
  obtain ⟨v3, g5⟩ := and_e g4
  obtain ⟨i3, q3⟩ := is_v v3
  obtain rfl : w3 = (.int i3) := Option.some.inj q3
  obtain ⟨i4, q4⟩ := is_v g5
  obtain rfl : w4 = (.int i4) := Option.some.inj q4
  obtain ⟨hsets, -⟩ := atoms_of _ (rest_1_c_eq ▸ (show rest_1_c.before _ s = true from hrest))
  obtain ⟨cs, qcs⟩ := is_v (Cond.before_iff.mp (hsets _ (List.mem_of_getElem? (i := 1) rfl)))
  have hcw := hsets _ (List.mem_of_getElem? (i := 2) rfl)
  have hcs : ¬ cs = 0 := fun q => by
    have w := Cond.before_iff.mp hcw
    subst q
    simp [Cond.value, qcs, Term.int_eval] at w
  have S0 := Sta.start qcs (Or.inl (hsets _ (List.mem_of_getElem? (i := 0) rfl)))
  have hEL : EW s #[.int i0, .int i1, .int i2, .int i3, .int i4] own_EL := EW.cons (hw _ (List.mem_of_getElem? (i := 67) rfl)) (by decide +kernel) EW.nil
  have CH0 : CHv s own_EL s.vm s.heap := CHv.start hEL (fun p hp => hcalls.1 p hp) hcw (hw _ (List.mem_of_getElem? (i := 20) rfl)) (hw _ (List.mem_of_getElem? (i := 16) rfl))
  obtain ⟨n, o, h1, h2, h3, _, L, rfl, ⟨rfl, N⟩, hq⟩ := rm_law l s _ hw i0 i1 i2 i3 i4 cs s.heap.size s.heap (Nat.le_refl _) S0 hcs p e ha hc hk s m _ below hf ((Spec.applies_iff_loose hf).mp happ).1 ⟨rfl, State.Warmed39.refl s, rfl, CH0⟩ trivial
  refine ⟨n, _, h1, h2, h3, hpost _ _ _ _ _ _ ⟨Cond.after_iff.mpr rfl, Cond.after_iff.mpr (eq_i res_at (Term.int_eval (1)) rfl), trivial⟩ ⟨hq.1, hq.2.1, hq.2.2.1, (hq.2.2.2.sift fun y hy => Or.inr (N y hy)).mono (by decide) (by decide)⟩⟩
theorem main_1_1 : Claimed_1_1 := comes_1 fun _ _ _ _ _ _ h hF => ⟨h.1, hF⟩
theorem main_1_2 : Claimed_1_2 := comes_1 fun _ _ _ _ _ _ h hF => ⟨h.2.1, hF⟩
end Jvm.Pilot.@@N@@
namespace Jvm.Pilot.@@N@@
open Jvm Jvm.ClassFile Sem Op Lib Jvm.Free Jvm.Stand Jvm.Pilot.@@N@@.Jvm.D
/-! MADE BY PROGRAM (witnessworld.py) out of the Statement's table words and the real class files: 21 classes; the members and pool entries that the words name. The judged class is class 1, her method 2. -/
namespace start1
open Jvm.ClassFile
def u (s : String) : CpInfo := .utf8 (stringToUtf16 s)
/-- a pool by its gaps: so many unusable entries, then the entry; so many at the end -/
def gap : Nat → List CpInfo → List CpInfo
  | 0, r => r
  | n + 1, r => .unusable :: gap n r
def poolList (es : List (Nat × CpInfo)) (last : Nat) : List CpInfo := es.foldr (fun e r => gap e.1 (e.2 :: r)) (gap last [])
def pool (es : List (Nat × CpInfo)) (last : Nat) : Array CpInfo := ⟨poolList es last⟩
def fileOf (pool : Array CpInfo) (this : Nat) (attrs : Array Attribute := #[]) (ms : Array MethodInfo := #[]) (fl : Nat := 33) (sup : Nat := 0) (ifs : Array Nat := #[]) (fds : Array FieldInfo := #[]) : ClassFile where
  minorVersion := 0
  majorVersion := 65
  constantPool := pool
  accessFlags := fl
  thisClass := this
  superClass := sup
  interfaces := ifs
  fields := fds
  methods := ms
  attributes := attrs
def plain (name : String) (sup : Option ClassId) : Class where
  name := name
  kind := .ordinary
  loader := none
  accessFlags := 33
  super := sup
  interfaces := #[]
  cf := none
  fields := #[]
  methods := #[]
  instanceTypes := #[]
  staticTypes := #[]
  resolved := #[]
  callSites := []
  init := .initialized
  statics := none
  mirror := none

def pool0 : Array CpInfo := pool [(5, u "<init>"), (0, u "()V"), (1, .class_ 10), (1, u "java/lang/Object")] 113

def k0c0 : Code := { maxStack := 0, maxLocals := 1, code := object_method_1_code, exceptionTable := #[], attributes := #[] }
def k0m0 : Method := { name := "<init>", desc := "()V", sig := { parameters := [], returnType := none }, accessFlags := 1, code := some k0c0 }
/-- java/lang/Object -/
def k0 : Class := { plain "java/lang/Object" none with
  accessFlags := 33
  interfaces := #[]
  cf := some (fileOf pool0 8 #[] #[{ accessFlags := 1, nameIndex := 5, descriptorIndex := 6, attributes := #[] }] 33 0 #[] #[])
  fields := #[]
  methods := #[k0m0]
  instanceTypes := #[]
  staticTypes := #[]
  resolved := Array.replicate 124 none
  statics := none }

def pool1 : Array CpInfo := pool [(2, .class_ 4), (1, u "java/lang/Object"), (0, u "<init>"), (0, u "()V"), (0, .integer 65535), (0, .methodref 9 10), (0, .class_ 11), (0, .nameAndType 12 13), (0, u "com/example/farcall/farcall/model/RemoteReferenceIsOverConnectionPinLaw"), (0, u "pickPort"), (0, u "(II)I"), (0, .class_ 15), (0, u "java/lang/String"), (0, .methodref 14 17), (0, .nameAndType 5 18), (0, u "([C)V"), (0, .methodref 14 20), (0, .nameAndType 21 22), (0, u "valueOf"), (0, u "(C)Ljava/lang/String;"), (0, .class_ 24), (0, u "com/example/farcall/farcall/model/RemoteReference"), (0, .methodref 23 26), (0, .nameAndType 5 27), (0, u "(Ljava/lang/String;III)V"), (0, .methodref 23 29), (0, .nameAndType 30 31), (0, u "isOverConnection"), (0, u "()Z"), (0, .methodref 23 33), (0, .nameAndType 34 35), (0, u "overConnection"), (0, u "(II)Lcom/example/farcall/farcall/model/RemoteReference;"), (3, u "law"), (0, u "(IIIII)Z")] 4

def k1m0 : Method := { name := "<init>", desc := "()V", sig := { parameters := [], returnType := none }, accessFlags := 1, code := none }
def k1c1 : Code := { maxStack := 2, maxLocals := 3, code := method_2_code, exceptionTable := #[], attributes := #[] }
def k1m1 : Method := { name := "pickPort", desc := "(II)I", sig := { parameters := [.int, .int], returnType := some .int }, accessFlags := 10, code := some k1c1 }
def k1c2 : Code := { maxStack := 6, maxLocals := 13, code := code, exceptionTable := #[], attributes := #[] }
def k1m2 : Method := { name := "law", desc := "(IIIII)Z", sig := { parameters := [.int, .int, .int, .int, .int], returnType := some .boolean }, accessFlags := 9, code := some k1c2 }
/-- com/example/farcall/farcall/model/RemoteReferenceIsOverConnectionPinLaw -/
def k1 : Class := { plain "com/example/farcall/farcall/model/RemoteReferenceIsOverConnectionPinLaw" (some 0) with
  accessFlags := 49
  interfaces := #[]
  cf := some (fileOf pool1 9 #[] #[{ accessFlags := 1, nameIndex := 5, descriptorIndex := 6, attributes := #[] }, { accessFlags := 10, nameIndex := 12, descriptorIndex := 13, attributes := #[] }, { accessFlags := 9, nameIndex := 39, descriptorIndex := 40, attributes := #[] }] 49 2 #[] #[])
  fields := #[]
  methods := #[k1m0, k1m1, k1m2]
  instanceTypes := #[]
  staticTypes := #[]
  resolved := Array.replicate 45 none
  statics := none }

def pool2 : Array CpInfo := pool [(1, .class_ 2), (0, u "java/io/Serializable"), (0, .class_ 4), (0, u "java/lang/Object")] 2

/-- java/io/Serializable -/
def k2 : Class := { plain "java/io/Serializable" (some 0) with
  accessFlags := 1537
  interfaces := #[]
  cf := some (fileOf pool2 1 #[] #[] 1537 3 #[] #[])
  fields := #[]
  methods := #[]
  instanceTypes := #[]
  staticTypes := #[]
  resolved := Array.replicate 7 none
  statics := none }

def pool3 : Array CpInfo := pool [(1, .class_ 2), (0, u "java/lang/Comparable"), (0, .class_ 4), (0, u "java/lang/Object")] 7

/-- java/lang/Comparable -/
def k3 : Class := { plain "java/lang/Comparable" (some 0) with
  accessFlags := 1537
  interfaces := #[]
  cf := some (fileOf pool3 1 #[] #[] 1537 3 #[] #[])
  fields := #[]
  methods := #[]
  instanceTypes := #[]
  staticTypes := #[]
  resolved := Array.replicate 12 none
  statics := none }

def pool4 : Array CpInfo := pool [(2, .class_ 4), (1, u "java/lang/CharSequence"), (42, .class_ 48), (0, u "java/lang/CharSequence$1CodePointIterator"), (10, .class_ 60), (0, u "java/lang/CharSequence$1CharIterator"), (5, .class_ 67), (0, u "java/lang/Object")] 63

/-- java/lang/CharSequence -/
def k4 : Class := { plain "java/lang/CharSequence" (some 0) with
  accessFlags := 1537
  interfaces := #[]
  cf := some (fileOf pool4 2 #[.nestMembers #[47, 59]] #[] 1537 66 #[] #[])
  fields := #[]
  methods := #[]
  instanceTypes := #[]
  staticTypes := #[]
  resolved := Array.replicate 131 none
  statics := none }

def pool5 : Array CpInfo := pool [(1, .class_ 2), (0, u "java/lang/constant/Constable"), (0, .class_ 4), (0, u "java/lang/Object")] 6

/-- java/lang/constant/Constable -/
def k5 : Class := { plain "java/lang/constant/Constable" (some 0) with
  accessFlags := 1537
  interfaces := #[]
  cf := some (fileOf pool5 1 #[] #[] 1537 3 #[] #[])
  fields := #[]
  methods := #[]
  instanceTypes := #[]
  staticTypes := #[]
  resolved := Array.replicate 11 none
  statics := none }

def pool6 : Array CpInfo := pool [(1, .class_ 2), (0, u "java/lang/constant/ConstantDesc"), (0, .class_ 4), (0, u "java/lang/Object")] 32

/-- java/lang/constant/ConstantDesc -/
def k6 : Class := { plain "java/lang/constant/ConstantDesc" (some 0) with
  accessFlags := 1537
  interfaces := #[]
  cf := some (fileOf pool6 1 #[] #[] 1537 3 #[] #[])
  fields := #[]
  methods := #[]
  instanceTypes := #[]
  staticTypes := #[]
  resolved := Array.replicate 37 none
  statics := none }

def pool7 : Array CpInfo := pool [(1, .methodref 2 3), (0, .class_ 4), (0, .nameAndType 5 6), (0, u "java/lang/Object"), (0, u "<init>"), (0, u "()V"), (2, .fieldref 10 11), (0, .class_ 12), (0, .nameAndType 13 14), (0, u "java/lang/String"), (0, u "value"), (0, u "[B"), (0, .fieldref 10 16), (0, .nameAndType 17 18), (0, u "coder"), (0, u "B"), (2, u "hash"), (0, u "I"), (2, u "hashIsZero"), (0, u "Z"), (0, .methodref 10 28), (0, .nameAndType 5 29), (0, u "([CIILjava/lang/Void;)V"), (8, .fieldref 10 39), (0, .nameAndType 40 26), (0, u "COMPACT_STRINGS"), (1, .class_ 44), (1, u "java/lang/StringUTF16"), (0, u "compress"), (1, .methodref 42 48), (0, .nameAndType 49 50), (0, u "coderFromArrayLen"), (0, u "([BI)B"), (2, u "toBytes"), (53, .class_ 109), (1, u "java/lang/StringLatin1"), (32, u "()Z"), (34, .methodref 42 178), (0, .nameAndType 45 179), (0, u "([CII)[B"), (29, .methodref 10 210), (0, .nameAndType 5 211), (0, u "([BB)V"), (157, u "(C)Z"), (205, .class_ 576), (0, u "java/lang/CharSequence"), (22, u "CASE_INSENSITIVE_ORDER"), (0, u "Ljava/util/Comparator;"), (91, u "isEmpty"), (89, u "valueOf"), (0, u "(C)Ljava/lang/String;"), (226, u "([C)V"), (4, .methodref 107 1016), (0, .nameAndType 1017 369), (0, u "canEncode"), (0, .methodref 107 1019), (0, .nameAndType 53 1020), (0, u "(C)[B"), (80, u "serialPersistentFields"), (0, u "[Ljava/io/ObjectStreamField;"), (0, .class_ 1104), (0, u "java/lang/String$CaseInsensitiveComparator"), (1, .class_ 1107), (0, u "java/io/Serializable"), (0, .class_ 1109), (0, u "java/lang/Comparable"), (0, .class_ 1111), (0, u "java/lang/constant/Constable"), (0, .class_ 1113), (0, u "java/lang/constant/ConstantDesc"), (2, u "serialVersionUID"), (0, u "J"), (3, u "REPL"), (0, u "C"), (2, u "LATIN1"), (1, u "UTF16")] 323

def k7m0 : Method := { name := "<init>", desc := "()V", sig := { parameters := [], returnType := none }, accessFlags := 1, code := none }
def k7c1 : Code := { maxStack := 5, maxLocals := 2, code := jdk_42_method_3_code, exceptionTable := #[], attributes := #[] }
def k7m1 : Method := { name := "<init>", desc := "([C)V", sig := { parameters := [(.array .char)], returnType := none }, accessFlags := 1, code := some k7c1 }
def k7c2 : Code := { maxStack := 1, maxLocals := 1, code := jdk_42_method_55_code, exceptionTable := #[], attributes := #[] }
def k7m2 : Method := { name := "isEmpty", desc := "()Z", sig := { parameters := [], returnType := some .boolean }, accessFlags := 1, code := some k7c2 }
def k7c3 : Code := { maxStack := 4, maxLocals := 1, code := jdk_42_method_139_code, exceptionTable := #[], attributes := #[] }
def k7m3 : Method := { name := "valueOf", desc := "(C)Ljava/lang/String;", sig := { parameters := [.char], returnType := some (.object "java/lang/String") }, accessFlags := 9, code := some k7c3 }
def k7c4 : Code := { maxStack := 4, maxLocals := 6, code := jdk_42_method_149_code, exceptionTable := #[], attributes := #[] }
def k7m4 : Method := { name := "<init>", desc := "([CIILjava/lang/Void;)V", sig := { parameters := [(.array .char), .int, .int, (.object "java/lang/Void")], returnType := none }, accessFlags := 2, code := some k7c4 }
def k7c5 : Code := { maxStack := 2, maxLocals := 3, code := jdk_42_method_151_code, exceptionTable := #[], attributes := #[] }
def k7m5 : Method := { name := "<init>", desc := "([BB)V", sig := { parameters := [(.array .byte), .byte], returnType := none }, accessFlags := 0, code := some k7c5 }
/-- java/lang/String -/
def k7 : Class := { plain "java/lang/String" (some 0) with
  accessFlags := 49
  interfaces := #[2, 3, 4, 5, 6]
  cf := some (fileOf pool7 10 #[.nestMembers #[1103]] #[{ accessFlags := 1, nameIndex := 5, descriptorIndex := 6, attributes := #[] }, { accessFlags := 1, nameIndex := 5, descriptorIndex := 1010, attributes := #[] }, { accessFlags := 1, nameIndex := 692, descriptorIndex := 142, attributes := #[] }, { accessFlags := 9, nameIndex := 782, descriptorIndex := 783, attributes := #[] }, { accessFlags := 2, nameIndex := 5, descriptorIndex := 29, attributes := #[] }, { accessFlags := 0, nameIndex := 5, descriptorIndex := 211, attributes := #[] }] 49 2 #[1106, 1108, 575, 1110, 1112] #[{ accessFlags := 18, nameIndex := 13, descriptorIndex := 14, attributes := #[] }, { accessFlags := 18, nameIndex := 17, descriptorIndex := 18, attributes := #[] }, { accessFlags := 2, nameIndex := 21, descriptorIndex := 22, attributes := #[] }, { accessFlags := 2, nameIndex := 25, descriptorIndex := 26, attributes := #[] }, { accessFlags := 26, nameIndex := 1116, descriptorIndex := 1117, attributes := #[] }, { accessFlags := 24, nameIndex := 40, descriptorIndex := 26, attributes := #[] }, { accessFlags := 26, nameIndex := 1101, descriptorIndex := 1102, attributes := #[] }, { accessFlags := 26, nameIndex := 1121, descriptorIndex := 1122, attributes := #[] }, { accessFlags := 25, nameIndex := 599, descriptorIndex := 600, attributes := #[] }, { accessFlags := 24, nameIndex := 1125, descriptorIndex := 18, attributes := #[] }, { accessFlags := 24, nameIndex := 1127, descriptorIndex := 18, attributes := #[] }])
  fields := #[{ name := "value", type := (.array .byte), accessFlags := 18, slot := 0, constantValue := 0 }, { name := "coder", type := .byte, accessFlags := 18, slot := 1, constantValue := 0 }, { name := "hash", type := .int, accessFlags := 2, slot := 2, constantValue := 0 }, { name := "hashIsZero", type := .boolean, accessFlags := 2, slot := 3, constantValue := 0 }, { name := "serialVersionUID", type := .long, accessFlags := 26, slot := 0, constantValue := 0 }, { name := "COMPACT_STRINGS", type := .boolean, accessFlags := 24, slot := 1, constantValue := 0 }, { name := "serialPersistentFields", type := (.array (.object "java/io/ObjectStreamField")), accessFlags := 26, slot := 2, constantValue := 0 }, { name := "REPL", type := .char, accessFlags := 26, slot := 3, constantValue := 0 }, { name := "CASE_INSENSITIVE_ORDER", type := (.object "java/util/Comparator"), accessFlags := 25, slot := 4, constantValue := 0 }, { name := "LATIN1", type := .byte, accessFlags := 24, slot := 5, constantValue := 0 }, { name := "UTF16", type := .byte, accessFlags := 24, slot := 6, constantValue := 0 }]
  methods := #[k7m0, k7m1, k7m2, k7m3, k7m4, k7m5]
  instanceTypes := #[(.array .byte), .byte, .int, .boolean]
  staticTypes := #[.long, .boolean, (.array (.object "java/io/ObjectStreamField")), .char, (.object "java/util/Comparator"), .byte, .byte]
  resolved := Array.replicate 1451 none
  statics := some 0 }

def pool8 : Array CpInfo := pool [(4, .class_ 6), (1, u "java/lang/Object"), (0, u "<init>"), (0, u "()V"), (5, .class_ 16), (1, u "java/lang/StringLatin1"), (73, u "canEncode"), (14, u "(C)Z"), (15, u "$assertionsDisabled"), (0, u "Z"), (98, .class_ 223), (1, u "java/lang/StringLatin1$LinesSpliterator"), (156, u "toBytes"), (1, u "(C)[B"), (7, .class_ 391), (0, u "java/lang/StringLatin1$CharsSpliterator")] 3

def k8m0 : Method := { name := "<init>", desc := "()V", sig := { parameters := [], returnType := none }, accessFlags := 0, code := none }
def k8c1 : Code := { maxStack := 2, maxLocals := 1, code := jdk_43_method_3_code, exceptionTable := #[], attributes := #[] }
def k8m1 : Method := { name := "canEncode", desc := "(C)Z", sig := { parameters := [.char], returnType := some .boolean }, accessFlags := 9, code := some k8c1 }
def k8c2 : Code := { maxStack := 4, maxLocals := 1, code := jdk_43_method_46_code, exceptionTable := #[], attributes := #[] }
def k8m2 : Method := { name := "toBytes", desc := "(C)[B", sig := { parameters := [.char], returnType := some (.array .byte) }, accessFlags := 9, code := some k8c2 }
/-- java/lang/StringLatin1 -/
def k8 : Class := { plain "java/lang/StringLatin1" (some 0) with
  accessFlags := 48
  interfaces := #[]
  cf := some (fileOf pool8 14 #[.nestMembers #[390, 221]] #[{ accessFlags := 0, nameIndex := 7, descriptorIndex := 8, attributes := #[] }, { accessFlags := 9, nameIndex := 90, descriptorIndex := 105, attributes := #[] }, { accessFlags := 9, nameIndex := 380, descriptorIndex := 382, attributes := #[] }] 48 4 #[] #[{ accessFlags := 4120, nameIndex := 121, descriptorIndex := 122, attributes := #[] }])
  fields := #[{ name := "$assertionsDisabled", type := .boolean, accessFlags := 4120, slot := 0, constantValue := 0 }]
  methods := #[k8m0, k8m1, k8m2]
  instanceTypes := #[]
  staticTypes := #[.boolean]
  resolved := Array.replicate 395 none
  statics := none }

def pool9 : Array CpInfo := pool [(1, .methodref 2 3), (0, .class_ 4), (0, .nameAndType 5 6), (0, u "java/lang/Object"), (0, u "<init>"), (0, u "()V"), (0, .class_ 8), (0, u "java/lang/Record")] 13

def k9c0 : Code := { maxStack := 1, maxLocals := 1, code := jdk_30_method_1_code, exceptionTable := #[], attributes := #[] }
def k9m0 : Method := { name := "<init>", desc := "()V", sig := { parameters := [], returnType := none }, accessFlags := 4, code := some k9c0 }
/-- java/lang/Record -/
def k9 : Class := { plain "java/lang/Record" (some 0) with
  accessFlags := 1057
  interfaces := #[]
  cf := some (fileOf pool9 7 #[] #[{ accessFlags := 4, nameIndex := 5, descriptorIndex := 6, attributes := #[] }] 1057 2 #[] #[])
  fields := #[]
  methods := #[k9m0]
  instanceTypes := #[]
  staticTypes := #[]
  resolved := Array.replicate 22 none
  statics := none }

def pool10 : Array CpInfo := pool [(1, .methodref 2 3), (0, .class_ 4), (0, .nameAndType 5 6), (0, u "java/lang/Record"), (0, u "<init>"), (0, u "()V"), (0, .methodref 8 9), (0, .class_ 10), (0, .nameAndType 11 12), (0, u "java/lang/String"), (0, u "isEmpty"), (0, u "()Z"), (13, .integer 65535), (3, .fieldref 31 32), (0, .class_ 33), (0, .nameAndType 34 35), (0, u "com/example/farcall/farcall/model/RemoteReference"), (0, u "host"), (0, u "Ljava/lang/String;"), (0, .fieldref 31 37), (0, .nameAndType 38 39), (0, u "port"), (0, u "I"), (0, .fieldref 31 41), (0, .nameAndType 42 39), (0, u "program"), (0, .fieldref 31 44), (0, .nameAndType 45 39), (0, u "version"), (0, .string 47), (0, u "localhost"), (0, .methodref 31 49), (0, .nameAndType 5 50), (0, u "(Ljava/lang/String;III)V"), (16, u "OVER_CONNECTION_HOST"), (5, u "overConnection"), (0, u "(II)Lcom/example/farcall/farcall/model/RemoteReference;"), (0, u "isOverConnection")] 39

def k10c0 : Code := { maxStack := 3, maxLocals := 5, code := prog_49_method_1_code, exceptionTable := #[], attributes := #[] }
def k10m0 : Method := { name := "<init>", desc := "(Ljava/lang/String;III)V", sig := { parameters := [(.object "java/lang/String"), .int, .int, .int], returnType := none }, accessFlags := 1, code := some k10c0 }
def k10c1 : Code := { maxStack := 6, maxLocals := 2, code := prog_49_method_2_code, exceptionTable := #[], attributes := #[] }
def k10m1 : Method := { name := "overConnection", desc := "(II)Lcom/example/farcall/farcall/model/RemoteReference;", sig := { parameters := [.int, .int], returnType := some (.object "com/example/farcall/farcall/model/RemoteReference") }, accessFlags := 9, code := some k10c1 }
def k10c2 : Code := { maxStack := 1, maxLocals := 1, code := prog_49_method_3_code, exceptionTable := #[], attributes := #[] }
def k10m2 : Method := { name := "isOverConnection", desc := "()Z", sig := { parameters := [], returnType := some .boolean }, accessFlags := 1, code := some k10c2 }
/-- com/example/farcall/farcall/model/RemoteReference -/
def k10 : Class := { plain "com/example/farcall/farcall/model/RemoteReference" (some 9) with
  accessFlags := 49
  interfaces := #[]
  cf := some (fileOf pool10 31 #[] #[{ accessFlags := 1, nameIndex := 5, descriptorIndex := 50, attributes := #[] }, { accessFlags := 9, nameIndex := 73, descriptorIndex := 74, attributes := #[] }, { accessFlags := 1, nameIndex := 75, descriptorIndex := 12, attributes := #[] }] 49 2 #[] #[{ accessFlags := 18, nameIndex := 34, descriptorIndex := 35, attributes := #[] }, { accessFlags := 18, nameIndex := 38, descriptorIndex := 39, attributes := #[] }, { accessFlags := 18, nameIndex := 42, descriptorIndex := 39, attributes := #[] }, { accessFlags := 18, nameIndex := 45, descriptorIndex := 39, attributes := #[] }, { accessFlags := 26, nameIndex := 67, descriptorIndex := 35, attributes := #[] }])
  fields := #[{ name := "host", type := (.object "java/lang/String"), accessFlags := 18, slot := 0, constantValue := 0 }, { name := "port", type := .int, accessFlags := 18, slot := 1, constantValue := 0 }, { name := "program", type := .int, accessFlags := 18, slot := 2, constantValue := 0 }, { name := "version", type := .int, accessFlags := 18, slot := 3, constantValue := 0 }, { name := "OVER_CONNECTION_HOST", type := (.object "java/lang/String"), accessFlags := 26, slot := 0, constantValue := 0 }]
  methods := #[k10m0, k10m1, k10m2]
  instanceTypes := #[(.object "java/lang/String"), .int, .int, .int]
  staticTypes := #[(.object "java/lang/String")]
  resolved := Array.replicate 115 none
  statics := none }

def pool11 : Array CpInfo := pool [(6, .class_ 8), (1, u "java/lang/Object"), (0, u "<init>"), (0, u "()V"), (1, .class_ 14), (1, u "java/lang/StringUTF16"), (31, u "$assertionsDisabled"), (0, u "Z"), (13, u "HI_BYTE_SHIFT"), (0, u "I"), (2, u "LO_BYTE_SHIFT"), (49, .methodref 12 116), (0, .nameAndType 117 118), (0, u "compress"), (0, u "([CI[BII)I"), (3, u "([CII)[B"), (138, u "coderFromArrayLen"), (0, u "([BI)B"), (106, .class_ 371), (1, u "java/lang/StringUTF16$LinesSpliterator"), (58, u "MAX_LENGTH"), (196, .class_ 628), (0, u "java/lang/StringUTF16$CodePointsSpliterator"), (0, .class_ 630), (0, u "java/lang/StringUTF16$CharsSpliterator")] 4

def k11m0 : Method := { name := "<init>", desc := "()V", sig := { parameters := [], returnType := none }, accessFlags := 0, code := none }
def k11c1 : Code := { maxStack := 2, maxLocals := 2, code := jdk_52_method_15_code, exceptionTable := #[], attributes := #[] }
def k11m1 : Method := { name := "coderFromArrayLen", desc := "([BI)B", sig := { parameters := [(.array .byte), .int], returnType := some .byte }, accessFlags := 8, code := some k11c1 }
def k11c2 : Code := { maxStack := 5, maxLocals := 6, code := jdk_52_method_16_code, exceptionTable := #[], attributes := #[] }
def k11m2 : Method := { name := "compress", desc := "([CII)[B", sig := { parameters := [(.array .char), .int, .int], returnType := some (.array .byte) }, accessFlags := 9, code := some k11c2 }
def k11c3 : Code := { maxStack := 3, maxLocals := 7, code := jdk_52_method_21_code, exceptionTable := #[], attributes := #[] }
def k11m3 : Method := { name := "compress", desc := "([CI[BII)I", sig := { parameters := [(.array .char), .int, (.array .byte), .int, .int], returnType := some .int }, accessFlags := 9, code := some k11c3 }
/-- java/lang/StringUTF16 -/
def k11 : Class := { plain "java/lang/StringUTF16" (some 0) with
  accessFlags := 48
  interfaces := #[]
  cf := some (fileOf pool11 12 #[.nestMembers #[627, 629, 369]] #[{ accessFlags := 0, nameIndex := 9, descriptorIndex := 10, attributes := #[] }, { accessFlags := 8, nameIndex := 261, descriptorIndex := 262, attributes := #[] }, { accessFlags := 9, nameIndex := 117, descriptorIndex := 122, attributes := #[] }, { accessFlags := 9, nameIndex := 117, descriptorIndex := 118, attributes := #[] }] 48 6 #[] #[{ accessFlags := 26, nameIndex := 61, descriptorIndex := 62, attributes := #[] }, { accessFlags := 26, nameIndex := 65, descriptorIndex := 62, attributes := #[] }, { accessFlags := 24, nameIndex := 430, descriptorIndex := 62, attributes := #[] }, { accessFlags := 4120, nameIndex := 46, descriptorIndex := 47, attributes := #[] }])
  fields := #[{ name := "HI_BYTE_SHIFT", type := .int, accessFlags := 26, slot := 0, constantValue := 0 }, { name := "LO_BYTE_SHIFT", type := .int, accessFlags := 26, slot := 1, constantValue := 0 }, { name := "MAX_LENGTH", type := .int, accessFlags := 24, slot := 2, constantValue := 0 }, { name := "$assertionsDisabled", type := .boolean, accessFlags := 4120, slot := 3, constantValue := 0 }]
  methods := #[k11m0, k11m1, k11m2, k11m3]
  instanceTypes := #[]
  staticTypes := #[.int, .int, .int, .boolean]
  resolved := Array.replicate 635 none
  statics := none }

def pool12 : Array CpInfo := pool [(2, .class_ 4), (1, u "java/lang/Object"), (0, u "<init>"), (0, u "()V"), (17, .class_ 26), (1, u "jdk/internal/util/Preconditions"), (28, .class_ 56), (0, u "jdk/internal/util/Preconditions$4"), (57, .class_ 115), (0, u "jdk/internal/util/Preconditions$1"), (7, u "SIOOBE_FORMATTER"), (0, u "Ljava/util/function/BiFunction;"), (0, .class_ 126), (0, u "jdk/internal/util/Preconditions$2"), (3, u "AIOOBE_FORMATTER"), (0, .class_ 132), (0, u "jdk/internal/util/Preconditions$3"), (3, u "IOOBE_FORMATTER")] 57

def k12m0 : Method := { name := "<init>", desc := "()V", sig := { parameters := [], returnType := none }, accessFlags := 1, code := none }
/-- jdk/internal/util/Preconditions -/
def k12 : Class := { plain "jdk/internal/util/Preconditions" (some 0) with
  accessFlags := 33
  interfaces := #[]
  cf := some (fileOf pool12 24 #[.nestMembers #[55, 131, 125, 114]] #[{ accessFlags := 1, nameIndex := 5, descriptorIndex := 6, attributes := #[] }] 33 2 #[] #[{ accessFlags := 25, nameIndex := 123, descriptorIndex := 124, attributes := #[] }, { accessFlags := 25, nameIndex := 130, descriptorIndex := 124, attributes := #[] }, { accessFlags := 25, nameIndex := 136, descriptorIndex := 124, attributes := #[] }])
  fields := #[{ name := "SIOOBE_FORMATTER", type := (.object "java/util/function/BiFunction"), accessFlags := 25, slot := 0, constantValue := 0 }, { name := "AIOOBE_FORMATTER", type := (.object "java/util/function/BiFunction"), accessFlags := 25, slot := 1, constantValue := 0 }, { name := "IOOBE_FORMATTER", type := (.object "java/util/function/BiFunction"), accessFlags := 25, slot := 2, constantValue := 0 }]
  methods := #[k12m0]
  instanceTypes := #[]
  staticTypes := #[(.object "java/util/function/BiFunction"), (.object "java/util/function/BiFunction"), (.object "java/util/function/BiFunction")]
  resolved := Array.replicate 194 none
  statics := some 1 }

def pool13 : Array CpInfo := pool [(9, u "<init>"), (6, .class_ 18), (1, u "java/lang/Object"), (0, u "()V"), (1, .class_ 23), (1, u "jdk/internal/util/ArraysSupport"), (0, u "LOG2_ARRAY_LONG_INDEX_SCALE"), (0, u "I"), (2, u "U"), (0, u "Ljdk/internal/misc/Unsafe;"), (8, u "BIG_ENDIAN"), (0, u "Z"), (8, u "LOG2_BYTE_BIT_SIZE"), (4, u "LOG2_ARRAY_INT_INDEX_SCALE"), (54, u "JLA"), (0, u "Ljdk/internal/access/JavaLangAccess;"), (11, u "LOG2_ARRAY_BOOLEAN_INDEX_SCALE"), (9, u "LOG2_ARRAY_BYTE_INDEX_SCALE"), (5, u "LOG2_ARRAY_CHAR_INDEX_SCALE"), (5, u "LOG2_ARRAY_SHORT_INDEX_SCALE"), (18, u "LOG2_ARRAY_FLOAT_INDEX_SCALE"), (24, u "LOG2_ARRAY_DOUBLE_INDEX_SCALE"), (89, u "T_BOOLEAN"), (2, u "T_CHAR"), (1, u "T_FLOAT"), (1, u "T_DOUBLE"), (1, u "T_BYTE"), (1, u "T_SHORT"), (1, u "T_INT"), (1, u "T_LONG"), (1, u "SOFT_MAX_ARRAY_LENGTH")] 83

def k13m0 : Method := { name := "<init>", desc := "()V", sig := { parameters := [], returnType := none }, accessFlags := 2, code := none }
/-- jdk/internal/util/ArraysSupport -/
def k13 : Class := { plain "jdk/internal/util/ArraysSupport" (some 0) with
  accessFlags := 33
  interfaces := #[]
  cf := some (fileOf pool13 21 #[] #[{ accessFlags := 2, nameIndex := 9, descriptorIndex := 19, attributes := #[] }] 33 16 #[] #[{ accessFlags := 24, nameIndex := 28, descriptorIndex := 29, attributes := #[] }, { accessFlags := 26, nameIndex := 38, descriptorIndex := 39, attributes := #[] }, { accessFlags := 25, nameIndex := 121, descriptorIndex := 25, attributes := #[] }, { accessFlags := 25, nameIndex := 131, descriptorIndex := 25, attributes := #[] }, { accessFlags := 25, nameIndex := 137, descriptorIndex := 25, attributes := #[] }, { accessFlags := 25, nameIndex := 143, descriptorIndex := 25, attributes := #[] }, { accessFlags := 25, nameIndex := 53, descriptorIndex := 25, attributes := #[] }, { accessFlags := 25, nameIndex := 24, descriptorIndex := 25, attributes := #[] }, { accessFlags := 25, nameIndex := 162, descriptorIndex := 25, attributes := #[] }, { accessFlags := 25, nameIndex := 187, descriptorIndex := 25, attributes := #[] }, { accessFlags := 26, nameIndex := 48, descriptorIndex := 25, attributes := #[] }, { accessFlags := 25, nameIndex := 277, descriptorIndex := 25, attributes := #[] }, { accessFlags := 25, nameIndex := 280, descriptorIndex := 25, attributes := #[] }, { accessFlags := 25, nameIndex := 282, descriptorIndex := 25, attributes := #[] }, { accessFlags := 25, nameIndex := 284, descriptorIndex := 25, attributes := #[] }, { accessFlags := 25, nameIndex := 286, descriptorIndex := 25, attributes := #[] }, { accessFlags := 25, nameIndex := 288, descriptorIndex := 25, attributes := #[] }, { accessFlags := 25, nameIndex := 290, descriptorIndex := 25, attributes := #[] }, { accessFlags := 25, nameIndex := 292, descriptorIndex := 25, attributes := #[] }, { accessFlags := 26, nameIndex := 108, descriptorIndex := 109, attributes := #[] }, { accessFlags := 25, nameIndex := 294, descriptorIndex := 25, attributes := #[] }])
  fields := #[{ name := "U", type := (.object "jdk/internal/misc/Unsafe"), accessFlags := 24, slot := 0, constantValue := 0 }, { name := "BIG_ENDIAN", type := .boolean, accessFlags := 26, slot := 1, constantValue := 0 }, { name := "LOG2_ARRAY_BOOLEAN_INDEX_SCALE", type := .int, accessFlags := 25, slot := 2, constantValue := 0 }, { name := "LOG2_ARRAY_BYTE_INDEX_SCALE", type := .int, accessFlags := 25, slot := 3, constantValue := 0 }, { name := "LOG2_ARRAY_CHAR_INDEX_SCALE", type := .int, accessFlags := 25, slot := 4, constantValue := 0 }, { name := "LOG2_ARRAY_SHORT_INDEX_SCALE", type := .int, accessFlags := 25, slot := 5, constantValue := 0 }, { name := "LOG2_ARRAY_INT_INDEX_SCALE", type := .int, accessFlags := 25, slot := 6, constantValue := 0 }, { name := "LOG2_ARRAY_LONG_INDEX_SCALE", type := .int, accessFlags := 25, slot := 7, constantValue := 0 }, { name := "LOG2_ARRAY_FLOAT_INDEX_SCALE", type := .int, accessFlags := 25, slot := 8, constantValue := 0 }, { name := "LOG2_ARRAY_DOUBLE_INDEX_SCALE", type := .int, accessFlags := 25, slot := 9, constantValue := 0 }, { name := "LOG2_BYTE_BIT_SIZE", type := .int, accessFlags := 26, slot := 10, constantValue := 0 }, { name := "T_BOOLEAN", type := .int, accessFlags := 25, slot := 11, constantValue := 0 }, { name := "T_CHAR", type := .int, accessFlags := 25, slot := 12, constantValue := 0 }, { name := "T_FLOAT", type := .int, accessFlags := 25, slot := 13, constantValue := 0 }, { name := "T_DOUBLE", type := .int, accessFlags := 25, slot := 14, constantValue := 0 }, { name := "T_BYTE", type := .int, accessFlags := 25, slot := 15, constantValue := 0 }, { name := "T_SHORT", type := .int, accessFlags := 25, slot := 16, constantValue := 0 }, { name := "T_INT", type := .int, accessFlags := 25, slot := 17, constantValue := 0 }, { name := "T_LONG", type := .int, accessFlags := 25, slot := 18, constantValue := 0 }, { name := "JLA", type := (.object "jdk/internal/access/JavaLangAccess"), accessFlags := 26, slot := 19, constantValue := 0 }, { name := "SOFT_MAX_ARRAY_LENGTH", type := .int, accessFlags := 25, slot := 20, constantValue := 0 }]
  methods := #[k13m0]
  instanceTypes := #[]
  staticTypes := #[(.object "jdk/internal/misc/Unsafe"), .boolean, .int, .int, .int, .int, .int, .int, .int, .int, .int, .int, .int, .int, .int, .int, .int, .int, .int, (.object "jdk/internal/access/JavaLangAccess"), .int]
  resolved := Array.replicate 378 none
  statics := none }

def pool14 : Array CpInfo := pool [(1, u "java/lang/Cloneable"), (0, .class_ 1), (0, u "java/lang/Object"), (0, .class_ 3)] 3

/-- java/lang/Cloneable -/
def k14 : Class := { plain "java/lang/Cloneable" (some 0) with
  accessFlags := 1537
  interfaces := #[]
  cf := some (fileOf pool14 2 #[] #[] 1537 4 #[] #[])
  fields := #[]
  methods := #[]
  instanceTypes := #[]
  staticTypes := #[]
  resolved := Array.replicate 8 none
  statics := none }

/-- the primitive byte -/
def k15 : Class := { plain "byte" none with kind := .primitive 'B', accessFlags := 0x411 }
/-- [B -/
def k16 : Class := { plain "[B" (some 0) with kind := .array 15 .byte, interfaces := #[14, 2], accessFlags := 1041 }

/-- the primitive char -/
def k17 : Class := { plain "char" none with kind := .primitive 'C', accessFlags := 0x411 }
/-- [C -/
def k18 : Class := { plain "[C" (some 0) with kind := .array 17 .char, interfaces := #[14, 2], accessFlags := 1041 }

/-- the primitive int -/
def k19 : Class := { plain "int" none with kind := .primitive 'I', accessFlags := 0x411 }
/-- [I -/
def k20 : Class := { plain "[I" (some 0) with kind := .array 19 .int, interfaces := #[14, 2], accessFlags := 1041 }

def heap : Heap := #[{ cls := 7, slots := #[.long 0, .int 1, .null, .int 0, .null, .int 0, .int 0], vm := .statics 7 },
  { cls := 12, slots := #[.null, .null, .null], vm := .statics 12 }]
def classes : Array Class := #[k0, k1, k2, k3, k4, k5, k6, k7, k8, k9, k10, k11, k12, k13, k14, k15, k16, k17, k18, k19, k20]
def interned : List (Array UInt16 × Addr) := []
def slotsUsed : Nat := 10
def theMethod : MethodId := ⟨1, 2⟩
def args0 : Array Value := #[.int 5, .int 7, .int 9, .int 3, .int 4]
def aboutOver (below : List Frame) : State where
  vm := { classes := classes, interned := interned.toArray }
  heap := heap
  slotsUsed := slotsUsed
  threads := #[{ frames := .invoking theMethod args0 :: below }]
def below0 : List Frame := [.native { method := ⟨0, 0⟩, args := #[] }]
def about1 : State := aboutOver below0
def p0 : Program := .bare "" "" ""
def e0 : Env := launch0.env 0 0 0
theorem w_frames : about1.frames = Frame.invoking theMethod args0 :: below0 := rfl
set_option maxRecDepth 65536 in
theorem w_args : argsFit about1.vm theMethod args0 = true := by decide +kernel
set_option maxRecDepth 65536 in
theorem w_heap : heapFits about1 = true := by decide +kernel
set_option maxRecDepth 65536 in
theorem w_runnable : about1.curStatus? = some .runnable := by decide +kernel
set_option maxRecDepth 65536 in
theorem w_alone : about1.alone = true := by decide +kernel
set_option maxRecDepth 65536 in
theorem w_named : about1.methodNamed? x = some theMethod := by decide +kernel
set_option maxRecDepth 65536 in
theorem w_hears : about1.hears theMethod below0 = true := by decide +kernel
set_option maxRecDepth 65536 in
theorem w_ripe : about1.ripe theMethod args0 below0 = true := by decide +kernel
theorem w_running : about1.status = .running := rfl
set_option maxRecDepth 65536 in
theorem w_room : about1.hasRoom e0.platform room_1 = true :=
  launch0.hasRoom_least _ room_1 (by decide +kernel) (by decide +kernel) (by decide +kernel) (by decide +kernel) (by decide +kernel) (by decide +kernel)
theorem allAtoms_all (ts : List Jvm.Cond) (a : Array Jvm.Value) (st : Jvm.State) : (allAtoms ts).before a st = ts.all (fun c => c.before a st) := by
  induction ts with
  | nil => rfl
  | cons c t ih =>
    show (Jvm.Cond.and c (allAtoms t)).before a st = _
    rw [Jvm.Cond.before_and, ih, List.all_cons]
def words1 : List Jvm.Cond := Jvm.Cond.code x code maxLocals ret :: tables_1
/-- a 'code' word, met by the world's own term for the bytes: nothing is compared byte by byte -/
theorem code_word {y : MethodName} {bytes : ByteArray} {mx : Nat} {rt : Option FieldType} {a : Array Value} {s : State} {m : MethodId} {meth : Method} {c : Code} (h1 : s.methodNamed? y = some m) (h2 : s.vm.method? m = some meth) (h3 : meth.code = some c) (h4 : c.code = bytes)
    (h5 : (c.maxLocals == mx && c.exceptionTable.isEmpty && decide (c.maxStack ≤ mostOperands) && decide (meth.sig.returnType = rt) && !meth.locks && decide (parseMethodDescriptor y.desc = some meth.sig)) = true) : (Jvm.Cond.code y bytes mx rt).before a s = true := by
  simp only [Bool.and_eq_true, beq_iff_eq, Bool.not_eq_true', decide_eq_true_eq] at h5
  obtain ⟨⟨⟨⟨⟨g1, g2⟩, g3⟩, g4⟩, g5⟩, g6⟩ := h5
  simp [Cond.before, Cond.holds, Cond.value, h1, h2, h3, h4, g1, g2, g3, g4, g5, g6]
def isCode : Jvm.Cond → Bool
  | .code _ _ _ _ => true
  | _ => false
theorem all_split {L : List Jvm.Cond} {P : Jvm.Cond → Bool} (h1 : L.all (fun c => isCode c || P c) = true) (h2 : ∀ c ∈ L.filter isCode, P c = true) : L.all P = true := by
  refine List.all_eq_true.mpr fun c hc => ?_
  have h := List.all_eq_true.mp h1 c hc
  rcases Bool.eq_false_or_eq_true (isCode c) with hi | hi
  · exact h2 c (List.mem_filter.mpr ⟨hc, hi⟩)
  · simpa [hi] using h
set_option maxRecDepth 65536 in
theorem w_c0 : (Jvm.Cond.code x code maxLocals ret).before args0 about1 = true := code_word (m := ⟨1, 2⟩) (meth := k1m2) (c := k1c2) (by decide +kernel) rfl rfl rfl (by decide +kernel)
set_option maxRecDepth 65536 in
theorem w_c1 : (Jvm.Cond.code ({ cls := "com/example/farcall/farcall/model/RemoteReferenceIsOverConnectionPinLaw", name := "pickPort", desc := "(II)I" } : Jvm.MethodName) method_2_code (3 : Nat) (Option.some Jvm.ClassFile.FieldType.int)).before args0 about1 = true := code_word (m := ⟨1, 1⟩) (meth := k1m1) (c := k1c1) (by decide +kernel) rfl rfl rfl (by decide +kernel)
set_option maxRecDepth 65536 in
theorem w_c2 : (Jvm.Cond.code ({ cls := "java/lang/String", name := "valueOf", desc := "(C)Ljava/lang/String;" } : Jvm.MethodName) jdk_42_method_139_code (1 : Nat) (Option.some (Jvm.ClassFile.FieldType.object "java/lang/String"))).before args0 about1 = true := code_word (m := ⟨7, 3⟩) (meth := k7m3) (c := k7c3) (by decide +kernel) rfl rfl rfl (by decide +kernel)
set_option maxRecDepth 65536 in
theorem w_c3 : (Jvm.Cond.code ({ cls := "java/lang/StringLatin1", name := "canEncode", desc := "(C)Z" } : Jvm.MethodName) jdk_43_method_3_code (1 : Nat) (Option.some Jvm.ClassFile.FieldType.boolean)).before args0 about1 = true := code_word (m := ⟨8, 1⟩) (meth := k8m1) (c := k8c1) (by decide +kernel) rfl rfl rfl (by decide +kernel)
set_option maxRecDepth 65536 in
theorem w_c4 : (Jvm.Cond.code ({ cls := "java/lang/StringLatin1", name := "toBytes", desc := "(C)[B" } : Jvm.MethodName) jdk_43_method_46_code (1 : Nat) (Option.some (Jvm.ClassFile.FieldType.array Jvm.ClassFile.FieldType.byte))).before args0 about1 = true := code_word (m := ⟨8, 2⟩) (meth := k8m2) (c := k8c2) (by decide +kernel) rfl rfl rfl (by decide +kernel)
set_option maxRecDepth 65536 in
theorem w_c5 : (Jvm.Cond.code ({ cls := "java/lang/String", name := "<init>", desc := "([BB)V" } : Jvm.MethodName) jdk_42_method_151_code (3 : Nat) (Option.none : Option Jvm.ClassFile.FieldType)).before args0 about1 = true := code_word (m := ⟨7, 5⟩) (meth := k7m5) (c := k7c5) (by decide +kernel) rfl rfl rfl (by decide +kernel)
set_option maxRecDepth 65536 in
theorem w_c6 : (Jvm.Cond.code ({ cls := "java/lang/Object", name := "<init>", desc := "()V" } : Jvm.MethodName) object_method_1_code (1 : Nat) (Option.none : Option Jvm.ClassFile.FieldType)).before args0 about1 = true := code_word (m := ⟨0, 0⟩) (meth := k0m0) (c := k0c0) (by decide +kernel) rfl rfl rfl (by decide +kernel)
set_option maxRecDepth 65536 in
theorem w_c7 : (Jvm.Cond.code ({ cls := "com/example/farcall/farcall/model/RemoteReference", name := "<init>", desc := "(Ljava/lang/String;III)V" } : Jvm.MethodName) prog_49_method_1_code (5 : Nat) (Option.none : Option Jvm.ClassFile.FieldType)).before args0 about1 = true := code_word (m := ⟨10, 0⟩) (meth := k10m0) (c := k10c0) (by decide +kernel) rfl rfl rfl (by decide +kernel)
set_option maxRecDepth 65536 in
theorem w_c8 : (Jvm.Cond.code ({ cls := "java/lang/Record", name := "<init>", desc := "()V" } : Jvm.MethodName) jdk_30_method_1_code (1 : Nat) (Option.none : Option Jvm.ClassFile.FieldType)).before args0 about1 = true := code_word (m := ⟨9, 0⟩) (meth := k9m0) (c := k9c0) (by decide +kernel) rfl rfl rfl (by decide +kernel)
set_option maxRecDepth 65536 in
theorem w_c9 : (Jvm.Cond.code ({ cls := "java/lang/String", name := "isEmpty", desc := "()Z" } : Jvm.MethodName) jdk_42_method_55_code (1 : Nat) (Option.some Jvm.ClassFile.FieldType.boolean)).before args0 about1 = true := code_word (m := ⟨7, 2⟩) (meth := k7m2) (c := k7c2) (by decide +kernel) rfl rfl rfl (by decide +kernel)
set_option maxRecDepth 65536 in
theorem w_c10 : (Jvm.Cond.code ({ cls := "com/example/farcall/farcall/model/RemoteReference", name := "isOverConnection", desc := "()Z" } : Jvm.MethodName) prog_49_method_3_code (1 : Nat) (Option.some Jvm.ClassFile.FieldType.boolean)).before args0 about1 = true := code_word (m := ⟨10, 2⟩) (meth := k10m2) (c := k10c2) (by decide +kernel) rfl rfl rfl (by decide +kernel)
set_option maxRecDepth 65536 in
theorem w_c11 : (Jvm.Cond.code ({ cls := "com/example/farcall/farcall/model/RemoteReference", name := "overConnection", desc := "(II)Lcom/example/farcall/farcall/model/RemoteReference;" } : Jvm.MethodName) prog_49_method_2_code (2 : Nat) (Option.some (Jvm.ClassFile.FieldType.object "com/example/farcall/farcall/model/RemoteReference"))).before args0 about1 = true := code_word (m := ⟨10, 1⟩) (meth := k10m1) (c := k10c1) (by decide +kernel) rfl rfl rfl (by decide +kernel)
set_option maxRecDepth 65536 in
theorem w_c12 : (Jvm.Cond.code ({ cls := "java/lang/String", name := "<init>", desc := "([C)V" } : Jvm.MethodName) jdk_42_method_3_code (2 : Nat) (Option.none : Option Jvm.ClassFile.FieldType)).before args0 about1 = true := code_word (m := ⟨7, 1⟩) (meth := k7m1) (c := k7c1) (by decide +kernel) rfl rfl rfl (by decide +kernel)
set_option maxRecDepth 65536 in
theorem w_c13 : (Jvm.Cond.code ({ cls := "java/lang/String", name := "<init>", desc := "([CIILjava/lang/Void;)V" } : Jvm.MethodName) jdk_42_method_149_code (6 : Nat) (Option.none : Option Jvm.ClassFile.FieldType)).before args0 about1 = true := code_word (m := ⟨7, 4⟩) (meth := k7m4) (c := k7c4) (by decide +kernel) rfl rfl rfl (by decide +kernel)
set_option maxRecDepth 65536 in
theorem w_c14 : (Jvm.Cond.code ({ cls := "java/lang/StringUTF16", name := "compress", desc := "([CII)[B" } : Jvm.MethodName) jdk_52_method_16_code (6 : Nat) (Option.some (Jvm.ClassFile.FieldType.array Jvm.ClassFile.FieldType.byte))).before args0 about1 = true := code_word (m := ⟨11, 2⟩) (meth := k11m2) (c := k11c2) (by decide +kernel) rfl rfl rfl (by decide +kernel)
set_option maxRecDepth 65536 in
theorem w_c15 : (Jvm.Cond.code ({ cls := "java/lang/StringUTF16", name := "compress", desc := "([CI[BII)I" } : Jvm.MethodName) jdk_52_method_21_code (7 : Nat) (Option.some Jvm.ClassFile.FieldType.int)).before args0 about1 = true := code_word (m := ⟨11, 3⟩) (meth := k11m3) (c := k11c3) (by decide +kernel) rfl rfl rfl (by decide +kernel)
set_option maxRecDepth 65536 in
theorem w_c16 : (Jvm.Cond.code ({ cls := "java/lang/StringUTF16", name := "coderFromArrayLen", desc := "([BI)B" } : Jvm.MethodName) jdk_52_method_15_code (2 : Nat) (Option.some Jvm.ClassFile.FieldType.byte)).before args0 about1 = true := code_word (m := ⟨11, 1⟩) (meth := k11m1) (c := k11c1) (by decide +kernel) rfl rfl rfl (by decide +kernel)
def codes1 : List Jvm.Cond := [Jvm.Cond.code x code maxLocals ret, Jvm.Cond.code ({ cls := "com/example/farcall/farcall/model/RemoteReferenceIsOverConnectionPinLaw", name := "pickPort", desc := "(II)I" } : Jvm.MethodName) method_2_code (3 : Nat) (Option.some Jvm.ClassFile.FieldType.int), Jvm.Cond.code ({ cls := "java/lang/String", name := "valueOf", desc := "(C)Ljava/lang/String;" } : Jvm.MethodName) jdk_42_method_139_code (1 : Nat) (Option.some (Jvm.ClassFile.FieldType.object "java/lang/String")), Jvm.Cond.code ({ cls := "java/lang/StringLatin1", name := "canEncode", desc := "(C)Z" } : Jvm.MethodName) jdk_43_method_3_code (1 : Nat) (Option.some Jvm.ClassFile.FieldType.boolean), Jvm.Cond.code ({ cls := "java/lang/StringLatin1", name := "toBytes", desc := "(C)[B" } : Jvm.MethodName) jdk_43_method_46_code (1 : Nat) (Option.some (Jvm.ClassFile.FieldType.array Jvm.ClassFile.FieldType.byte)), Jvm.Cond.code ({ cls := "java/lang/String", name := "<init>", desc := "([BB)V" } : Jvm.MethodName) jdk_42_method_151_code (3 : Nat) (Option.none : Option Jvm.ClassFile.FieldType), Jvm.Cond.code ({ cls := "java/lang/Object", name := "<init>", desc := "()V" } : Jvm.MethodName) object_method_1_code (1 : Nat) (Option.none : Option Jvm.ClassFile.FieldType), Jvm.Cond.code ({ cls := "com/example/farcall/farcall/model/RemoteReference", name := "<init>", desc := "(Ljava/lang/String;III)V" } : Jvm.MethodName) prog_49_method_1_code (5 : Nat) (Option.none : Option Jvm.ClassFile.FieldType), Jvm.Cond.code ({ cls := "java/lang/Record", name := "<init>", desc := "()V" } : Jvm.MethodName) jdk_30_method_1_code (1 : Nat) (Option.none : Option Jvm.ClassFile.FieldType), Jvm.Cond.code ({ cls := "java/lang/String", name := "isEmpty", desc := "()Z" } : Jvm.MethodName) jdk_42_method_55_code (1 : Nat) (Option.some Jvm.ClassFile.FieldType.boolean), Jvm.Cond.code ({ cls := "com/example/farcall/farcall/model/RemoteReference", name := "isOverConnection", desc := "()Z" } : Jvm.MethodName) prog_49_method_3_code (1 : Nat) (Option.some Jvm.ClassFile.FieldType.boolean), Jvm.Cond.code ({ cls := "com/example/farcall/farcall/model/RemoteReference", name := "overConnection", desc := "(II)Lcom/example/farcall/farcall/model/RemoteReference;" } : Jvm.MethodName) prog_49_method_2_code (2 : Nat) (Option.some (Jvm.ClassFile.FieldType.object "com/example/farcall/farcall/model/RemoteReference")), Jvm.Cond.code ({ cls := "java/lang/String", name := "<init>", desc := "([C)V" } : Jvm.MethodName) jdk_42_method_3_code (2 : Nat) (Option.none : Option Jvm.ClassFile.FieldType), Jvm.Cond.code ({ cls := "java/lang/String", name := "<init>", desc := "([CIILjava/lang/Void;)V" } : Jvm.MethodName) jdk_42_method_149_code (6 : Nat) (Option.none : Option Jvm.ClassFile.FieldType), Jvm.Cond.code ({ cls := "java/lang/StringUTF16", name := "compress", desc := "([CII)[B" } : Jvm.MethodName) jdk_52_method_16_code (6 : Nat) (Option.some (Jvm.ClassFile.FieldType.array Jvm.ClassFile.FieldType.byte)), Jvm.Cond.code ({ cls := "java/lang/StringUTF16", name := "compress", desc := "([CI[BII)I" } : Jvm.MethodName) jdk_52_method_21_code (7 : Nat) (Option.some Jvm.ClassFile.FieldType.int), Jvm.Cond.code ({ cls := "java/lang/StringUTF16", name := "coderFromArrayLen", desc := "([BI)B" } : Jvm.MethodName) jdk_52_method_15_code (2 : Nat) (Option.some Jvm.ClassFile.FieldType.byte)]
set_option maxRecDepth 65536 in
theorem codes_eq : words1.filter isCode = codes1 := rfl
theorem w_codes : ∀ c ∈ words1.filter isCode, c.before args0 about1 = true := by
  rw [codes_eq]
  intro c hc
  simp only [codes1, List.mem_cons, List.not_mem_nil, or_false] at hc
  rcases hc with rfl | rfl | rfl | rfl | rfl | rfl | rfl | rfl | rfl | rfl | rfl | rfl | rfl | rfl | rfl | rfl | rfl
  · exact w_c0
  · exact w_c1
  · exact w_c2
  · exact w_c3
  · exact w_c4
  · exact w_c5
  · exact w_c6
  · exact w_c7
  · exact w_c8
  · exact w_c9
  · exact w_c10
  · exact w_c11
  · exact w_c12
  · exact w_c13
  · exact w_c14
  · exact w_c15
  · exact w_c16
set_option maxRecDepth 65536 in
theorem w_t1 : (words1.take 24).all (fun c => isCode c || c.before args0 about1) = true := by decide +kernel
set_option maxRecDepth 65536 in
theorem w_t2 : ((words1.drop 24).take 24).all (fun c => isCode c || c.before args0 about1) = true := by decide +kernel
set_option maxRecDepth 65536 in
theorem w_t3 : (((words1.drop 24).drop 24).take 24).all (fun c => isCode c || c.before args0 about1) = true := by decide +kernel
set_option maxRecDepth 65536 in
theorem w_t4 : (((words1.drop 24).drop 24).drop 24).all (fun c => isCode c || c.before args0 about1) = true := by decide +kernel
theorem w_tables : (allAtoms (Jvm.Cond.code x code maxLocals ret :: tables_1)).before args0 about1 = true := by
  rw [allAtoms_all]
  show words1.all (fun c => c.before args0 about1) = true
  refine all_split ?_ w_codes
  rw [← List.take_append_drop 24 words1, List.all_append, w_t1, ← List.take_append_drop 24 (words1.drop 24), List.all_append, w_t2, ← List.take_append_drop 24 ((words1.drop 24).drop 24), List.all_append, w_t3, w_t4]
  rfl
set_option maxRecDepth 65536 in
theorem w_rest : rest_1_c.before args0 about1 = true := by decide +kernel
set_option maxRecDepth 65536 in
theorem w_case : (Jvm.Cond.and given_1 narrow_1).before args0 about1 = true := by decide +kernel
set_option maxRecDepth 65536 in
theorem w_consts : constsHeld consts_1 about1 := Jvm.Lit.constsHeldB_iff.mp (by decide +kernel)
theorem w_applies : (headSpec (Jvm.Cond.code x code maxLocals ret :: tables_1) room_1).applies x e0.platform about1 = true :=
  (Spec.applies_iff w_frames).mpr ⟨w_running, w_runnable, w_alone, w_named, w_hears, w_ripe, w_room, w_tables⟩
theorem atStart : AtStart classFile x code maxLocals ret World_1 tables_1 room_1 Calls_1 rest_1 Pre_1 launch0 p0 e0 about1 theMethod args0 below0 :=
  ⟨lists_1, trivial, launch0.admits_env _ _ _, launch0.least_env, fairChoices_fair.cas, fairChoices_fair.clock, w_frames, w_args, w_heap, w_applies, ⟨w_consts, trivial⟩, w_rest, w_case⟩
end start1
theorem witness_1 : WitnessClaimed_1 := ⟨start1.p0, start1.e0, start1.about1, start1.theMethod, start1.args0, start1.below0, start1.atStart⟩
end Jvm.Pilot.@@N@@
