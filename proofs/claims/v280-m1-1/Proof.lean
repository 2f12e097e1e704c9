import JvmDerived
import JvmDerived.Pilot.@@N@@Statement
import JvmDerived.Pilot.@@N@@Code
set_option linter.unusedVariables false
set_option linter.unusedSimpArgs false
namespace Jvm.RoadKit
open Sem ClassFile Op Lib Jvm.Stand Jvm.Free Jvm.LawKit
section OwnGo
variable {p : Program} {l : Launch} {e : Env} {R : Room} {s : State} {m : MethodId} {args : Array Value} {below : List Frame} {meth : Method} {c : Code} {T : State} {locs : List Loc} {cells slots : Nat} {Z : State} {a0 : Array Value} {h : Heap} {kc ks : Nat} {Q : Option Value → Heap → List Loc → Prop} {G : Outcome → State → Prop} {U U' : State}
/-- from U the walk ends, and G says how -/
def OGo (p : Program) (e : Env) (below : List Frame) (G : Outcome → State → Prop) (U : State) : Prop :=
  ∃ s₂ o, Steps p.tables e below U s₂ ∧ s₂.status = .running ∧ Ended s₂ below o ∧ G o s₂
/-- it returned, Q says what, and the frame is kept -/
def OEnd (s : State) (kc ks : Nat) (Q : Option Value → Heap → List Loc → Prop) (o : Outcome) (t : State) : Prop := ∃ v L, o = .returned v ∧ Q v t.heap L ∧ FrameEnd s o t L kc ks
/-- the same where a String constant may have come to be interned -/
def OEndW (s : State) (kc ks : Nat) (Q : Option Value → Heap → List Loc → Prop) (o : Outcome) (t : State) : Prop := ∃ v L, o = .returned v ∧ Q v t.heap L ∧ ReturnedEndW s o t L kc ks
theorem OGo.go (f : ∀ t, Steps p.tables e below U' t → Steps p.tables e below U t) (k : OGo p e below G U') : OGo p e below G U := by
  obtain ⟨s₂, o, h1, h2⟩ := k
  exact ⟨s₂, o, f _ h1, h2⟩
theorem OGo.trans (f : Steps p.tables e below U U') (k : OGo p e below G U') : OGo p e below G U := OGo.go (fun _ r => f.trans r) k
/-- two roads that meet again, in a state that differs in one value -/
theorem OGo.ite1 {α : Type} {P : Prop} [Decidable P] (f : α → State) {x y : α} (h1 : P → OGo p e below G (f x) → OGo p e below G U) (h2 : ¬ P → OGo p e below G (f y) → OGo p e below G U) (k : ∀ z, z = (if P then x else y) → OGo p e below G (f z)) : OGo p e below G U := by
  by_cases q : P
  · exact h1 q (k _ (if_pos q).symm)
  · exact h2 q (k _ (if_neg q).symm)
theorem OGo.ite2 {α β : Type} {P : Prop} [Decidable P] (f : α → β → State) {x y : α} {x' y' : β} (h1 : P → OGo p e below G (f x x') → OGo p e below G U) (h2 : ¬ P → OGo p e below G (f y y') → OGo p e below G U) (k : ∀ z z', z = (if P then x else y) → z' = (if P then x' else y') → OGo p e below G (f z z')) : OGo p e below G U := by
  by_cases q : P
  · exact h1 q (k _ _ (if_pos q).symm (if_pos q).symm)
  · exact h2 q (k _ _ (if_neg q).symm (if_neg q).symm)
theorem OGo.ite3 {α β γ : Type} {P : Prop} [Decidable P] (f : α → β → γ → State) {x y : α} {x' y' : β} {x'' y'' : γ} (h1 : P → OGo p e below G (f x x' x'') → OGo p e below G U) (h2 : ¬ P → OGo p e below G (f y y' y'') → OGo p e below G U) (k : ∀ z z' z'', z = (if P then x else y) → z' = (if P then x' else y') → z'' = (if P then x'' else y'') → OGo p e below G (f z z' z'')) : OGo p e below G U := by
  by_cases q : P
  · exact h1 q (k _ _ _ (if_pos q).symm (if_pos q).symm (if_pos q).symm)
  · exact h2 q (k _ _ _ (if_neg q).symm (if_neg q).symm (if_neg q).symm)
theorem OGo.cut {H : Prop} (V : State) (k1 : (H → OGo p e below G V) → OGo p e below G U) (k2 : H → OGo p e below G V) : OGo p e below G U := k1 k2
theorem OGo.cut2 {α : Type} {H : α → Prop} (V : α → State) (k1 : (∀ a, H a → OGo p e below G (V a)) → OGo p e below G U) (k2 : ∀ a, H a → OGo p e below G (V a)) : OGo p e below G U := k1 k2
theorem OGo.nm {α : Type} (f : α → State) {x : α} (k : ∀ z, z = x → OGo p e below G (f z)) : OGo p e below G (f x) := k x rfl
/-- the end of the walk -/
theorem OGo.ret (X : Stand p l e R s m args below meth c T locs cells slots) {v : Option Value} {g : JFrame} (hv : meth.sig.returnType = none → v = none) (hlk : meth.locks = false)
    (hs : ∀ fs, (∀ (f : JFrame) (acts : List Action), f.method = m → f.locked = none → f.entered = [] → (doReturn e (T.setTop f) acts v).1 = T.setFrames fs) → Steps p.tables e below (T.setTop g) (T.setFrames fs))
    (hQ : Q v T.heap locs) (hc : cells ≤ kc) (hl : slots ≤ ks) : OGo p e below (OEnd s kc ks Q) (T.setTop g) := by
  obtain ⟨fs, hr, hrun, hended, hW, hsame⟩ := X.leave (v := v) hv hlk
  exact ⟨_, _, hs fs hr, hrun, hended, v, locs, rfl, hQ, ⟨_, rfl⟩, hW, hsame.mono hc hl⟩
/-- return of a boolean, byte, char, short -/
theorem OGo.retN (X : Stand p l e R s m args below meth c T locs cells slots) (hx : p.tables.exec = Jvm.exec) {pc : Nat} {Ls : Array Slot} {z : Int32} {t : FieldType} {rest : List Value} (hret : meth.sig.returnType = some t) (hlk : meth.locks = false) (ht : t = .boolean ∨ t = .byte ∨ t = .char ∨ t = .short)
    (hd : decode c.code pc = .ok (.ireturn, 1)) (hQ : Q (some (.int (nar t z))) T.heap locs) (hc : cells ≤ kc) (hl : slots ≤ ks) : OGo p e below (OEnd s kc ks Q) (T.setTop (mkF m pc Ls (.int z :: rest))) :=
  OGo.ret X (fun q => by rw [hret] at q; cases q) hlk (fun fs hr => Jvm.RoadKit.retN X hx hret ht hd hr) hQ hc hl
/-- return of an int, a long, a double, a reference -/
theorem OGo.retV (X : Stand p l e R s m args below meth c T locs cells slots) (hx : p.tables.exec = Jvm.exec) {pc : Nat} {Ls : Array Slot} {w : Value} {t : FieldType} {i : Instr} {rest : List Value} (hret : meth.sig.returnType = some t) (hlk : meth.locks = false) (hn : narrow t w = w)
    (hi : (i = .ireturn ∧ (t = .int ∨ t = .boolean ∨ t = .byte ∨ t = .char ∨ t = .short) ∧ ∃ z, w = .int z) ∨ (i = .lreturn ∧ t = .long ∧ ∃ z, w = .long z) ∨ (i = .dreturn ∧ t = .double ∧ ∃ z, w = .double z) ∨ (i = .freturn ∧ t = .float ∧ ∃ z, w = .float z) ∨ (i = .areturn ∧ t.isReference = true ∧ w.isRef = true))
    (hd : decode c.code pc = .ok (i, 1)) (hQ : Q (some w) T.heap locs) (hc : cells ≤ kc) (hl : slots ≤ ks) : OGo p e below (OEnd s kc ks Q) (T.setTop (mkF m pc Ls (w :: rest))) :=
  OGo.ret X (fun q => by rw [hret] at q; cases q) hlk (fun fs hr => Jvm.RoadKit.retOut X hx hret hn hi hd hr) hQ hc hl
theorem OGo.retI (X : Stand p l e R s m args below meth c T locs cells slots) (hx : p.tables.exec = Jvm.exec) {pc : Nat} {Ls : Array Slot} {z : Int32} {rest : List Value} (hret : meth.sig.returnType = some .int) (hlk : meth.locks = false)
    (hd : decode c.code pc = .ok (.ireturn, 1)) (hQ : Q (some (.int z)) T.heap locs) (hc : cells ≤ kc) (hl : slots ≤ ks) : OGo p e below (OEnd s kc ks Q) (T.setTop (mkF m pc Ls (.int z :: rest))) :=
  OGo.retV X hx hret hlk rfl (Or.inl ⟨rfl, Or.inl rfl, z, rfl⟩) hd hQ hc hl
theorem OGo.retJ (X : Stand p l e R s m args below meth c T locs cells slots) (hx : p.tables.exec = Jvm.exec) {pc : Nat} {Ls : Array Slot} {z : Int64} {rest : List Value} (hret : meth.sig.returnType = some .long) (hlk : meth.locks = false)
    (hd : decode c.code pc = .ok (.lreturn, 1)) (hQ : Q (some (.long z)) T.heap locs) (hc : cells ≤ kc) (hl : slots ≤ ks) : OGo p e below (OEnd s kc ks Q) (T.setTop (mkF m pc Ls (.long z :: rest))) :=
  OGo.retV X hx hret hlk rfl (Or.inr (Or.inl ⟨rfl, rfl, z, rfl⟩)) hd hQ hc hl
theorem OGo.retD (X : Stand p l e R s m args below meth c T locs cells slots) (hx : p.tables.exec = Jvm.exec) {pc : Nat} {Ls : Array Slot} {z : UInt64} {rest : List Value} (hret : meth.sig.returnType = some .double) (hlk : meth.locks = false)
    (hd : decode c.code pc = .ok (.dreturn, 1)) (hQ : Q (some (.double z)) T.heap locs) (hc : cells ≤ kc) (hl : slots ≤ ks) : OGo p e below (OEnd s kc ks Q) (T.setTop (mkF m pc Ls (.double z :: rest))) :=
  OGo.retV X hx hret hlk rfl (Or.inr (Or.inr (Or.inl ⟨rfl, rfl, z, rfl⟩))) hd hQ hc hl
theorem OGo.retA (X : Stand p l e R s m args below meth c T locs cells slots) (hx : p.tables.exec = Jvm.exec) {pc : Nat} {Ls : Array Slot} {w : Value} {t : FieldType} {rest : List Value} (hret : meth.sig.returnType = some t) (hlk : meth.locks = false) (ht : t.isReference = true) (hw : w.isRef = true)
    (hd : decode c.code pc = .ok (.areturn, 1)) (hQ : Q (some w) T.heap locs) (hc : cells ≤ kc) (hl : slots ≤ ks) : OGo p e below (OEnd s kc ks Q) (T.setTop (mkF m pc Ls (w :: rest))) :=
  OGo.retV X hx hret hlk (by cases t <;> first | (cases ht; done) | (cases w <;> first | rfl | (cases hw; done))) (Or.inr (Or.inr (Or.inr (Or.inr ⟨rfl, ht, hw⟩)))) hd hQ hc hl
theorem OGo.ret0 (X : Stand p l e R s m args below meth c T locs cells slots) (hx : p.tables.exec = Jvm.exec) {pc : Nat} {Ls : Array Slot} (hret : meth.sig.returnType = none) (hlk : meth.locks = false)
    (hd : decode c.code pc = .ok (.return_, 1)) (hQ : Q none T.heap locs) (hc : cells ≤ kc) (hl : slots ≤ ks) : OGo p e below (OEnd s kc ks Q) (T.setTop (mkF m pc Ls [])) :=
  OGo.ret X (fun _ => rfl) hlk (fun fs hr => X.returnOut hx hret hd hr) hQ hc hl
/-- the end of the walk where a String constant may have come to be interned -/
theorem OGo.retW {vm₁ : Vm} {n : Nat} (X : Stand p l e R (s.setVm vm₁) m args below meth c T locs cells slots) (hS : s.Since vm₁ n) (hn : n ≤ T.heap.size) {v : Option Value} {g : JFrame} (hv : meth.sig.returnType = none → v = none) (hlk : meth.locks = false)
    (hs : ∀ fs, (∀ (f : JFrame) (acts : List Action), f.method = m → f.locked = none → f.entered = [] → (doReturn e (T.setTop f) acts v).1 = T.setFrames fs) → Steps p.tables e below (T.setTop g) (T.setFrames fs))
    (hQ : Q v T.heap locs) (hc : cells ≤ kc) (hl : slots ≤ ks) : OGo p e below (OEndW s kc ks Q) (T.setTop g) := by
  obtain ⟨fs, hr, hrun, hended, h1, h2, h3, h4⟩ := X.leaveW hS hn (v := v) hv hlk
  exact ⟨_, _, hs fs hr, hrun, hended, v, locs, rfl, hQ, h1, h2, h3, h4.mono hc hl⟩
theorem OGo.retNW {vm₁ : Vm} {n : Nat} (X : Stand p l e R (s.setVm vm₁) m args below meth c T locs cells slots) (hS : s.Since vm₁ n) (hn : n ≤ T.heap.size) (hx : p.tables.exec = Jvm.exec) {pc : Nat} {Ls : Array Slot} {z : Int32} {t : FieldType} {rest : List Value} (hret : meth.sig.returnType = some t) (hlk : meth.locks = false) (ht : t = .boolean ∨ t = .byte ∨ t = .char ∨ t = .short)
    (hd : decode c.code pc = .ok (.ireturn, 1)) (hQ : Q (some (.int (nar t z))) T.heap locs) (hc : cells ≤ kc) (hl : slots ≤ ks) : OGo p e below (OEndW s kc ks Q) (T.setTop (mkF m pc Ls (.int z :: rest))) :=
  OGo.retW X hS hn (fun q => by rw [hret] at q; cases q) hlk (fun fs hr => Jvm.RoadKit.retN X hx hret ht hd hr) hQ hc hl
/-- a body's contract: called with 'as' at a heap h0, it returns, and Q says what it left -/
def OMet (l : Launch) (Z : State) (y : MethodName) (bytes : ByteArray) (maxL : Nat) (ret : Option FieldType) (ws : List Jvm.Cond) (rm : Room) (as : Array Value) (h0 : Heap) (Q : Option Value → Heap → List Loc → Prop) : Prop :=
  MetFree l y (head1 (Jvm.Cond.code y bytes maxL ret :: ws) rm) (fun a U => a = as ∧ Z.Warmed39 U.vm ∧ U.heap = h0) (fun _ _ _ _ _ => True) (fun _ U o U' => ∃ v L, o = .returned v ∧ Q v U'.heap L ∧ FrameEnd U o U' L rm.cells rm.slots)
theorem OMet.of {y : MethodName} {bytes : ByteArray} {maxL : Nat} {ret : Option FieldType} {ws : List Jvm.Cond} {rm : Room} {as : Array Value} {h0 : Heap} (hpn : plainFor y = true)
    (H : ∀ (p : Program) (e : Env) (s : State) (m : MethodId) (below : List Frame) (meth : Method) (c : Code) (T0 : State), Stand p l e rm s m as below meth c T0 [] 0 0 → p.tables.exec = Jvm.exec → c.code = bytes → c.maxLocals = maxL → s.vm.findClass y.cls = some m.cls → meth.name = y.name → meth.sig.returnType = ret → meth.locks = false → Z.Warmed39 s.vm → T0.heap = h0 →
      OGo p e below (OEnd s rm.cells rm.slots Q) (T0.setTop (entryFrame m as maxL))) : OMet l Z y bytes maxL ret ws rm as h0 Q := by
  refine MetFree.of_bodySF hpn hisR ?_
  intro p e s m args below meth c s₁ Bd hml0 hP hK
  obtain ⟨rfl, hZ, hh⟩ := hP
  exact H p e s m below meth c s₁ (Stand.of_body Bd) Bd.exec Bd.bytes hml0 (findClass_of_methodNamed Bd.named) (name_of_methodNamed Bd.named Bd.method).1 Bd.returns Bd.notSynchronized hZ (by rw [← hh, Bd.state]; rfl)
def OMetW (l : Launch) (Z : State) (y : MethodName) (bytes : ByteArray) (maxL : Nat) (ret : Option FieldType) (ws : List Jvm.Cond) (rm : Room) (as : Array Value) (h0 : Heap) (Q : Option Value → Heap → List Loc → Prop) : Prop :=
  MetFree l y (head1 (Jvm.Cond.code y bytes maxL ret :: ws) rm) (fun a U => a = as ∧ Z.Warmed39 U.vm ∧ U.heap = h0) (fun _ _ _ _ _ => True) (fun _ U o U' => ∃ v L, o = .returned v ∧ Q v U'.heap L ∧ ReturnedEndW U o U' L rm.cells rm.slots)
theorem OMetW.of {y : MethodName} {bytes : ByteArray} {maxL : Nat} {ret : Option FieldType} {ws : List Jvm.Cond} {rm : Room} {as : Array Value} {h0 : Heap} (hpn : plainFor y = true)
    (H : ∀ (p : Program) (e : Env) (s : State) (m : MethodId) (below : List Frame) (meth : Method) (c : Code) (T0 : State), Stand p l e rm s m as below meth c T0 [] 0 0 → p.tables.exec = Jvm.exec → c.code = bytes → c.maxLocals = maxL → s.vm.findClass y.cls = some m.cls → meth.name = y.name → meth.sig.returnType = ret → meth.locks = false → Z.Warmed39 s.vm → T0.heap = h0 →
      OGo p e below (OEndW s rm.cells rm.slots Q) (T0.setTop (entryFrame m as maxL))) : OMetW l Z y bytes maxL ret ws rm as h0 Q := by
  refine MetFree.of_bodySF hpn hisR ?_
  intro p e s m args below meth c s₁ Bd hml0 hP hK
  obtain ⟨rfl, hZ, hh⟩ := hP
  exact H p e s m below meth c s₁ (Stand.of_body Bd) Bd.exec Bd.bytes hml0 (findClass_of_methodNamed Bd.named) (name_of_methodNamed Bd.named Bd.method).1 Bd.returns Bd.notSynchronized hZ (by rw [← hh, Bd.state]; rfl)
/-- a call of a static method -/
theorem OGo.callS (X : Stand p l e R s m args below meth c T locs cells slots) (hx : p.tables.exec = Jvm.exec) (hZ : Z.Warmed39 s.vm) {own : String} {index : Nat} {y : MethodName} {bytes : ByteArray} {maxL : Nat} {ret : Option FieldType}
    (hown : s.vm.findClass own = some m.cls) (w1 : (Jvm.Cond.methodLink own index y).before a0 Z = true) (w2 : (Jvm.Cond.static y).before a0 Z = true) (w3 : (Jvm.Cond.initialized y.cls).before a0 Z = true) (w4 : (Jvm.Cond.code y bytes maxL ret).before a0 Z = true)
    (hy : y.cls ≠ "java/lang/invoke/MethodHandle" ∧ y.cls ≠ "java/lang/invoke/VarHandle") {g : JFrame} {argsL rest : List Value} {rm : Room} {Q' : Option Value → Heap → List Loc → Prop} (eT : T.heap = h) (hM : OMet l Z y bytes maxL ret [] rm argsL.toArray h Q')
    (hg : g.method = m) (hsize : g.locals.size = c.maxLocals) (hlen : ∀ sig, parseMethodDescriptor y.desc = some sig → argsL.length = sig.parameters.length) (hstack : g.stack = argsL.reverse ++ rest) {W : Nat} (hW : 2 * g.monitorRoom + (rest.map fun v => v.category).sum ≤ W) (hd : decode c.code g.pc = .ok (.invokestatic index, 3))
    (hf : rm.frames + 1 ≤ R.frames) (hl : W + (maxL + 11) + rm.locals ≤ R.locals) (hc : cells + rm.cells ≤ R.cells) (hs : slots + rm.slots ≤ R.slots)
    (k : ∀ (v : Option Value) (T' : State) (L' : List Loc), Stand p l e R s m args below meth c T' (locs ++ L') (cells + rm.cells) (slots + rm.slots) → Q' v T'.heap L' → OGo p e below G (T'.setTop { g with pc := g.pc + 3, stack := v.toList ++ rest })) : OGo p e below G (T.setTop g) := by
  obtain ⟨v, vm₁, B, hW₁, X', ⟨L, hQ, e1, e2, e3⟩, st⟩ := Jvm.LawKit.callS X hx (y := y) hown (mvT hZ w1) (mvT hZ w2) (mvT hZ w3) (mvT hZ w4) hy (backOf (W := W) hM hZ w4 w3 hf hl) (g := g) hg hsize (argsL := argsL) (rest := rest) hlen hstack hW hd (fun _ _ => ⟨rfl, eT, hc, hs⟩)
  rw [e1, e2, e3] at X'
  exact OGo.go st (k v B.U L X' hQ)
/-- a call of a constructor -/
theorem OGo.callI (X : Stand p l e R s m args below meth c T locs cells slots) (hx : p.tables.exec = Jvm.exec) (hZ : Z.Warmed39 s.vm) {own : String} {index : Nat} {y : MethodName} {bytes : ByteArray} {maxL : Nat} (hy1 : y.name = "<init>")
    (hown : s.vm.findClass own = some m.cls) (w1 : (Jvm.Cond.methodLink own index y).before a0 Z = true) (w2 : (Jvm.Cond.instanceMethod y).before a0 Z = true) (w3 : (Jvm.Cond.initialized y.cls).before a0 Z = true) (w4 : (Jvm.Cond.code y bytes maxL none).before a0 Z = true)
    (hy : y.cls ≠ "java/lang/invoke/MethodHandle" ∧ y.cls ≠ "java/lang/invoke/VarHandle") {g : JFrame} {a : Addr} {argsL rest : List Value} {rm : Room} {Q' : Option Value → Heap → List Loc → Prop} (eT : T.heap = h) (hM : OMet l Z y bytes maxL none [] rm (.ref a :: argsL).toArray h Q')
    (hg : g.method = m) (hsize : g.locals.size = c.maxLocals) (hlen : ∀ sig, parseMethodDescriptor y.desc = some sig → argsL.length = sig.parameters.length) (hstack : g.stack = argsL.reverse ++ .ref a :: rest) {W : Nat} (hW : 2 * g.monitorRoom + (rest.map fun v => v.category).sum ≤ W) (hd : decode c.code g.pc = .ok (.invokespecial index, 3))
    (hf : rm.frames + 1 ≤ R.frames) (hl : W + (maxL + 11) + rm.locals ≤ R.locals) (hc : cells + rm.cells ≤ R.cells) (hs : slots + rm.slots ≤ R.slots)
    (k : ∀ (v : Option Value) (T' : State) (L' : List Loc), Stand p l e R s m args below meth c T' (locs ++ L') (cells + rm.cells) (slots + rm.slots) → Q' v T'.heap L' → OGo p e below G (T'.setTop { g with pc := g.pc + 3, stack := v.toList ++ rest })) : OGo p e below G (T.setTop g) := by
  obtain ⟨v, vm₁, B, hW₁, X', ⟨L, hQ, e1, e2, e3⟩, st⟩ := X.specialBack hx (y := y) hy1 hown (mvT hZ w1) (mvT hZ w2) (mvT hZ w4) hy (backOf (W := W) hM hZ w4 w3 hf hl) (g := g) hg hsize (Steps.refl _) (a := a) (argsL := argsL) (rest := rest) hlen hstack hW hd (fun _ _ => ⟨rfl, eT, hc, hs⟩)
  rw [e1, e2, e3] at X'
  exact OGo.trans st (k v B.U L X' hQ)
/-- a call of an instance method -/
theorem OGo.callV (X : Stand p l e R s m args below meth c T locs cells slots) (hx : p.tables.exec = Jvm.exec) (hZ : Z.Warmed39 s.vm) {own C : String} {index : Nat} {y : MethodName} {bytes : ByteArray} {maxL : Nat} {ret : Option FieldType}
    (hown : s.vm.findClass own = some m.cls) (w1 : (Jvm.Cond.methodLink own index y).before a0 Z = true) (w5 : (Jvm.Cond.declares y).before a0 Z = true) (w6 : (Jvm.Cond.selects C y y).before a0 Z = true) (w2 : (Jvm.Cond.instanceMethod y).before a0 Z = true) (w3 : (Jvm.Cond.initialized y.cls).before a0 Z = true) (w4 : (Jvm.Cond.code y bytes maxL ret).before a0 Z = true)
    (hy : y.cls ≠ "java/lang/invoke/MethodHandle" ∧ y.cls ≠ "java/lang/invoke/VarHandle") {g : JFrame} {a : Addr} {argsL rest : List Value} {rm : Room} {Q' : Option Value → Heap → List Loc → Prop} (eT : T.heap = h) (E : Exa Z h a C) (hM : OMet l Z y bytes maxL ret [] rm (.ref a :: argsL).toArray h Q')
    (hg : g.method = m) (hsize : g.locals.size = c.maxLocals) (hlen : ∀ sig, parseMethodDescriptor y.desc = some sig → argsL.length = sig.parameters.length) (hstack : g.stack = argsL.reverse ++ .ref a :: rest) {W : Nat} (hW : 2 * g.monitorRoom + (rest.map fun v => v.category).sum ≤ W) (hd : decode c.code g.pc = .ok (.invokevirtual index, 3))
    (hf : rm.frames + 1 ≤ R.frames) (hl : W + (maxL + 11) + rm.locals ≤ R.locals) (hc : cells + rm.cells ≤ R.cells) (hs : slots + rm.slots ≤ R.slots)
    (k : ∀ (v : Option Value) (T' : State) (L' : List Loc), Stand p l e R s m args below meth c T' (locs ++ L') (cells + rm.cells) (slots + rm.slots) → Q' v T'.heap L' → OGo p e below G (T'.setTop { g with pc := g.pc + 3, stack := v.toList ++ rest })) : OGo p e below G (T.setTop g) := by
  obtain ⟨cB, kB, q1, q2, q3⟩ := isOf hZ eT E
  obtain ⟨v, vm₁, B, hW₁, X', ⟨L, hQ, e1, e2, e3⟩, st⟩ := X.virtualBack hx (y := y) (z := y) hown (mvT hZ w1) (mvT hZ w5) (notFace_of_selects (args := #[]) (mvT hZ w6)) (mvT hZ w6) (mvT hZ w2) hy (backOf (W := W) hM hZ w4 w3 hf hl) q1 q3 (g := g) hg hsize (Steps.refl _) (argsL := argsL) (rest := rest) hlen hstack hW hd (fun _ _ => ⟨rfl, eT, hc, hs⟩)
  rw [e1, e2, e3] at X'
  exact OGo.trans st (k v B.U L X' hQ)
/-- what a contract says that leaves the heap as it was -/
def OPure (w : Option Value) (h0 : Heap) (v : Option Value) (h : Heap) (L : List Loc) : Prop := v = w ∧ h = h0 ∧ L = []
/-- a static that a sheet says to hold an object of just this class -/
theorem own_enum {s : State} {args : Array Value} {C n d K : String} (hx : (Jvm.Cond.exactly (.static C n d) K).value args s none s [] = some true) (w1 : (Jvm.Cond.initialized C).before args s = true) (w2 : (Jvm.Cond.laysStatic C n d).before args s = true) :
    ∃ a, (Term.static C n d).eval args s none [] s = some (.ref a) ∧ Sta s s.heap C n d (.ref a) ∧ Exa s s.heap a K := by
  obtain ⟨a, ev⟩ := exa_v hx
  exact ⟨a, ev, Sta.start ev (Or.inr ⟨w1, w2⟩), Exa.start ev hx⟩
theorem own_efld {s : State} {args : Array Value} {t : Term} {C n d : String} {a : Addr} {k : Int32} (ev : t.eval args s none [] s = some (.ref a)) (h : (Jvm.Cond.eq (.field t C n d) (.int k)).value args s none s [] = some true) : Fld s s.heap a C n d (.int k) := by
  obtain ⟨x, y, h1, h2, h3, h4⟩ := cmp_v (Or.inl h)
  have h2' : y = .int k := (Option.some.inj h2).symm
  subst h2'
  obtain ⟨z, rfl⟩ := h4
  have q : (Jvm.Cond.eq (.field t C n d) (.int k)).value args s none s [] = some (decide (z = k)) := by simp [Cond.value, h1, h2]
  have e := gotT q h
  subst e
  exact Fld.start ((fld_at ev).symm.trans h1)
theorem own_sta_keep {h' : Heap} {C n d : String} {v : Value} {ws : List Addr} (F : Sta Z h C n d v) (K : Keep h h' ws) (q : ∀ x ∈ ws, ∀ cell : Cell, h[x]? = some cell → cell.vm.isStatics = false) : Sta Z h' C n d v := by
  obtain ⟨cf, i, k, f, st, cell, h1, h2, h3, h4, h5, h6, h7⟩ := F
  exact ⟨cf, i, k, f, st, cell, h1, h2, h3, h4, K.2.1 _ _ h5 (fun r => by rw [q _ r _ h5] at h6; cases h6), h6, h7⟩
theorem own_plain {a : Addr} {C : String} (F : Exa Z h a C) : ∀ cell : Cell, h[a]? = some cell → cell.vm.isStatics = false := fun cell hc => by
  obtain ⟨c', k, h1, h2, h3, h4, h5⟩ := F
  cases h1.symm.trans hc
  exact h4
theorem nar_b0 : nar .boolean 0 = 0 := by decide
theorem nar_b1 : nar .boolean 1 = 1 := by decide
theorem nar_bite {P : Prop} [Decidable P] {x y : Int32} : nar .boolean (if P then x else y) = if P then nar .boolean x else nar .boolean y := by split <;> rfl
end OwnGo
end Jvm.RoadKit
namespace Jvm.RoadKit
open Jvm.FP.Core
/-- the double x is the number m / 2^k -/
def DV (x : UInt64) (m k : Nat) : Prop := ∃ (c : Nat) (q : Int), val64 x = .fin false c q ∧ c * 2 ^ (q + 1074).toNat = m * 2 ^ (1074 - k)
theorem own_pw {A A' a b : Nat} (h : A * 2 ^ a = A' * 2 ^ b) : A * 2 ^ (a - b) = A' * 2 ^ (b - a) := by
  rcases Nat.le_total a b with q | q
  · obtain ⟨t, rfl⟩ := Nat.exists_eq_add_of_le q
    rw [Nat.pow_add, ← Nat.mul_assoc, Nat.mul_right_comm] at h
    have r := Nat.eq_of_mul_eq_mul_right (Nat.two_pow_pos a) h
    rw [show a - (a + t) = 0 by omega, show a + t - a = t by omega, Nat.pow_zero, Nat.mul_one]; exact r
  · obtain ⟨t, rfl⟩ := Nat.exists_eq_add_of_le q
    rw [Nat.pow_add, ← Nat.mul_assoc, Nat.mul_right_comm] at h
    have r := Nat.eq_of_mul_eq_mul_right (Nat.two_pow_pos b) h
    rw [show b - (b + t) = 0 by omega, show b + t - b = t by omega, Nat.pow_zero, Nat.mul_one]; exact r
theorem own_qmin : b64.qmin = -1074 := by decide
theorem own_qmax : b64.qmax = 971 := by decide
theorem own_fitq {x : UInt64} {s : Bool} {c : Nat} {q : Int} (h : val64 x = .fin s c q) : -1074 ≤ q ∧ q ≤ 971 := by
  have f := val64_fits x
  rw [h] at f
  have f2 := f.2
  rw [own_qmin, own_qmax] at f2
  exact ⟨f2.1, f2.2.1⟩
/-- a ratio that is m / 2^k rounds to it -/
theorem own_round {A B m k : Nat} {e : Int} (hB : 0 < B) (hm : m < 2 ^ 53) (hk : k ≤ 1000) {a b : Nat} (he : e + (k : Int) = (a : Int) - (b : Int)) (h : A * 2 ^ a = m * B * 2 ^ b) :
    ∃ (c : Nat) (q : Int), roundRatio b64 false A B e = .fin false c q ∧ c * 2 ^ (q + 1074).toNat = m * 2 ^ (1074 - k) := by
  have h1 := own_pw h
  have h2 : roundRatio b64 false A B e = roundRatio b64 false m 1 (-(k : Int)) := by
    refine roundRatio_congr hB (by decide) ?_
    rw [Nat.mul_one, show (e - -(k : Int)).toNat = a - b by omega, show (-(k : Int) - e).toNat = b - a by omega]
    exact h1
  obtain ⟨c, q, h3, h4⟩ := round_exact good_b64 false (c := m) (q := -(k : Int)) hm (by rw [own_qmin]; omega) (by rw [own_qmax]; omega)
  refine ⟨c, q, h2.trans h3, ?_⟩
  rw [own_qmin] at h4
  unfold inUnits at h4
  rw [show (q - (-1074)).toNat = (q + 1074).toNat by congr 1, show (-(k : Int) - (-1074)).toNat = 1074 - k by omega] at h4
  exact h4
theorem DV.of_i2d {a : Int32} (h : 0 ≤ a.toInt) : DV (i2d a) a.toInt.toNat 0 := by
  have hr := a.toInt_lt
  obtain ⟨c, q, h1, h2⟩ := own_round (A := a.toInt.natAbs) (B := 1) (m := a.toInt.toNat) (k := 0) (e := 0) (by decide) (by omega) (by decide) (a := 0) (b := 0) (by omega) (by rw [Nat.pow_zero, Nat.mul_one, Nat.mul_one, Nat.mul_one]; omega)
  refine ⟨c, q, ?_, h2⟩
  rw [val64_i2d]
  show roundRatio b64 (decide (a.toInt < 0)) a.toInt.natAbs 1 0 = _
  rw [decide_eq_false (by omega)]; exact h1
theorem DV.of_l2d {a : Int64} (h : 0 ≤ a.toInt) (h' : a.toInt < 2 ^ 53) : DV (l2d a) a.toInt.toNat 0 := by
  obtain ⟨c, q, h1, h2⟩ := own_round (A := a.toInt.natAbs) (B := 1) (m := a.toInt.toNat) (k := 0) (e := 0) (by decide) (by omega) (by decide) (a := 0) (b := 0) (by omega) (by rw [Nat.pow_zero, Nat.mul_one, Nat.mul_one, Nat.mul_one]; omega)
  refine ⟨c, q, ?_, h2⟩
  rw [val64_l2d]
  show roundRatio b64 (decide (a.toInt < 0)) a.toInt.natAbs 1 0 = _
  rw [decide_eq_false (by omega)]; exact h1
theorem DV.div {x y : UInt64} {m k j : Nat} (hx : DV x m k) (hy : DV y (2 ^ j) 0) (hm : m < 2 ^ 53) (hk : k + j ≤ 1000) : DV (ddiv x y) m (k + j) := by
  obtain ⟨c, q, ex, vx⟩ := hx
  obtain ⟨d, r, ey, vy⟩ := hy
  have fq := own_fitq ex
  have fr := own_fitq ey
  have hd : 0 < d := by
    rcases Nat.eq_zero_or_pos d with z | z
    · rw [z, Nat.zero_mul, ← Nat.pow_add] at vy; have := Nat.two_pow_pos (j + (1074 - 0)); omega
    · exact z
  obtain ⟨c', q', h1, h2⟩ := own_round (A := c) (B := d) (m := m) (k := k + j) (e := q - r) hd hm hk (a := (q + 1074).toNat + (j + 1074)) (b := (r + 1074).toNat + (1074 - k)) (by omega) (by
    rw [Nat.pow_add, ← Nat.mul_assoc, vx]
    rw [show 2 ^ (j + 1074) = d * 2 ^ (r + 1074).toNat by rw [vy, ← Nat.pow_add]]
    rw [Nat.pow_add, Nat.mul_assoc, Nat.mul_assoc]
    congr 1
    rw [Nat.mul_comm (2 ^ (1074 - k)), Nat.mul_assoc])
  refine ⟨c', q', ?_, h2⟩
  rw [val64_ddiv, ex, ey]
  show (if d = 0 then _ else roundRatio b64 (false != false) c d (q - r)) = _
  rw [if_neg (by omega)]; exact h1
theorem DV.mul {x y : UInt64} {m m' k k' : Nat} (hx : DV x m k) (hy : DV y m' k') (hm : m * m' < 2 ^ 53) (hk : k + k' ≤ 1000) : DV (dmul x y) (m * m') (k + k') := by
  obtain ⟨c, q, ex, vx⟩ := hx
  obtain ⟨d, r, ey, vy⟩ := hy
  have fq := own_fitq ex
  have fr := own_fitq ey
  obtain ⟨c', q', h1, h2⟩ := own_round (A := c * d) (B := 1) (m := m * m') (k := k + k') (e := q + r) (by decide) hm hk (a := (q + 1074).toNat + (r + 1074).toNat) (b := (1074 - k) + (1074 - k')) (by omega) (by
    rw [Nat.pow_add, Nat.mul_mul_mul_comm, vx, vy, Nat.mul_one, Nat.pow_add, Nat.mul_mul_mul_comm])
  refine ⟨c', q', ?_, h2⟩
  rw [val64_dmul, ex, ey]; exact h1
theorem own_units {c : Nat} {q e : Int} (h : e ≤ q) (he : -1074 ≤ e) : inUnits c q e * 2 ^ (e + 1074).toNat = c * 2 ^ (q + 1074).toNat := by
  unfold inUnits
  rw [Nat.mul_assoc, ← Nat.pow_add]; congr 2; omega
theorem DV.add {x y : UInt64} {m m' k : Nat} (hx : DV x m k) (hy : DV y m' k) (hm : m + m' < 2 ^ 53) (hk : k ≤ 1000) : DV (dadd x y) (m + m') k := by
  obtain ⟨c, q, ex, vx⟩ := hx
  obtain ⟨d, r, ey, vy⟩ := hy
  have fq := own_fitq ex
  have fr := own_fitq ey
  have he : -1074 ≤ min q r := by omega
  obtain ⟨c', q', h1, h2⟩ := own_round (A := inUnits c q (min q r) + inUnits d r (min q r)) (B := 1) (m := m + m') (k := k) (e := min q r) (by decide) hm hk (a := (min q r + 1074).toNat) (b := 1074 - k) (by omega) (by
    rw [Nat.add_mul, own_units (by omega) he, own_units (by omega) he, vx, vy, Nat.mul_one, Nat.add_mul])
  refine ⟨c', q', ?_, h2⟩
  rw [val64_dadd, ex, ey]
  have hs : sumUnits false c q false d r (min q r) = ((inUnits c q (min q r) + inUnits d r (min q r) : Nat) : Int) := by simp [sumUnits, signed]
  show roundRatio b64 (sumSign false false (sumUnits false c q false d r (min q r))) (sumUnits false c q false d r (min q r)).natAbs 1 (min q r) = _
  rw [hs, Int.natAbs_natCast, show sumSign false false ((inUnits c q (min q r) + inUnits d r (min q r) : Nat) : Int) = false by
    unfold sumSign; split
    · rfl
    · exact decide_eq_false (by omega)]
  exact h1
theorem DV.sub {x y : UInt64} {m m' k : Nat} (hx : DV x m k) (hy : DV y m' k) (hle : m' ≤ m) (hm : m < 2 ^ 53) (hk : k ≤ 1000) : DV (dsub x y) (m - m') k := by
  obtain ⟨c, q, ex, vx⟩ := hx
  obtain ⟨d, r, ey, vy⟩ := hy
  have fq := own_fitq ex
  have fr := own_fitq ey
  have he : -1074 ≤ min q r := by omega
  have u1 := own_units (c := c) (q := q) (e := min q r) (by omega) he
  have u2 := own_units (c := d) (q := r) (e := min q r) (by omega) he
  rw [vx] at u1
  rw [vy] at u2
  have hc : inUnits d r (min q r) ≤ inUnits c q (min q r) := by
    refine Nat.le_of_mul_le_mul_right ?_ (Nat.two_pow_pos (min q r + 1074).toNat)
    rw [u1, u2]; exact Nat.mul_le_mul_right _ hle
  obtain ⟨c', q', h1, h2⟩ := own_round (A := inUnits c q (min q r) - inUnits d r (min q r)) (B := 1) (m := m - m') (k := k) (e := min q r) (by decide) (by omega) hk (a := (min q r + 1074).toNat) (b := 1074 - k) (by omega) (by
    rw [Nat.sub_mul, u1, u2, Nat.mul_one, Nat.sub_mul])
  refine ⟨c', q', ?_, h2⟩
  rw [val64_dsub, ex, ey]
  have hs : sumUnits false c q true d r (min q r) = ((inUnits c q (min q r) - inUnits d r (min q r) : Nat) : Int) := by
    simp only [sumUnits, signed]; simp; omega
  show roundRatio b64 (sumSign false true (sumUnits false c q true d r (min q r))) (sumUnits false c q true d r (min q r)).natAbs 1 (min q r) = _
  rw [hs, Int.natAbs_natCast, show sumSign false true ((inUnits c q (min q r) - inUnits d r (min q r) : Nat) : Int) = false by
    unfold sumSign; split
    · rfl
    · exact decide_eq_false (by omega)]
  exact h1
theorem DV.up {x : UInt64} {m k j : Nat} (hx : DV x m k) (hk : k + j ≤ 1000) : DV x (m * 2 ^ j) (k + j) := by
  obtain ⟨c, q, ex, vx⟩ := hx
  refine ⟨c, q, ex, ?_⟩
  rw [vx, Nat.mul_assoc, ← Nat.pow_add]; congr 2; omega
theorem DV.cmp {x y : UInt64} {m m' k : Nat} (hx : DV x m k) (hy : DV y m' k) : dcmp x y = some (compare m m') := by
  obtain ⟨c, q, ex, vx⟩ := hx
  obtain ⟨d, r, ey, vy⟩ := hy
  have fq := own_fitq ex
  have fr := own_fitq ey
  have he : -1074 ≤ min q r := by omega
  have u1 := own_units (c := c) (q := q) (e := min q r) (by omega) he
  have u2 := own_units (c := d) (q := r) (e := min q r) (by omega) he
  rw [vx] at u1
  rw [vy] at u2
  have p1 := Nat.two_pow_pos (min q r + 1074).toNat
  have p2 := Nat.two_pow_pos (1074 - k)
  show order (val64 x) (val64 y) = _
  rw [ex, ey]
  show some (compare (signed false (inUnits c q (min q r))) (signed false (inUnits d r (min q r)))) = _
  generalize inUnits c q (min q r) = A at *
  generalize inUnits d r (min q r) = B at *
  generalize 2 ^ (min q r + 1074).toNat = P at *
  generalize 2 ^ (1074 - k) = R at *
  have i1 : A < B ↔ m < m' := by
    constructor
    · intro h
      have := Nat.mul_lt_mul_of_pos_right h p1
      rw [u1, u2] at this
      exact Nat.lt_of_mul_lt_mul_right this
    · intro h
      have := Nat.mul_lt_mul_of_pos_right h p2
      rw [← u1, ← u2] at this
      exact Nat.lt_of_mul_lt_mul_right this
  have i2 : A = B ↔ m = m' := by
    constructor
    · intro h
      rw [h, u2] at u1
      exact (Nat.eq_of_mul_eq_mul_right p2 u1).symm
    · intro h
      rw [h, ← u2] at u1
      exact Nat.eq_of_mul_eq_mul_right p1 u1
  congr 1
  simp only [signed]
  rw [compare_ite, Nat.compare_eq_ite_lt]
  simp only [Bool.false_eq_true, if_false]
  by_cases h1 : m < m'
  · rw [if_pos (by have := i1.mpr h1; omega), if_pos h1]
  · rw [if_neg (by have := mt i1.mp h1; omega), if_neg h1]
    by_cases h2 : m = m'
    · rw [if_pos (by have := i2.mpr h2; omega), if_neg (by omega)]
    · rw [if_neg (by have := mt i2.mp h2; omega), if_pos (by omega)]
theorem DV.noNaN {x : UInt64} {m k : Nat} (hx : DV x m k) : Jvm.Free.Fl.NoNaN64 x := by
  obtain ⟨c, q, ex, -⟩ := hx
  refine Jvm.Free.Fl.val64_no.mpr fun h => ?_
  rw [ex] at h; cases h
end Jvm.RoadKit
namespace Jvm.Pilot.@@N@@
open Jvm Jvm.ClassFile Sem Op Lib Jvm.Free Jvm.Stand Jvm.LawKit Jvm.RoadKit Bundle Jvm.Pilot.@@N@@.Jvm.D
theorem pd_0 : parseMethodDescriptor "(DZ)Lcom/example/sieveplan/sieveplan/plan/Pricing$Reduction;" = some ⟨[.double, .boolean], some (.object "com/example/sieveplan/sieveplan/plan/Pricing$Reduction")⟩ := by decide +kernel
def F_of (x0 : UInt64) (x1 : Int32) (r0 r1 r2 r3 : Addr) : Addr := (if (cmpValue (FP.dcmp x0 FP.dconst1) .l) < (0 : Int32) then (if x1 = (0 : Int32) then (if (0 : Int32) < (cmpValue (FP.dcmp x0 FP.dconst0) .l) then r2 else r3) else r1) else r0)
theorem d_of_0 : decode prog_113_method_4_code 0 = .ok (.dload_n 0, 1) := by decide +kernel
theorem d_of_1 : decode prog_113_method_4_code 1 = .ok (.dconst 1, 1) := by decide +kernel
theorem d_of_2 : decode prog_113_method_4_code 2 = .ok (.dcmp .l, 1) := by decide +kernel
theorem d_of_3 : decode prog_113_method_4_code 3 = .ok (.ifCond .lt 10, 3) := by decide +kernel
theorem d_of_6 : decode prog_113_method_4_code 6 = .ok (.getstatic 3, 3) := by decide +kernel
theorem d_of_9 : decode prog_113_method_4_code 9 = .ok (.astore_n 3, 1) := by decide +kernel
theorem d_of_10 : decode prog_113_method_4_code 10 = .ok (.goto 31, 3) := by decide +kernel
theorem d_of_13 : decode prog_113_method_4_code 13 = .ok (.iload_n 2, 1) := by decide +kernel
theorem d_of_14 : decode prog_113_method_4_code 14 = .ok (.ifCond .eq 10, 3) := by decide +kernel
theorem d_of_17 : decode prog_113_method_4_code 17 = .ok (.getstatic 7, 3) := by decide +kernel
theorem d_of_20 : decode prog_113_method_4_code 20 = .ok (.astore_n 3, 1) := by decide +kernel
theorem d_of_21 : decode prog_113_method_4_code 21 = .ok (.goto 20, 3) := by decide +kernel
theorem d_of_24 : decode prog_113_method_4_code 24 = .ok (.dload_n 0, 1) := by decide +kernel
theorem d_of_25 : decode prog_113_method_4_code 25 = .ok (.dconst 0, 1) := by decide +kernel
theorem d_of_26 : decode prog_113_method_4_code 26 = .ok (.dcmp .l, 1) := by decide +kernel
theorem d_of_27 : decode prog_113_method_4_code 27 = .ok (.ifCond .le 10, 3) := by decide +kernel
theorem d_of_30 : decode prog_113_method_4_code 30 = .ok (.getstatic 10, 3) := by decide +kernel
theorem d_of_33 : decode prog_113_method_4_code 33 = .ok (.astore_n 3, 1) := by decide +kernel
theorem d_of_34 : decode prog_113_method_4_code 34 = .ok (.goto 7, 3) := by decide +kernel
theorem d_of_37 : decode prog_113_method_4_code 37 = .ok (.getstatic 13, 3) := by decide +kernel
theorem d_of_40 : decode prog_113_method_4_code 40 = .ok (.astore_n 3, 1) := by decide +kernel
theorem d_of_41 : decode prog_113_method_4_code 41 = .ok (.aload_n 3, 1) := by decide +kernel
theorem d_of_42 : decode prog_113_method_4_code 42 = .ok (.areturn, 1) := by decide +kernel
theorem ef_of (m : MethodId) (x0 : UInt64) (x1 : Int32) : entryFrame m #[(.double x0), (.int x1)] 4 = mkF m 0 #[.val (.double x0), .second, .val (.int x1), .unset] [] := by first | (simp [entryFrame, mkF, argsToLocals, Value.category]; done) | rfl
theorem pn_of : plainFor (⟨"com/example/sieveplan/sieveplan/plan/Pricing$Reduction", "of", "(DZ)Lcom/example/sieveplan/sieveplan/plan/Pricing$Reduction;"⟩ : MethodName) = true := by first | exact plainFor_of_name (by first | (simp [plainName, overriddenIn]; done) | decide +kernel) | decide +kernel
set_option maxRecDepth 65536 in
set_option maxHeartbeats 40000000 in
theorem rm_of (l : Launch) (Z : State) (a0 : Array Value) (hw : ∀ d ∈ tables_1, d.before a0 Z = true) (x0 : UInt64) (x1 : Int32) (r0 r1 r2 r3 : Addr) (h0 : Heap)  (S0 : Sta Z h0 "com/example/sieveplan/sieveplan/plan/Pricing$Reduction" "VALUES" "Lcom/example/sieveplan/sieveplan/plan/Pricing$Reduction;" (.ref r0)) (S1 : Sta Z h0 "com/example/sieveplan/sieveplan/plan/Pricing$Reduction" "ROWS" "Lcom/example/sieveplan/sieveplan/plan/Pricing$Reduction;" (.ref r1)) (S2 : Sta Z h0 "com/example/sieveplan/sieveplan/plan/Pricing$Reduction" "SLIGHT" "Lcom/example/sieveplan/sieveplan/plan/Pricing$Reduction;" (.ref r2)) (S3 : Sta Z h0 "com/example/sieveplan/sieveplan/plan/Pricing$Reduction" "NONE" "Lcom/example/sieveplan/sieveplan/plan/Pricing$Reduction;" (.ref r3)) :
    OMet l Z (⟨"com/example/sieveplan/sieveplan/plan/Pricing$Reduction", "of", "(DZ)Lcom/example/sieveplan/sieveplan/plan/Pricing$Reduction;"⟩ : MethodName) prog_113_method_4_code 4 (some (.object "com/example/sieveplan/sieveplan/plan/Pricing$Reduction")) [] ({ frames := 0, cells := 0, slots := 0, locals := 0 } : Room) #[(.double x0), (.int x1)] h0 (OPure (some (.ref (F_of x0 x1 r0 r1 r2 r3))) h0) := by
  refine OMet.of pn_of ?_
  intro p e s m below meth c T0 X0 hx hby hml hown0 hnm hret hlk hZ e0
  have hown : s.vm.findClass "com/example/sieveplan/sieveplan/plan/Pricing$Reduction" = some m.cls := hown0
  refine OGo.go (fun t k => castTop (ef_of m x0 x1) k) ?_
  refine OGo.go (U' := T0.setTop (mkF m 1 #[.val (.double x0), .second, .val (.int x1), .unset] [(.double x0)])) (fun _ k => XS.dloadN X0.here hx rfl (hb hby d_of_0) rfl k) ?_
  refine OGo.go (U' := T0.setTop (mkF m 2 #[.val (.double x0), .second, .val (.int x1), .unset] [(.double FP.dconst1), (.double x0)])) (fun _ k => XS.dconst1 X0.here hx rfl (hb hby d_of_1) rfl k) ?_
  refine OGo.go (U' := T0.setTop (mkF m 3 #[.val (.double x0), .second, .val (.int x1), .unset] [(.int (cmpValue (FP.dcmp x0 FP.dconst1) .l))])) (fun _ k => XS.dcmpS X0.here hx rfl (hb hby d_of_2) rfl rfl k) ?_
  by_cases hc1 : (cmpValue (FP.dcmp x0 FP.dconst1) .l) < (0 : Int32)
  · skip
    refine OGo.go (U' := T0.setTop (mkF m 13 #[.val (.double x0), .second, .val (.int x1), .unset] [])) (fun _ k => XS.ifYes X0.here hx rfl (pc0 := 3) (pc' := 13) rfl (hb hby d_of_3) rfl ((if0 _ _).trans (tlt hc1).1) (by decide) (by decide) k) ?_
    refine OGo.go (U' := T0.setTop (mkF m 14 #[.val (.double x0), .second, .val (.int x1), .unset] [(.int x1)])) (fun _ k => XS.iloadN X0.here hx rfl (hb hby d_of_13) rfl k) ?_
    by_cases hc2 : x1 = (0 : Int32)
    · skip
      refine OGo.go (U' := T0.setTop (mkF m 24 #[.val (.double x0), .second, .val (.int x1), .unset] [])) (fun _ k => XS.ifYes X0.here hx rfl (pc0 := 14) (pc' := 24) rfl (hb hby d_of_14) rfl ((if0 _ _).trans (teq hc2).1) (by decide) (by decide) k) ?_
      refine OGo.go (U' := T0.setTop (mkF m 25 #[.val (.double x0), .second, .val (.int x1), .unset] [(.double x0)])) (fun _ k => XS.dloadN X0.here hx rfl (hb hby d_of_24) rfl k) ?_
      refine OGo.go (U' := T0.setTop (mkF m 26 #[.val (.double x0), .second, .val (.int x1), .unset] [(.double FP.dconst0), (.double x0)])) (fun _ k => XS.dconst0 X0.here hx rfl (hb hby d_of_25) rfl k) ?_
      refine OGo.go (U' := T0.setTop (mkF m 27 #[.val (.double x0), .second, .val (.int x1), .unset] [(.int (cmpValue (FP.dcmp x0 FP.dconst0) .l))])) (fun _ k => XS.dcmpS X0.here hx rfl (hb hby d_of_26) rfl rfl k) ?_
      by_cases hc3 : (0 : Int32) < (cmpValue (FP.dcmp x0 FP.dconst0) .l)
      · skip
        refine OGo.go (U' := T0.setTop (mkF m 30 #[.val (.double x0), .second, .val (.int x1), .unset] [])) (fun _ k => XS.ifNo X0.here hx rfl (hb hby d_of_27) rfl ((if0 _ _).trans (tlt hc3).2.2.2) k) ?_
        obtain ⟨T4, X4, e4, st4⟩ := getS2 X0 hx hZ hown (host := "") (Or.inl (hw _ (List.mem_of_getElem? (i := 8) rfl))) Via.refl e0 S2 (g := (mkF m 30 #[.val (.double x0), .second, .val (.int x1), .unset] [])) rfl (hb hby d_of_30)
        refine OGo.go (U' := T4.setTop (mkF m 33 #[.val (.double x0), .second, .val (.int x1), .unset] [(.ref r2)])) st4 ?_
        refine OGo.go (U' := T4.setTop (mkF m 34 #[.val (.double x0), .second, .val (.int x1), .val (.ref r2)] [])) (fun _ k => XS.astoreN X4.here hx rfl (hb hby d_of_33) rfl rfl (l' := #[.val (.double x0), .second, .val (.int x1), .val (.ref r2)]) rfl k) ?_
        refine OGo.go (U' := T4.setTop (mkF m 41 #[.val (.double x0), .second, .val (.int x1), .val (.ref r2)] [])) (fun _ k => XS.goto X4.here hx rfl (pc0 := 34) (pc' := 41) rfl (hb hby d_of_34) (by decide) (by decide) k) ?_
        refine OGo.go (U' := T4.setTop (mkF m 42 #[.val (.double x0), .second, .val (.int x1), .val (.ref r2)] [(.ref r2)])) (fun _ k => XS.aloadN X4.here hx rfl (hb hby d_of_41) rfl rfl k) ?_
        refine OGo.retA X4 hx hret hlk rfl rfl (hb hby d_of_42) ?_ (by decide) (by decide)
        refine ⟨?_, e4, rfl⟩
        rw [F_of]
        rw [if_pos hc1]
        rw [if_pos hc2]
        rw [if_pos hc3]
      · skip
        refine OGo.go (U' := T0.setTop (mkF m 37 #[.val (.double x0), .second, .val (.int x1), .unset] [])) (fun _ k => XS.ifYes X0.here hx rfl (pc0 := 27) (pc' := 37) rfl (hb hby d_of_27) rfl ((if0 _ _).trans (flt hc3).2.2.2) (by decide) (by decide) k) ?_
        obtain ⟨T5, X5, e5, st5⟩ := getS2 X0 hx hZ hown (host := "") (Or.inl (hw _ (List.mem_of_getElem? (i := 15) rfl))) Via.refl e0 S3 (g := (mkF m 37 #[.val (.double x0), .second, .val (.int x1), .unset] [])) rfl (hb hby d_of_37)
        refine OGo.go (U' := T5.setTop (mkF m 40 #[.val (.double x0), .second, .val (.int x1), .unset] [(.ref r3)])) st5 ?_
        refine OGo.go (U' := T5.setTop (mkF m 41 #[.val (.double x0), .second, .val (.int x1), .val (.ref r3)] [])) (fun _ k => XS.astoreN X5.here hx rfl (hb hby d_of_40) rfl rfl (l' := #[.val (.double x0), .second, .val (.int x1), .val (.ref r3)]) rfl k) ?_
        refine OGo.go (U' := T5.setTop (mkF m 42 #[.val (.double x0), .second, .val (.int x1), .val (.ref r3)] [(.ref r3)])) (fun _ k => XS.aloadN X5.here hx rfl (hb hby d_of_41) rfl rfl k) ?_
        refine OGo.retA X5 hx hret hlk rfl rfl (hb hby d_of_42) ?_ (by decide) (by decide)
        refine ⟨?_, e5, rfl⟩
        rw [F_of]
        rw [if_pos hc1]
        rw [if_pos hc2]
        rw [if_neg hc3]
    · skip
      refine OGo.go (U' := T0.setTop (mkF m 17 #[.val (.double x0), .second, .val (.int x1), .unset] [])) (fun _ k => XS.ifNo X0.here hx rfl (hb hby d_of_14) rfl ((if0 _ _).trans (feq hc2).1) k) ?_
      obtain ⟨T6, X6, e6, st6⟩ := getS2 X0 hx hZ hown (host := "") (Or.inl (hw _ (List.mem_of_getElem? (i := 12) rfl))) Via.refl e0 S1 (g := (mkF m 17 #[.val (.double x0), .second, .val (.int x1), .unset] [])) rfl (hb hby d_of_17)
      refine OGo.go (U' := T6.setTop (mkF m 20 #[.val (.double x0), .second, .val (.int x1), .unset] [(.ref r1)])) st6 ?_
      refine OGo.go (U' := T6.setTop (mkF m 21 #[.val (.double x0), .second, .val (.int x1), .val (.ref r1)] [])) (fun _ k => XS.astoreN X6.here hx rfl (hb hby d_of_20) rfl rfl (l' := #[.val (.double x0), .second, .val (.int x1), .val (.ref r1)]) rfl k) ?_
      refine OGo.go (U' := T6.setTop (mkF m 41 #[.val (.double x0), .second, .val (.int x1), .val (.ref r1)] [])) (fun _ k => XS.goto X6.here hx rfl (pc0 := 21) (pc' := 41) rfl (hb hby d_of_21) (by decide) (by decide) k) ?_
      refine OGo.go (U' := T6.setTop (mkF m 42 #[.val (.double x0), .second, .val (.int x1), .val (.ref r1)] [(.ref r1)])) (fun _ k => XS.aloadN X6.here hx rfl (hb hby d_of_41) rfl rfl k) ?_
      refine OGo.retA X6 hx hret hlk rfl rfl (hb hby d_of_42) ?_ (by decide) (by decide)
      refine ⟨?_, e6, rfl⟩
      rw [F_of]
      rw [if_pos hc1]
      rw [if_neg hc2]
  · skip
    refine OGo.go (U' := T0.setTop (mkF m 6 #[.val (.double x0), .second, .val (.int x1), .unset] [])) (fun _ k => XS.ifNo X0.here hx rfl (hb hby d_of_3) rfl ((if0 _ _).trans (flt hc1).1) k) ?_
    obtain ⟨T7, X7, e7, st7⟩ := getS2 X0 hx hZ hown (host := "") (Or.inl (hw _ (List.mem_of_getElem? (i := 19) rfl))) Via.refl e0 S0 (g := (mkF m 6 #[.val (.double x0), .second, .val (.int x1), .unset] [])) rfl (hb hby d_of_6)
    refine OGo.go (U' := T7.setTop (mkF m 9 #[.val (.double x0), .second, .val (.int x1), .unset] [(.ref r0)])) st7 ?_
    refine OGo.go (U' := T7.setTop (mkF m 10 #[.val (.double x0), .second, .val (.int x1), .val (.ref r0)] [])) (fun _ k => XS.astoreN X7.here hx rfl (hb hby d_of_9) rfl rfl (l' := #[.val (.double x0), .second, .val (.int x1), .val (.ref r0)]) rfl k) ?_
    refine OGo.go (U' := T7.setTop (mkF m 41 #[.val (.double x0), .second, .val (.int x1), .val (.ref r0)] [])) (fun _ k => XS.goto X7.here hx rfl (pc0 := 10) (pc' := 41) rfl (hb hby d_of_10) (by decide) (by decide) k) ?_
    refine OGo.go (U' := T7.setTop (mkF m 42 #[.val (.double x0), .second, .val (.int x1), .val (.ref r0)] [(.ref r0)])) (fun _ k => XS.aloadN X7.here hx rfl (hb hby d_of_41) rfl rfl k) ?_
    refine OGo.retA X7 hx hret hlk rfl rfl (hb hby d_of_42) ?_ (by decide) (by decide)
    refine ⟨?_, e7, rfl⟩
    rw [F_of]
    rw [if_neg hc1]
def OMode (d : UInt64) (ge po : Int32) : Prop := (cmpValue (FP.dcmp d FP.dconst1) .l < 0 ↔ ge = 0) ∧ (0 < cmpValue (FP.dcmp d FP.dconst0) .l ↔ ¬ po = 0)
theorem own_one : DV FP.dconst1 1 0 := ⟨2 ^ 52, -52, FP.Core.val64_dconst1, by rw [Nat.one_mul, ← Nat.pow_add]; rfl⟩
theorem own_zero (k : Nat) : DV FP.dconst0 0 k := ⟨0, FP.Core.b64.qmin, FP.Core.val64_dconst0, by rw [Nat.zero_mul, Nat.zero_mul]⟩
theorem own_v16 : FP.Core.val64 4679240012837945344 = .fin false (2 ^ 52) (-36) := by decide +kernel
theorem own_v4 : FP.Core.val64 4625196817309499392 = .fin false (2 ^ 52) (-48) := by decide +kernel
theorem own_v20 : FP.Core.val64 4697254411347427328 = .fin false (2 ^ 52) (-32) := by decide +kernel
theorem own_c16 : DV 4679240012837945344 (2 ^ 16) 0 := ⟨2 ^ 52, -36, own_v16, by rw [← Nat.pow_add, ← Nat.pow_add]; rfl⟩
theorem own_c4 : DV 4625196817309499392 (2 ^ 4) 0 := ⟨2 ^ 52, -48, own_v4, by rw [← Nat.pow_add, ← Nat.pow_add]; rfl⟩
theorem own_c20 : DV 4697254411347427328 (2 ^ 20) 0 := ⟨2 ^ 52, -32, own_v20, by rw [← Nat.pow_add, ← Nat.pow_add]; rfl⟩
theorem own_sm (x : Int32) : x.toInt.toNat < 2 ^ 53 := by have := x.toInt_lt; omega
theorem own_nn_4679240012837945344 {n : Int32} (h : 0 ≤ n.toInt) : Jvm.Free.Fl.NoNaN64 (FP.ddiv (FP.i2d n) 4679240012837945344) := (DV.div (DV.of_i2d h) own_c16 (own_sm n) (by decide)).noNaN
theorem own_nn_4625196817309499392 {n : Int32} (h : 0 ≤ n.toInt) : Jvm.Free.Fl.NoNaN64 (FP.ddiv (FP.i2d n) 4625196817309499392) := (DV.div (DV.of_i2d h) own_c4 (own_sm n) (by decide)).noNaN
theorem own_nn_4697254411347427328 {n : Int32} (h : 0 ≤ n.toInt) : Jvm.Free.Fl.NoNaN64 (FP.ddiv (FP.i2d n) 4697254411347427328) := (DV.div (DV.of_i2d h) own_c20 (own_sm n) (by decide)).noNaN
theorem own_dsub {x : Int32} : DV (FP.dsub FP.dconst1 (FP.ddiv (FP.i2d (x &&& 255)) 4697254411347427328)) (2 ^ 20 - (x &&& 255).toInt.toNat) 20 := by
  have hb := c_and x 255 (by decide)
  rw [show (255 : Int32).toInt = 255 by decide] at hb
  have h1 := DV.div (DV.of_i2d hb.1) own_c20 (own_sm _) (by decide)
  have h2 := DV.up own_one (j := 20) (by decide)
  rw [Nat.one_mul] at h2
  exact DV.sub h2 h1 (by omega) (by decide) (by decide)
theorem own_nns (x : Int32) : Jvm.Free.Fl.NoNaN64 (FP.dsub FP.dconst1 (FP.ddiv (FP.i2d (x &&& 255)) 4697254411347427328)) := own_dsub.noNaN
theorem own_cv (m n : Nat) : (cmpValue (some (compare m n)) .l < 0 ↔ m < n) ∧ (0 < cmpValue (some (compare m n)) .l ↔ n < m) := by
  rw [Nat.compare_eq_ite_lt]
  by_cases h1 : m < n
  · rw [if_pos h1]; exact ⟨iff_of_true (by decide) h1, iff_of_false (by decide) (by omega)⟩
  · rw [if_neg h1]
    by_cases h2 : n < m
    · rw [if_pos h2]; exact ⟨iff_of_false (by decide) h1, iff_of_true (by decide) h2⟩
    · rw [if_neg h2]; exact ⟨iff_of_false (by decide) h1, iff_of_false (by decide) h2⟩
theorem own_m {d : UInt64} {m k : Nat} {ge po : Int32} (hd : DV d m k) (hk : 0 + k ≤ 1000) (h1 : m < 2 ^ k ↔ ge = 0) (h2 : 0 < m ↔ ¬ po = 0) : OMode d ge po := by
  have u := DV.up own_one (j := k) hk
  rw [Nat.one_mul, Nat.zero_add] at u
  have c1 : FP.dcmp d FP.dconst1 = some (compare m (2 ^ k)) := DV.cmp hd u
  have c0 : FP.dcmp d FP.dconst0 = some (compare m 0) := DV.cmp hd (own_zero k)
  rw [OMode, c1, c0]
  exact ⟨(own_cv m (2 ^ k)).1.trans h1, (own_cv m 0).2.trans h2⟩
theorem own_b01 {P : Prop} [Decidable P] {z : Int32} (h : z = if P then 1 else 0) : P ↔ ¬ z = 0 := by
  rw [h]; by_cases q : P
  · rw [if_pos q]; exact iff_of_true q (by decide)
  · rw [if_neg q]; exact iff_of_false q (by decide)
theorem own_b10 {P : Prop} [Decidable P] {z : Int32} (h : z = if P then 0 else 1) : P ↔ z = 0 := by
  rw [h]; by_cases q : P
  · rw [if_pos q]; exact iff_of_true q rfl
  · rw [if_neg q]; exact iff_of_false q (by decide)
theorem own_pos {n : Int32} (h : 0 ≤ n.toInt) : 0 < n.toInt.toNat ↔ (0 : Int32) < n := by
  rw [Int32.lt_iff_toInt_lt, Int32.toInt_zero]; omega
theorem own_mode_0 {x0 : Int32} {x1 : Int32} {z2 : Int32} {z6 : Int32} (hz2 : z2 = (if ((x0 >>> ((2 : Int32) &&& 31)) &&& (1 : Int32)) = (0 : Int32) then (0 : Int32) else (1 : Int32))) (hc4 : (x0 &&& (3 : Int32)) = (0 : Int32)) (hz6 : z6 = (if (0 : Int32) < (x1 &&& (65535 : Int32)) then (1 : Int32) else (0 : Int32))) : OMode (FP.ddiv (FP.i2d (x1 &&& (65535 : Int32))) (4679240012837945344 : UInt64)) (0 : Int32) z6 := by
  have hb := c_and x1 65535 (by decide)
  rw [show (65535 : Int32).toInt = 65535 by decide] at hb
  refine own_m (DV.div (DV.of_i2d hb.1) own_c16 (own_sm _) (by decide)) (by decide) (iff_of_true ?_ rfl) ((own_pos hb.1).trans (own_b01 hz6))
  show _ < 65536
  omega
theorem own_mode_1 {x0 : Int32} {x1 : Int32} {z2 : Int32} {z10 : Int32} {z13 : Int32} (hz2 : z2 = (if ((x0 >>> ((2 : Int32) &&& 31)) &&& (1 : Int32)) = (0 : Int32) then (0 : Int32) else (1 : Int32))) (hc4 : ¬ ((x0 &&& (3 : Int32)) = (0 : Int32))) (hc8 : (x0 &&& (3 : Int32)) = (1 : Int32)) (hz10 : z10 = (if (x1 &&& (2147483647 : Int32)) < (1 : Int32) then (0 : Int32) else (1 : Int32))) (hz13 : z13 = (if (0 : Int32) < (x1 &&& (2147483647 : Int32)) then (1 : Int32) else (0 : Int32))) : OMode (FP.i2d (x1 &&& (2147483647 : Int32))) z10 z13 := by
  have hb := c_and x1 2147483647 (by decide)
  refine own_m (DV.of_i2d hb.1) (by decide) (Iff.trans ?_ (own_b10 hz10)) ((own_pos hb.1).trans (own_b01 hz13))
  rw [Int32.lt_iff_toInt_lt, show (1 : Int32).toInt = 1 by decide]
  omega
theorem own_mode_2 {x0 : Int32} {x1 : Int32} {z2 : Int32} {z17 : Int32} {z20 : Int32} (hz2 : z2 = (if ((x0 >>> ((2 : Int32) &&& 31)) &&& (1 : Int32)) = (0 : Int32) then (0 : Int32) else (1 : Int32))) (hc4 : ¬ ((x0 &&& (3 : Int32)) = (0 : Int32))) (hc8 : ¬ ((x0 &&& (3 : Int32)) = (1 : Int32))) (hc15 : (x0 &&& (3 : Int32)) = (2 : Int32)) (hz17 : z17 = (if (x1 &&& (63 : Int32)) < (16 : Int32) then (0 : Int32) else (1 : Int32))) (hz20 : z20 = (if (0 : Int32) < (x1 &&& (63 : Int32)) then (1 : Int32) else (0 : Int32))) : OMode (FP.ddiv (FP.i2d (x1 &&& (63 : Int32))) (4625196817309499392 : UInt64)) z17 z20 := by
  have hb := c_and x1 63 (by decide)
  refine own_m (DV.div (DV.of_i2d hb.1) own_c4 (own_sm _) (by decide)) (by decide) (Iff.trans ?_ (own_b10 hz17)) ((own_pos hb.1).trans (own_b01 hz20))
  rw [Int32.lt_iff_toInt_lt, show (16 : Int32).toInt = 16 by decide]
  show _ < 16 ↔ _
  omega
theorem own_mode_3 {x0 : Int32} {x1 : Int32} {z2 : Int32} {z23 : Int32} (hz2 : z2 = (if ((x0 >>> ((2 : Int32) &&& 31)) &&& (1 : Int32)) = (0 : Int32) then (0 : Int32) else (1 : Int32))) (hc4 : ¬ ((x0 &&& (3 : Int32)) = (0 : Int32))) (hc8 : ¬ ((x0 &&& (3 : Int32)) = (1 : Int32))) (hc15 : ¬ ((x0 &&& (3 : Int32)) = (2 : Int32))) (hz23 : z23 = (if (x1 &&& (255 : Int32)) = (0 : Int32) then (1 : Int32) else (0 : Int32))) : OMode (FP.dsub FP.dconst1 (FP.ddiv (FP.i2d (x1 &&& (255 : Int32))) (4697254411347427328 : UInt64))) z23 (1 : Int32) := by
  have hb := c_and x1 255 (by decide)
  rw [show (255 : Int32).toInt = 255 by decide] at hb
  have hz : (x1 &&& (255 : Int32)) = 0 ↔ (x1 &&& (255 : Int32)).toInt.toNat = 0 := by
    constructor
    · intro q; rw [q]; decide
    · intro q; exact Int32.toInt_inj.mp (by rw [Int32.toInt_zero]; omega)
  refine own_m own_dsub (by decide) ?_ (iff_of_true (by omega) (by decide))
  have q := own_b01 hz23
  constructor
  · intro h
    refine Decidable.byContradiction fun z => ?_
    have r := hz.mp (q.mpr z)
    rw [r] at h
    exact absurd h (by decide)
  · intro h
    have r : ¬ (x1 &&& (255 : Int32)).toInt.toNat = 0 := fun z => q.mp (hz.mpr z) h
    show _ < 1048576
    omega
theorem own_ret_0 {x0 : Int32} {r0 : Addr} {r1 : Addr} {r2 : Addr} {r3 : Addr} {z2 : Int32} {d : UInt64} {ge : Int32} {po : Int32} {z31 : Int32} (hz2 : z2 = (if ((x0 >>> ((2 : Int32) &&& 31)) &&& (1 : Int32)) = (0 : Int32) then (0 : Int32) else (1 : Int32))) (hq : OMode d ge po) (hc25 : ge = (0 : Int32)) (hc26 : z2 = (0 : Int32)) (hc27 : po = (0 : Int32)) (hz31 : z31 = (if (F_of d z2 r0 r1 r2 r3) = r3 then (1 : Int32) else (0 : Int32))) : some (Value.int (nar .boolean z31)) = some (Value.int 1) := by
  first
    | rw [F_of, if_pos (hq.1.mpr hc25), if_pos hc26, if_neg (fun q => hq.2.mp q hc27), if_pos rfl] at hz31; subst hz31; rfl
    | rw [F_of, if_pos (hq.1.mpr hc25), if_pos hc26, if_pos (hq.2.mpr hc27), if_pos rfl] at hz36; subst hz36; rfl
    | rw [F_of, if_pos (hq.1.mpr hc25), if_neg hc26, if_pos rfl] at hz41; subst hz41; rfl
    | rw [F_of, if_neg (fun q => hc25 (hq.1.mp q)), if_pos rfl] at hz46; subst hz46; rfl
theorem own_ret_1 {x0 : Int32} {r0 : Addr} {r1 : Addr} {r2 : Addr} {r3 : Addr} {z2 : Int32} {d : UInt64} {ge : Int32} {po : Int32} {z36 : Int32} (hz2 : z2 = (if ((x0 >>> ((2 : Int32) &&& 31)) &&& (1 : Int32)) = (0 : Int32) then (0 : Int32) else (1 : Int32))) (hq : OMode d ge po) (hc25 : ge = (0 : Int32)) (hc26 : z2 = (0 : Int32)) (hc27 : ¬ (po = (0 : Int32))) (hz36 : z36 = (if (F_of d z2 r0 r1 r2 r3) = r2 then (1 : Int32) else (0 : Int32))) : some (Value.int (nar .boolean z36)) = some (Value.int 1) := by
  first
    | rw [F_of, if_pos (hq.1.mpr hc25), if_pos hc26, if_neg (fun q => hq.2.mp q hc27), if_pos rfl] at hz31; subst hz31; rfl
    | rw [F_of, if_pos (hq.1.mpr hc25), if_pos hc26, if_pos (hq.2.mpr hc27), if_pos rfl] at hz36; subst hz36; rfl
    | rw [F_of, if_pos (hq.1.mpr hc25), if_neg hc26, if_pos rfl] at hz41; subst hz41; rfl
    | rw [F_of, if_neg (fun q => hc25 (hq.1.mp q)), if_pos rfl] at hz46; subst hz46; rfl
theorem own_ret_2 {x0 : Int32} {r0 : Addr} {r1 : Addr} {r2 : Addr} {r3 : Addr} {z2 : Int32} {d : UInt64} {ge : Int32} {po : Int32} {z41 : Int32} (hz2 : z2 = (if ((x0 >>> ((2 : Int32) &&& 31)) &&& (1 : Int32)) = (0 : Int32) then (0 : Int32) else (1 : Int32))) (hq : OMode d ge po) (hc25 : ge = (0 : Int32)) (hc26 : ¬ (z2 = (0 : Int32))) (hz41 : z41 = (if (F_of d z2 r0 r1 r2 r3) = r1 then (1 : Int32) else (0 : Int32))) : some (Value.int (nar .boolean z41)) = some (Value.int 1) := by
  first
    | rw [F_of, if_pos (hq.1.mpr hc25), if_pos hc26, if_neg (fun q => hq.2.mp q hc27), if_pos rfl] at hz31; subst hz31; rfl
    | rw [F_of, if_pos (hq.1.mpr hc25), if_pos hc26, if_pos (hq.2.mpr hc27), if_pos rfl] at hz36; subst hz36; rfl
    | rw [F_of, if_pos (hq.1.mpr hc25), if_neg hc26, if_pos rfl] at hz41; subst hz41; rfl
    | rw [F_of, if_neg (fun q => hc25 (hq.1.mp q)), if_pos rfl] at hz46; subst hz46; rfl
theorem own_ret_3 {x0 : Int32} {r0 : Addr} {r1 : Addr} {r2 : Addr} {r3 : Addr} {z2 : Int32} {d : UInt64} {ge : Int32} {po : Int32} {z46 : Int32} (hz2 : z2 = (if ((x0 >>> ((2 : Int32) &&& 31)) &&& (1 : Int32)) = (0 : Int32) then (0 : Int32) else (1 : Int32))) (hq : OMode d ge po) (hc25 : ¬ (ge = (0 : Int32))) (hz46 : z46 = (if (F_of d z2 r0 r1 r2 r3) = r0 then (1 : Int32) else (0 : Int32))) : some (Value.int (nar .boolean z46)) = some (Value.int 1) := by
  first
    | rw [F_of, if_pos (hq.1.mpr hc25), if_pos hc26, if_neg (fun q => hq.2.mp q hc27), if_pos rfl] at hz31; subst hz31; rfl
    | rw [F_of, if_pos (hq.1.mpr hc25), if_pos hc26, if_pos (hq.2.mpr hc27), if_pos rfl] at hz36; subst hz36; rfl
    | rw [F_of, if_pos (hq.1.mpr hc25), if_neg hc26, if_pos rfl] at hz41; subst hz41; rfl
    | rw [F_of, if_neg (fun q => hc25 (hq.1.mp q)), if_pos rfl] at hz46; subst hz46; rfl
theorem ef_law (m : MethodId) (x0 : Int32) (x1 : Int32) : entryFrame m #[(.int x0), (.int x1)] maxLocals = mkF m 0 #[.val (.int x0), .val (.int x1), .unset, .unset, .unset, .unset, .unset, .unset, .unset, .unset] [] := by first | (simp [entryFrame, mkF, argsToLocals, Value.category, maxLocals]; done) | rfl
theorem pn_law : plainFor x = true := by first | exact plainFor_of_name (by first | (simp [plainName, overriddenIn]; done) | decide +kernel) | decide +kernel
set_option maxRecDepth 65536 in
set_option maxHeartbeats 40000000 in
theorem rm_law (l : Launch) (Z : State) (a0 : Array Value) (hw : ∀ d ∈ tables_1, d.before a0 Z = true) (x0 : Int32) (x1 : Int32) (r0 r1 r2 r3 : Addr) (n0 : Nat) (h0 : Heap)  (S0 : Sta Z h0 "com/example/sieveplan/sieveplan/plan/Pricing$Reduction" "VALUES" "Lcom/example/sieveplan/sieveplan/plan/Pricing$Reduction;" (.ref r0)) (S1 : Sta Z h0 "com/example/sieveplan/sieveplan/plan/Pricing$Reduction" "ROWS" "Lcom/example/sieveplan/sieveplan/plan/Pricing$Reduction;" (.ref r1)) (S2 : Sta Z h0 "com/example/sieveplan/sieveplan/plan/Pricing$Reduction" "SLIGHT" "Lcom/example/sieveplan/sieveplan/plan/Pricing$Reduction;" (.ref r2)) (S3 : Sta Z h0 "com/example/sieveplan/sieveplan/plan/Pricing$Reduction" "NONE" "Lcom/example/sieveplan/sieveplan/plan/Pricing$Reduction;" (.ref r3)) :
    OMet l Z x code maxLocals ret tables_1 room_1 #[(.int x0), (.int x1)] h0 (fun v h L => v = some (.int 1) ∧ Fr n0 L) := by
  refine OMet.of pn_law ?_
  intro p e s m below meth c T0 X0 hx hby hml hown0 hnm hret hlk hZ e0
  have hown : s.vm.findClass "com/example/sieveplan/sieveplan/plan/ReductionOfPinLaw" = some m.cls := hown0
  refine OGo.go (fun t k => castTop (ef_law m x0 x1) k) ?_
  refine OGo.go (U' := T0.setTop (mkF m 1 #[.val (.int x0), .val (.int x1), .unset, .unset, .unset, .unset, .unset, .unset, .unset, .unset] [(.int x0)])) (fun _ k => XS.iloadN X0.here hx rfl (hb hby at_0) rfl k) ?_
  refine OGo.go (U' := T0.setTop (mkF m 2 #[.val (.int x0), .val (.int x1), .unset, .unset, .unset, .unset, .unset, .unset, .unset, .unset] [(.int (3 : Int32)), (.int x0)])) (fun _ k => XS.iconst X0.here hx rfl (hb hby at_1) k) ?_
  refine OGo.go (U' := T0.setTop (mkF m 3 #[.val (.int x0), .val (.int x1), .unset, .unset, .unset, .unset, .unset, .unset, .unset, .unset] [(.int (x0 &&& (3 : Int32)))])) (fun _ k => XS.iand X0.here hx rfl (hb hby at_2) rfl k) ?_
  refine OGo.go (U' := T0.setTop (mkF m 4 #[.val (.int x0), .val (.int x1), .val (.int (x0 &&& (3 : Int32))), .unset, .unset, .unset, .unset, .unset, .unset, .unset] [])) (fun _ k => XS.istoreN X0.here hx rfl (hb hby at_3) rfl (l' := #[.val (.int x0), .val (.int x1), .val (.int (x0 &&& (3 : Int32))), .unset, .unset, .unset, .unset, .unset, .unset, .unset]) rfl k) ?_
  refine OGo.go (U' := T0.setTop (mkF m 5 #[.val (.int x0), .val (.int x1), .val (.int (x0 &&& (3 : Int32))), .unset, .unset, .unset, .unset, .unset, .unset, .unset] [(.int x0)])) (fun _ k => XS.iloadN X0.here hx rfl (hb hby at_4) rfl k) ?_
  refine OGo.go (U' := T0.setTop (mkF m 6 #[.val (.int x0), .val (.int x1), .val (.int (x0 &&& (3 : Int32))), .unset, .unset, .unset, .unset, .unset, .unset, .unset] [(.int (2 : Int32)), (.int x0)])) (fun _ k => XS.iconst X0.here hx rfl (hb hby at_5) k) ?_
  refine OGo.go (U' := T0.setTop (mkF m 7 #[.val (.int x0), .val (.int x1), .val (.int (x0 &&& (3 : Int32))), .unset, .unset, .unset, .unset, .unset, .unset, .unset] [(.int (x0 >>> ((2 : Int32) &&& 31)))])) (fun _ k => XS.ishr X0.here hx rfl (hb hby at_6) rfl k) ?_
  refine OGo.go (U' := T0.setTop (mkF m 8 #[.val (.int x0), .val (.int x1), .val (.int (x0 &&& (3 : Int32))), .unset, .unset, .unset, .unset, .unset, .unset, .unset] [(.int (1 : Int32)), (.int (x0 >>> ((2 : Int32) &&& 31)))])) (fun _ k => XS.iconst X0.here hx rfl (hb hby at_7) k) ?_
  refine OGo.go (U' := T0.setTop (mkF m 9 #[.val (.int x0), .val (.int x1), .val (.int (x0 &&& (3 : Int32))), .unset, .unset, .unset, .unset, .unset, .unset, .unset] [(.int ((x0 >>> ((2 : Int32) &&& 31)) &&& (1 : Int32)))])) (fun _ k => XS.iand X0.here hx rfl (hb hby at_8) rfl k) ?_
  refine OGo.ite1 (P := ((x0 >>> ((2 : Int32) &&& 31)) &&& (1 : Int32)) = (0 : Int32)) (fun (z2 : Int32) => T0.setTop (mkF m 17 #[.val (.int x0), .val (.int x1), .val (.int (x0 &&& (3 : Int32))), .unset, .unset, .unset, .unset, .unset, .unset, .unset] [(.int z2)])) (x := (0 : Int32)) (y := (1 : Int32)) (fun hc1 k3 => ?_) (fun hc1 k3 => ?_) ?_
  · skip
    refine OGo.go (U' := T0.setTop (mkF m 16 #[.val (.int x0), .val (.int x1), .val (.int (x0 &&& (3 : Int32))), .unset, .unset, .unset, .unset, .unset, .unset, .unset] [])) (fun _ k => XS.ifYes X0.here hx rfl (pc0 := 9) (pc' := 16) rfl (hb hby at_9) rfl ((if0 _ _).trans (teq hc1).1) (by decide) (by decide) k) ?_
    refine OGo.go (U' := T0.setTop (mkF m 17 #[.val (.int x0), .val (.int x1), .val (.int (x0 &&& (3 : Int32))), .unset, .unset, .unset, .unset, .unset, .unset, .unset] [(.int (0 : Int32))])) (fun _ k => XS.iconst X0.here hx rfl (hb hby at_16) k) ?_
    exact k3
  · skip
    refine OGo.go (U' := T0.setTop (mkF m 12 #[.val (.int x0), .val (.int x1), .val (.int (x0 &&& (3 : Int32))), .unset, .unset, .unset, .unset, .unset, .unset, .unset] [])) (fun _ k => XS.ifNo X0.here hx rfl (hb hby at_9) rfl ((if0 _ _).trans (feq hc1).1) k) ?_
    refine OGo.go (U' := T0.setTop (mkF m 13 #[.val (.int x0), .val (.int x1), .val (.int (x0 &&& (3 : Int32))), .unset, .unset, .unset, .unset, .unset, .unset, .unset] [(.int (1 : Int32))])) (fun _ k => XS.iconst X0.here hx rfl (hb hby at_12) k) ?_
    refine OGo.go (U' := T0.setTop (mkF m 17 #[.val (.int x0), .val (.int x1), .val (.int (x0 &&& (3 : Int32))), .unset, .unset, .unset, .unset, .unset, .unset, .unset] [(.int (1 : Int32))])) (fun _ k => XS.goto X0.here hx rfl (pc0 := 13) (pc' := 17) rfl (hb hby at_13) (by decide) (by decide) k) ?_
    exact k3
  intro z2 hz2
  refine OGo.go (U' := T0.setTop (mkF m 18 #[.val (.int x0), .val (.int x1), .val (.int (x0 &&& (3 : Int32))), .val (.int z2), .unset, .unset, .unset, .unset, .unset, .unset] [])) (fun _ k => XS.istoreN X0.here hx rfl (hb hby at_17) rfl (l' := #[.val (.int x0), .val (.int x1), .val (.int (x0 &&& (3 : Int32))), .val (.int z2), .unset, .unset, .unset, .unset, .unset, .unset]) rfl k) ?_
  refine OGo.cut2 (α := UInt64 × Int32 × Int32 × Int32) (H := fun q => OMode q.1 q.2.1 q.2.2.1) (fun q => T0.setTop (mkF m 181 #[.val (.int x0), .val (.int x1), .val (.int (x0 &&& (3 : Int32))), .val (.int z2), .val (.double q.1), .second, .val (.int q.2.1), .val (.int q.2.2.1), .val (.int q.2.2.2), .unset] [])) (fun tail => ?_) (fun q hq => ?_)
  · skip
    refine OGo.go (U' := T0.setTop (mkF m 19 #[.val (.int x0), .val (.int x1), .val (.int (x0 &&& (3 : Int32))), .val (.int z2), .unset, .unset, .unset, .unset, .unset, .unset] [(.int (x0 &&& (3 : Int32)))])) (fun _ k => XS.iloadN X0.here hx rfl (hb hby at_18) rfl k) ?_
    by_cases hc4 : (x0 &&& (3 : Int32)) = (0 : Int32)
    · skip
      refine OGo.go (U' := T0.setTop (mkF m 22 #[.val (.int x0), .val (.int x1), .val (.int (x0 &&& (3 : Int32))), .val (.int z2), .unset, .unset, .unset, .unset, .unset, .unset] [])) (fun _ k => XS.ifNo X0.here hx rfl (hb hby at_19) rfl ((if0 _ _).trans (teq hc4).2) k) ?_
      refine OGo.go (U' := T0.setTop (mkF m 23 #[.val (.int x0), .val (.int x1), .val (.int (x0 &&& (3 : Int32))), .val (.int z2), .unset, .unset, .unset, .unset, .unset, .unset] [(.int x1)])) (fun _ k => XS.iloadN X0.here hx rfl (hb hby at_22) rfl k) ?_
      refine OGo.go (U' := T0.setTop (mkF m 25 #[.val (.int x0), .val (.int x1), .val (.int (x0 &&& (3 : Int32))), .val (.int z2), .unset, .unset, .unset, .unset, .unset, .unset] [(.int (65535 : Int32)), (.int x1)])) (fun _ k => X0.ldcInt hx hown (mvT hZ (hw _ (List.mem_of_getElem? (i := 0) rfl))) (g := (mkF m 23 #[.val (.int x0), .val (.int x1), .val (.int (x0 &&& (3 : Int32))), .val (.int z2), .unset, .unset, .unset, .unset, .unset, .unset] [(.int x1)])) rfl (hb hby at_23) _ k) ?_
      refine OGo.go (U' := T0.setTop (mkF m 26 #[.val (.int x0), .val (.int x1), .val (.int (x0 &&& (3 : Int32))), .val (.int z2), .unset, .unset, .unset, .unset, .unset, .unset] [(.int (x1 &&& (65535 : Int32)))])) (fun _ k => XS.iand X0.here hx rfl (hb hby at_25) rfl k) ?_
      refine OGo.go (U' := T0.setTop (mkF m 28 #[.val (.int x0), .val (.int x1), .val (.int (x0 &&& (3 : Int32))), .val (.int z2), .unset, .unset, .unset, .unset, .val (.int (x1 &&& (65535 : Int32))), .unset] [])) (fun _ k => XS.istore X0.here hx rfl (hb hby at_26) rfl (l' := #[.val (.int x0), .val (.int x1), .val (.int (x0 &&& (3 : Int32))), .val (.int z2), .unset, .unset, .unset, .unset, .val (.int (x1 &&& (65535 : Int32))), .unset]) rfl k) ?_
      refine OGo.go (U' := T0.setTop (mkF m 30 #[.val (.int x0), .val (.int x1), .val (.int (x0 &&& (3 : Int32))), .val (.int z2), .unset, .unset, .unset, .unset, .val (.int (x1 &&& (65535 : Int32))), .unset] [(.int (x1 &&& (65535 : Int32)))])) (fun _ k => XS.iload X0.here hx rfl (hb hby at_28) rfl k) ?_
      refine OGo.go (U' := T0.setTop (mkF m 31 #[.val (.int x0), .val (.int x1), .val (.int (x0 &&& (3 : Int32))), .val (.int z2), .unset, .unset, .unset, .unset, .val (.int (x1 &&& (65535 : Int32))), .unset] [(.double (FP.i2d (x1 &&& (65535 : Int32))))])) (fun _ k => XS.i2dS X0.here hx rfl (hb hby at_30) rfl rfl k) ?_
      refine OGo.go (U' := T0.setTop (mkF m 34 #[.val (.int x0), .val (.int x1), .val (.int (x0 &&& (3 : Int32))), .val (.int z2), .unset, .unset, .unset, .unset, .val (.int (x1 &&& (65535 : Int32))), .unset] [(.double (4679240012837945344 : UInt64)), (.double (FP.i2d (x1 &&& (65535 : Int32))))])) (fun _ k => X0.ldc2DoubleC hx hown (mvT hZ (hw _ (List.mem_of_getElem? (i := 1) rfl))) (g := (mkF m 31 #[.val (.int x0), .val (.int x1), .val (.int (x0 &&& (3 : Int32))), .val (.int z2), .unset, .unset, .unset, .unset, .val (.int (x1 &&& (65535 : Int32))), .unset] [(.double (FP.i2d (x1 &&& (65535 : Int32))))])) rfl (hb hby at_31) _ k) ?_
      refine OGo.go (U' := T0.setTop (mkF m 35 #[.val (.int x0), .val (.int x1), .val (.int (x0 &&& (3 : Int32))), .val (.int z2), .unset, .unset, .unset, .unset, .val (.int (x1 &&& (65535 : Int32))), .unset] [(.double (FP.ddiv (FP.i2d (x1 &&& (65535 : Int32))) (4679240012837945344 : UInt64)))])) (fun _ k => XS.ddivS X0.here hx rfl (hb hby at_34) rfl (own_nn_4679240012837945344 (c_and _ _ (by decide)).1) rfl k) ?_
      refine OGo.go (U' := T0.setTop (mkF m 37 #[.val (.int x0), .val (.int x1), .val (.int (x0 &&& (3 : Int32))), .val (.int z2), .val (.double (FP.ddiv (FP.i2d (x1 &&& (65535 : Int32))) (4679240012837945344 : UInt64))), .second, .unset, .unset, .val (.int (x1 &&& (65535 : Int32))), .unset] [])) (fun _ k => XS.dstore X0.here hx rfl (hb hby at_35) rfl (l' := #[.val (.int x0), .val (.int x1), .val (.int (x0 &&& (3 : Int32))), .val (.int z2), .val (.double (FP.ddiv (FP.i2d (x1 &&& (65535 : Int32))) (4679240012837945344 : UInt64))), .second, .unset, .unset, .val (.int (x1 &&& (65535 : Int32))), .unset]) rfl k) ?_
      refine OGo.go (U' := T0.setTop (mkF m 38 #[.val (.int x0), .val (.int x1), .val (.int (x0 &&& (3 : Int32))), .val (.int z2), .val (.double (FP.ddiv (FP.i2d (x1 &&& (65535 : Int32))) (4679240012837945344 : UInt64))), .second, .unset, .unset, .val (.int (x1 &&& (65535 : Int32))), .unset] [(.int (0 : Int32))])) (fun _ k => XS.iconst X0.here hx rfl (hb hby at_37) k) ?_
      refine OGo.go (U' := T0.setTop (mkF m 40 #[.val (.int x0), .val (.int x1), .val (.int (x0 &&& (3 : Int32))), .val (.int z2), .val (.double (FP.ddiv (FP.i2d (x1 &&& (65535 : Int32))) (4679240012837945344 : UInt64))), .second, .val (.int (0 : Int32)), .unset, .val (.int (x1 &&& (65535 : Int32))), .unset] [])) (fun _ k => XS.istore X0.here hx rfl (hb hby at_38) rfl (l' := #[.val (.int x0), .val (.int x1), .val (.int (x0 &&& (3 : Int32))), .val (.int z2), .val (.double (FP.ddiv (FP.i2d (x1 &&& (65535 : Int32))) (4679240012837945344 : UInt64))), .second, .val (.int (0 : Int32)), .unset, .val (.int (x1 &&& (65535 : Int32))), .unset]) rfl k) ?_
      refine OGo.go (U' := T0.setTop (mkF m 42 #[.val (.int x0), .val (.int x1), .val (.int (x0 &&& (3 : Int32))), .val (.int z2), .val (.double (FP.ddiv (FP.i2d (x1 &&& (65535 : Int32))) (4679240012837945344 : UInt64))), .second, .val (.int (0 : Int32)), .unset, .val (.int (x1 &&& (65535 : Int32))), .unset] [(.int (x1 &&& (65535 : Int32)))])) (fun _ k => XS.iload X0.here hx rfl (hb hby at_40) rfl k) ?_
      refine OGo.ite1 (P := (0 : Int32) < (x1 &&& (65535 : Int32))) (fun (z6 : Int32) => T0.setTop (mkF m 50 #[.val (.int x0), .val (.int x1), .val (.int (x0 &&& (3 : Int32))), .val (.int z2), .val (.double (FP.ddiv (FP.i2d (x1 &&& (65535 : Int32))) (4679240012837945344 : UInt64))), .second, .val (.int (0 : Int32)), .unset, .val (.int (x1 &&& (65535 : Int32))), .unset] [(.int z6)])) (x := (1 : Int32)) (y := (0 : Int32)) (fun hc5 k7 => ?_) (fun hc5 k7 => ?_) ?_
      · skip
        refine OGo.go (U' := T0.setTop (mkF m 45 #[.val (.int x0), .val (.int x1), .val (.int (x0 &&& (3 : Int32))), .val (.int z2), .val (.double (FP.ddiv (FP.i2d (x1 &&& (65535 : Int32))) (4679240012837945344 : UInt64))), .second, .val (.int (0 : Int32)), .unset, .val (.int (x1 &&& (65535 : Int32))), .unset] [])) (fun _ k => XS.ifNo X0.here hx rfl (hb hby at_42) rfl ((if0 _ _).trans (tlt hc5).2.2.2) k) ?_
        refine OGo.go (U' := T0.setTop (mkF m 46 #[.val (.int x0), .val (.int x1), .val (.int (x0 &&& (3 : Int32))), .val (.int z2), .val (.double (FP.ddiv (FP.i2d (x1 &&& (65535 : Int32))) (4679240012837945344 : UInt64))), .second, .val (.int (0 : Int32)), .unset, .val (.int (x1 &&& (65535 : Int32))), .unset] [(.int (1 : Int32))])) (fun _ k => XS.iconst X0.here hx rfl (hb hby at_45) k) ?_
        refine OGo.go (U' := T0.setTop (mkF m 50 #[.val (.int x0), .val (.int x1), .val (.int (x0 &&& (3 : Int32))), .val (.int z2), .val (.double (FP.ddiv (FP.i2d (x1 &&& (65535 : Int32))) (4679240012837945344 : UInt64))), .second, .val (.int (0 : Int32)), .unset, .val (.int (x1 &&& (65535 : Int32))), .unset] [(.int (1 : Int32))])) (fun _ k => XS.goto X0.here hx rfl (pc0 := 46) (pc' := 50) rfl (hb hby at_46) (by decide) (by decide) k) ?_
        exact k7
      · skip
        refine OGo.go (U' := T0.setTop (mkF m 49 #[.val (.int x0), .val (.int x1), .val (.int (x0 &&& (3 : Int32))), .val (.int z2), .val (.double (FP.ddiv (FP.i2d (x1 &&& (65535 : Int32))) (4679240012837945344 : UInt64))), .second, .val (.int (0 : Int32)), .unset, .val (.int (x1 &&& (65535 : Int32))), .unset] [])) (fun _ k => XS.ifYes X0.here hx rfl (pc0 := 42) (pc' := 49) rfl (hb hby at_42) rfl ((if0 _ _).trans (flt hc5).2.2.2) (by decide) (by decide) k) ?_
        refine OGo.go (U' := T0.setTop (mkF m 50 #[.val (.int x0), .val (.int x1), .val (.int (x0 &&& (3 : Int32))), .val (.int z2), .val (.double (FP.ddiv (FP.i2d (x1 &&& (65535 : Int32))) (4679240012837945344 : UInt64))), .second, .val (.int (0 : Int32)), .unset, .val (.int (x1 &&& (65535 : Int32))), .unset] [(.int (0 : Int32))])) (fun _ k => XS.iconst X0.here hx rfl (hb hby at_49) k) ?_
        exact k7
      intro z6 hz6
      refine OGo.go (U' := T0.setTop (mkF m 52 #[.val (.int x0), .val (.int x1), .val (.int (x0 &&& (3 : Int32))), .val (.int z2), .val (.double (FP.ddiv (FP.i2d (x1 &&& (65535 : Int32))) (4679240012837945344 : UInt64))), .second, .val (.int (0 : Int32)), .val (.int z6), .val (.int (x1 &&& (65535 : Int32))), .unset] [])) (fun _ k => XS.istore X0.here hx rfl (hb hby at_50) rfl (l' := #[.val (.int x0), .val (.int x1), .val (.int (x0 &&& (3 : Int32))), .val (.int z2), .val (.double (FP.ddiv (FP.i2d (x1 &&& (65535 : Int32))) (4679240012837945344 : UInt64))), .second, .val (.int (0 : Int32)), .val (.int z6), .val (.int (x1 &&& (65535 : Int32))), .unset]) rfl k) ?_
      refine OGo.go (U' := T0.setTop (mkF m 181 #[.val (.int x0), .val (.int x1), .val (.int (x0 &&& (3 : Int32))), .val (.int z2), .val (.double (FP.ddiv (FP.i2d (x1 &&& (65535 : Int32))) (4679240012837945344 : UInt64))), .second, .val (.int (0 : Int32)), .val (.int z6), .val (.int (x1 &&& (65535 : Int32))), .unset] [])) (fun _ k => XS.goto X0.here hx rfl (pc0 := 52) (pc' := 181) rfl (hb hby at_52) (by decide) (by decide) k) ?_
      exact tail ((FP.ddiv (FP.i2d (x1 &&& (65535 : Int32))) (4679240012837945344 : UInt64)), (0 : Int32), z6, (x1 &&& (65535 : Int32))) (own_mode_0 hz2 hc4 hz6)
    · skip
      refine OGo.go (U' := T0.setTop (mkF m 55 #[.val (.int x0), .val (.int x1), .val (.int (x0 &&& (3 : Int32))), .val (.int z2), .unset, .unset, .unset, .unset, .unset, .unset] [])) (fun _ k => XS.ifYes X0.here hx rfl (pc0 := 19) (pc' := 55) rfl (hb hby at_19) rfl ((if0 _ _).trans (feq hc4).2) (by decide) (by decide) k) ?_
      refine OGo.go (U' := T0.setTop (mkF m 56 #[.val (.int x0), .val (.int x1), .val (.int (x0 &&& (3 : Int32))), .val (.int z2), .unset, .unset, .unset, .unset, .unset, .unset] [(.int (x0 &&& (3 : Int32)))])) (fun _ k => XS.iloadN X0.here hx rfl (hb hby at_55) rfl k) ?_
      refine OGo.go (U' := T0.setTop (mkF m 57 #[.val (.int x0), .val (.int x1), .val (.int (x0 &&& (3 : Int32))), .val (.int z2), .unset, .unset, .unset, .unset, .unset, .unset] [(.int (1 : Int32)), (.int (x0 &&& (3 : Int32)))])) (fun _ k => XS.iconst X0.here hx rfl (hb hby at_56) k) ?_
      by_cases hc8 : (x0 &&& (3 : Int32)) = (1 : Int32)
      · skip
        refine OGo.go (U' := T0.setTop (mkF m 60 #[.val (.int x0), .val (.int x1), .val (.int (x0 &&& (3 : Int32))), .val (.int z2), .unset, .unset, .unset, .unset, .unset, .unset] [])) (fun _ k => XS.icmpNo X0.here hx rfl (hb hby at_57) rfl (teq hc8).2 k) ?_
        refine OGo.go (U' := T0.setTop (mkF m 61 #[.val (.int x0), .val (.int x1), .val (.int (x0 &&& (3 : Int32))), .val (.int z2), .unset, .unset, .unset, .unset, .unset, .unset] [(.int x1)])) (fun _ k => XS.iloadN X0.here hx rfl (hb hby at_60) rfl k) ?_
        refine OGo.go (U' := T0.setTop (mkF m 63 #[.val (.int x0), .val (.int x1), .val (.int (x0 &&& (3 : Int32))), .val (.int z2), .unset, .unset, .unset, .unset, .unset, .unset] [(.int (2147483647 : Int32)), (.int x1)])) (fun _ k => X0.ldcInt hx hown (mvT hZ (hw _ (List.mem_of_getElem? (i := 16) rfl))) (g := (mkF m 61 #[.val (.int x0), .val (.int x1), .val (.int (x0 &&& (3 : Int32))), .val (.int z2), .unset, .unset, .unset, .unset, .unset, .unset] [(.int x1)])) rfl (hb hby at_61) _ k) ?_
        refine OGo.go (U' := T0.setTop (mkF m 64 #[.val (.int x0), .val (.int x1), .val (.int (x0 &&& (3 : Int32))), .val (.int z2), .unset, .unset, .unset, .unset, .unset, .unset] [(.int (x1 &&& (2147483647 : Int32)))])) (fun _ k => XS.iand X0.here hx rfl (hb hby at_63) rfl k) ?_
        refine OGo.go (U' := T0.setTop (mkF m 66 #[.val (.int x0), .val (.int x1), .val (.int (x0 &&& (3 : Int32))), .val (.int z2), .unset, .unset, .unset, .unset, .val (.int (x1 &&& (2147483647 : Int32))), .unset] [])) (fun _ k => XS.istore X0.here hx rfl (hb hby at_64) rfl (l' := #[.val (.int x0), .val (.int x1), .val (.int (x0 &&& (3 : Int32))), .val (.int z2), .unset, .unset, .unset, .unset, .val (.int (x1 &&& (2147483647 : Int32))), .unset]) rfl k) ?_
        refine OGo.go (U' := T0.setTop (mkF m 68 #[.val (.int x0), .val (.int x1), .val (.int (x0 &&& (3 : Int32))), .val (.int z2), .unset, .unset, .unset, .unset, .val (.int (x1 &&& (2147483647 : Int32))), .unset] [(.int (x1 &&& (2147483647 : Int32)))])) (fun _ k => XS.iload X0.here hx rfl (hb hby at_66) rfl k) ?_
        refine OGo.go (U' := T0.setTop (mkF m 69 #[.val (.int x0), .val (.int x1), .val (.int (x0 &&& (3 : Int32))), .val (.int z2), .unset, .unset, .unset, .unset, .val (.int (x1 &&& (2147483647 : Int32))), .unset] [(.double (FP.i2d (x1 &&& (2147483647 : Int32))))])) (fun _ k => XS.i2dS X0.here hx rfl (hb hby at_68) rfl rfl k) ?_
        refine OGo.go (U' := T0.setTop (mkF m 71 #[.val (.int x0), .val (.int x1), .val (.int (x0 &&& (3 : Int32))), .val (.int z2), .val (.double (FP.i2d (x1 &&& (2147483647 : Int32)))), .second, .unset, .unset, .val (.int (x1 &&& (2147483647 : Int32))), .unset] [])) (fun _ k => XS.dstore X0.here hx rfl (hb hby at_69) rfl (l' := #[.val (.int x0), .val (.int x1), .val (.int (x0 &&& (3 : Int32))), .val (.int z2), .val (.double (FP.i2d (x1 &&& (2147483647 : Int32)))), .second, .unset, .unset, .val (.int (x1 &&& (2147483647 : Int32))), .unset]) rfl k) ?_
        refine OGo.go (U' := T0.setTop (mkF m 73 #[.val (.int x0), .val (.int x1), .val (.int (x0 &&& (3 : Int32))), .val (.int z2), .val (.double (FP.i2d (x1 &&& (2147483647 : Int32)))), .second, .unset, .unset, .val (.int (x1 &&& (2147483647 : Int32))), .unset] [(.int (x1 &&& (2147483647 : Int32)))])) (fun _ k => XS.iload X0.here hx rfl (hb hby at_71) rfl k) ?_
        refine OGo.go (U' := T0.setTop (mkF m 74 #[.val (.int x0), .val (.int x1), .val (.int (x0 &&& (3 : Int32))), .val (.int z2), .val (.double (FP.i2d (x1 &&& (2147483647 : Int32)))), .second, .unset, .unset, .val (.int (x1 &&& (2147483647 : Int32))), .unset] [(.int (1 : Int32)), (.int (x1 &&& (2147483647 : Int32)))])) (fun _ k => XS.iconst X0.here hx rfl (hb hby at_73) k) ?_
        refine OGo.ite1 (P := (x1 &&& (2147483647 : Int32)) < (1 : Int32)) (fun (z10 : Int32) => T0.setTop (mkF m 82 #[.val (.int x0), .val (.int x1), .val (.int (x0 &&& (3 : Int32))), .val (.int z2), .val (.double (FP.i2d (x1 &&& (2147483647 : Int32)))), .second, .unset, .unset, .val (.int (x1 &&& (2147483647 : Int32))), .unset] [(.int z10)])) (x := (0 : Int32)) (y := (1 : Int32)) (fun hc9 k11 => ?_) (fun hc9 k11 => ?_) ?_
        · skip
          refine OGo.go (U' := T0.setTop (mkF m 81 #[.val (.int x0), .val (.int x1), .val (.int (x0 &&& (3 : Int32))), .val (.int z2), .val (.double (FP.i2d (x1 &&& (2147483647 : Int32)))), .second, .unset, .unset, .val (.int (x1 &&& (2147483647 : Int32))), .unset] [])) (fun _ k => XS.icmpYes X0.here hx rfl (pc0 := 74) (pc' := 81) rfl (hb hby at_74) rfl (tlt hc9).1 (by decide) (by decide) k) ?_
          refine OGo.go (U' := T0.setTop (mkF m 82 #[.val (.int x0), .val (.int x1), .val (.int (x0 &&& (3 : Int32))), .val (.int z2), .val (.double (FP.i2d (x1 &&& (2147483647 : Int32)))), .second, .unset, .unset, .val (.int (x1 &&& (2147483647 : Int32))), .unset] [(.int (0 : Int32))])) (fun _ k => XS.iconst X0.here hx rfl (hb hby at_81) k) ?_
          exact k11
        · skip
          refine OGo.go (U' := T0.setTop (mkF m 77 #[.val (.int x0), .val (.int x1), .val (.int (x0 &&& (3 : Int32))), .val (.int z2), .val (.double (FP.i2d (x1 &&& (2147483647 : Int32)))), .second, .unset, .unset, .val (.int (x1 &&& (2147483647 : Int32))), .unset] [])) (fun _ k => XS.icmpNo X0.here hx rfl (hb hby at_74) rfl (flt hc9).1 k) ?_
          refine OGo.go (U' := T0.setTop (mkF m 78 #[.val (.int x0), .val (.int x1), .val (.int (x0 &&& (3 : Int32))), .val (.int z2), .val (.double (FP.i2d (x1 &&& (2147483647 : Int32)))), .second, .unset, .unset, .val (.int (x1 &&& (2147483647 : Int32))), .unset] [(.int (1 : Int32))])) (fun _ k => XS.iconst X0.here hx rfl (hb hby at_77) k) ?_
          refine OGo.go (U' := T0.setTop (mkF m 82 #[.val (.int x0), .val (.int x1), .val (.int (x0 &&& (3 : Int32))), .val (.int z2), .val (.double (FP.i2d (x1 &&& (2147483647 : Int32)))), .second, .unset, .unset, .val (.int (x1 &&& (2147483647 : Int32))), .unset] [(.int (1 : Int32))])) (fun _ k => XS.goto X0.here hx rfl (pc0 := 78) (pc' := 82) rfl (hb hby at_78) (by decide) (by decide) k) ?_
          exact k11
        intro z10 hz10
        refine OGo.go (U' := T0.setTop (mkF m 84 #[.val (.int x0), .val (.int x1), .val (.int (x0 &&& (3 : Int32))), .val (.int z2), .val (.double (FP.i2d (x1 &&& (2147483647 : Int32)))), .second, .val (.int z10), .unset, .val (.int (x1 &&& (2147483647 : Int32))), .unset] [])) (fun _ k => XS.istore X0.here hx rfl (hb hby at_82) rfl (l' := #[.val (.int x0), .val (.int x1), .val (.int (x0 &&& (3 : Int32))), .val (.int z2), .val (.double (FP.i2d (x1 &&& (2147483647 : Int32)))), .second, .val (.int z10), .unset, .val (.int (x1 &&& (2147483647 : Int32))), .unset]) rfl k) ?_
        refine OGo.go (U' := T0.setTop (mkF m 86 #[.val (.int x0), .val (.int x1), .val (.int (x0 &&& (3 : Int32))), .val (.int z2), .val (.double (FP.i2d (x1 &&& (2147483647 : Int32)))), .second, .val (.int z10), .unset, .val (.int (x1 &&& (2147483647 : Int32))), .unset] [(.int (x1 &&& (2147483647 : Int32)))])) (fun _ k => XS.iload X0.here hx rfl (hb hby at_84) rfl k) ?_
        refine OGo.ite1 (P := (0 : Int32) < (x1 &&& (2147483647 : Int32))) (fun (z13 : Int32) => T0.setTop (mkF m 94 #[.val (.int x0), .val (.int x1), .val (.int (x0 &&& (3 : Int32))), .val (.int z2), .val (.double (FP.i2d (x1 &&& (2147483647 : Int32)))), .second, .val (.int z10), .unset, .val (.int (x1 &&& (2147483647 : Int32))), .unset] [(.int z13)])) (x := (1 : Int32)) (y := (0 : Int32)) (fun hc12 k14 => ?_) (fun hc12 k14 => ?_) ?_
        · skip
          refine OGo.go (U' := T0.setTop (mkF m 89 #[.val (.int x0), .val (.int x1), .val (.int (x0 &&& (3 : Int32))), .val (.int z2), .val (.double (FP.i2d (x1 &&& (2147483647 : Int32)))), .second, .val (.int z10), .unset, .val (.int (x1 &&& (2147483647 : Int32))), .unset] [])) (fun _ k => XS.ifNo X0.here hx rfl (hb hby at_86) rfl ((if0 _ _).trans (tlt hc12).2.2.2) k) ?_
          refine OGo.go (U' := T0.setTop (mkF m 90 #[.val (.int x0), .val (.int x1), .val (.int (x0 &&& (3 : Int32))), .val (.int z2), .val (.double (FP.i2d (x1 &&& (2147483647 : Int32)))), .second, .val (.int z10), .unset, .val (.int (x1 &&& (2147483647 : Int32))), .unset] [(.int (1 : Int32))])) (fun _ k => XS.iconst X0.here hx rfl (hb hby at_89) k) ?_
          refine OGo.go (U' := T0.setTop (mkF m 94 #[.val (.int x0), .val (.int x1), .val (.int (x0 &&& (3 : Int32))), .val (.int z2), .val (.double (FP.i2d (x1 &&& (2147483647 : Int32)))), .second, .val (.int z10), .unset, .val (.int (x1 &&& (2147483647 : Int32))), .unset] [(.int (1 : Int32))])) (fun _ k => XS.goto X0.here hx rfl (pc0 := 90) (pc' := 94) rfl (hb hby at_90) (by decide) (by decide) k) ?_
          exact k14
        · skip
          refine OGo.go (U' := T0.setTop (mkF m 93 #[.val (.int x0), .val (.int x1), .val (.int (x0 &&& (3 : Int32))), .val (.int z2), .val (.double (FP.i2d (x1 &&& (2147483647 : Int32)))), .second, .val (.int z10), .unset, .val (.int (x1 &&& (2147483647 : Int32))), .unset] [])) (fun _ k => XS.ifYes X0.here hx rfl (pc0 := 86) (pc' := 93) rfl (hb hby at_86) rfl ((if0 _ _).trans (flt hc12).2.2.2) (by decide) (by decide) k) ?_
          refine OGo.go (U' := T0.setTop (mkF m 94 #[.val (.int x0), .val (.int x1), .val (.int (x0 &&& (3 : Int32))), .val (.int z2), .val (.double (FP.i2d (x1 &&& (2147483647 : Int32)))), .second, .val (.int z10), .unset, .val (.int (x1 &&& (2147483647 : Int32))), .unset] [(.int (0 : Int32))])) (fun _ k => XS.iconst X0.here hx rfl (hb hby at_93) k) ?_
          exact k14
        intro z13 hz13
        refine OGo.go (U' := T0.setTop (mkF m 96 #[.val (.int x0), .val (.int x1), .val (.int (x0 &&& (3 : Int32))), .val (.int z2), .val (.double (FP.i2d (x1 &&& (2147483647 : Int32)))), .second, .val (.int z10), .val (.int z13), .val (.int (x1 &&& (2147483647 : Int32))), .unset] [])) (fun _ k => XS.istore X0.here hx rfl (hb hby at_94) rfl (l' := #[.val (.int x0), .val (.int x1), .val (.int (x0 &&& (3 : Int32))), .val (.int z2), .val (.double (FP.i2d (x1 &&& (2147483647 : Int32)))), .second, .val (.int z10), .val (.int z13), .val (.int (x1 &&& (2147483647 : Int32))), .unset]) rfl k) ?_
        refine OGo.go (U' := T0.setTop (mkF m 181 #[.val (.int x0), .val (.int x1), .val (.int (x0 &&& (3 : Int32))), .val (.int z2), .val (.double (FP.i2d (x1 &&& (2147483647 : Int32)))), .second, .val (.int z10), .val (.int z13), .val (.int (x1 &&& (2147483647 : Int32))), .unset] [])) (fun _ k => XS.goto X0.here hx rfl (pc0 := 96) (pc' := 181) rfl (hb hby at_96) (by decide) (by decide) k) ?_
        exact tail ((FP.i2d (x1 &&& (2147483647 : Int32))), z10, z13, (x1 &&& (2147483647 : Int32))) (own_mode_1 hz2 hc4 hc8 hz10 hz13)
      · skip
        refine OGo.go (U' := T0.setTop (mkF m 99 #[.val (.int x0), .val (.int x1), .val (.int (x0 &&& (3 : Int32))), .val (.int z2), .unset, .unset, .unset, .unset, .unset, .unset] [])) (fun _ k => XS.icmpYes X0.here hx rfl (pc0 := 57) (pc' := 99) rfl (hb hby at_57) rfl (feq hc8).2 (by decide) (by decide) k) ?_
        refine OGo.go (U' := T0.setTop (mkF m 100 #[.val (.int x0), .val (.int x1), .val (.int (x0 &&& (3 : Int32))), .val (.int z2), .unset, .unset, .unset, .unset, .unset, .unset] [(.int (x0 &&& (3 : Int32)))])) (fun _ k => XS.iloadN X0.here hx rfl (hb hby at_99) rfl k) ?_
        refine OGo.go (U' := T0.setTop (mkF m 101 #[.val (.int x0), .val (.int x1), .val (.int (x0 &&& (3 : Int32))), .val (.int z2), .unset, .unset, .unset, .unset, .unset, .unset] [(.int (2 : Int32)), (.int (x0 &&& (3 : Int32)))])) (fun _ k => XS.iconst X0.here hx rfl (hb hby at_100) k) ?_
        by_cases hc15 : (x0 &&& (3 : Int32)) = (2 : Int32)
        · skip
          refine OGo.go (U' := T0.setTop (mkF m 104 #[.val (.int x0), .val (.int x1), .val (.int (x0 &&& (3 : Int32))), .val (.int z2), .unset, .unset, .unset, .unset, .unset, .unset] [])) (fun _ k => XS.icmpNo X0.here hx rfl (hb hby at_101) rfl (teq hc15).2 k) ?_
          refine OGo.go (U' := T0.setTop (mkF m 105 #[.val (.int x0), .val (.int x1), .val (.int (x0 &&& (3 : Int32))), .val (.int z2), .unset, .unset, .unset, .unset, .unset, .unset] [(.int x1)])) (fun _ k => XS.iloadN X0.here hx rfl (hb hby at_104) rfl k) ?_
          refine OGo.go (U' := T0.setTop (mkF m 107 #[.val (.int x0), .val (.int x1), .val (.int (x0 &&& (3 : Int32))), .val (.int z2), .unset, .unset, .unset, .unset, .unset, .unset] [(.int (63 : Int32)), (.int x1)])) (fun _ k => XS.bipush X0.here hx rfl (hb hby at_105) k) ?_
          refine OGo.go (U' := T0.setTop (mkF m 108 #[.val (.int x0), .val (.int x1), .val (.int (x0 &&& (3 : Int32))), .val (.int z2), .unset, .unset, .unset, .unset, .unset, .unset] [(.int (x1 &&& (63 : Int32)))])) (fun _ k => XS.iand X0.here hx rfl (hb hby at_107) rfl k) ?_
          refine OGo.go (U' := T0.setTop (mkF m 110 #[.val (.int x0), .val (.int x1), .val (.int (x0 &&& (3 : Int32))), .val (.int z2), .unset, .unset, .unset, .unset, .val (.int (x1 &&& (63 : Int32))), .unset] [])) (fun _ k => XS.istore X0.here hx rfl (hb hby at_108) rfl (l' := #[.val (.int x0), .val (.int x1), .val (.int (x0 &&& (3 : Int32))), .val (.int z2), .unset, .unset, .unset, .unset, .val (.int (x1 &&& (63 : Int32))), .unset]) rfl k) ?_
          refine OGo.go (U' := T0.setTop (mkF m 112 #[.val (.int x0), .val (.int x1), .val (.int (x0 &&& (3 : Int32))), .val (.int z2), .unset, .unset, .unset, .unset, .val (.int (x1 &&& (63 : Int32))), .unset] [(.int (x1 &&& (63 : Int32)))])) (fun _ k => XS.iload X0.here hx rfl (hb hby at_110) rfl k) ?_
          refine OGo.go (U' := T0.setTop (mkF m 113 #[.val (.int x0), .val (.int x1), .val (.int (x0 &&& (3 : Int32))), .val (.int z2), .unset, .unset, .unset, .unset, .val (.int (x1 &&& (63 : Int32))), .unset] [(.double (FP.i2d (x1 &&& (63 : Int32))))])) (fun _ k => XS.i2dS X0.here hx rfl (hb hby at_112) rfl rfl k) ?_
          refine OGo.go (U' := T0.setTop (mkF m 116 #[.val (.int x0), .val (.int x1), .val (.int (x0 &&& (3 : Int32))), .val (.int z2), .unset, .unset, .unset, .unset, .val (.int (x1 &&& (63 : Int32))), .unset] [(.double (4625196817309499392 : UInt64)), (.double (FP.i2d (x1 &&& (63 : Int32))))])) (fun _ k => X0.ldc2DoubleC hx hown (mvT hZ (hw _ (List.mem_of_getElem? (i := 9) rfl))) (g := (mkF m 113 #[.val (.int x0), .val (.int x1), .val (.int (x0 &&& (3 : Int32))), .val (.int z2), .unset, .unset, .unset, .unset, .val (.int (x1 &&& (63 : Int32))), .unset] [(.double (FP.i2d (x1 &&& (63 : Int32))))])) rfl (hb hby at_113) _ k) ?_
          refine OGo.go (U' := T0.setTop (mkF m 117 #[.val (.int x0), .val (.int x1), .val (.int (x0 &&& (3 : Int32))), .val (.int z2), .unset, .unset, .unset, .unset, .val (.int (x1 &&& (63 : Int32))), .unset] [(.double (FP.ddiv (FP.i2d (x1 &&& (63 : Int32))) (4625196817309499392 : UInt64)))])) (fun _ k => XS.ddivS X0.here hx rfl (hb hby at_116) rfl (own_nn_4625196817309499392 (c_and _ _ (by decide)).1) rfl k) ?_
          refine OGo.go (U' := T0.setTop (mkF m 119 #[.val (.int x0), .val (.int x1), .val (.int (x0 &&& (3 : Int32))), .val (.int z2), .val (.double (FP.ddiv (FP.i2d (x1 &&& (63 : Int32))) (4625196817309499392 : UInt64))), .second, .unset, .unset, .val (.int (x1 &&& (63 : Int32))), .unset] [])) (fun _ k => XS.dstore X0.here hx rfl (hb hby at_117) rfl (l' := #[.val (.int x0), .val (.int x1), .val (.int (x0 &&& (3 : Int32))), .val (.int z2), .val (.double (FP.ddiv (FP.i2d (x1 &&& (63 : Int32))) (4625196817309499392 : UInt64))), .second, .unset, .unset, .val (.int (x1 &&& (63 : Int32))), .unset]) rfl k) ?_
          refine OGo.go (U' := T0.setTop (mkF m 121 #[.val (.int x0), .val (.int x1), .val (.int (x0 &&& (3 : Int32))), .val (.int z2), .val (.double (FP.ddiv (FP.i2d (x1 &&& (63 : Int32))) (4625196817309499392 : UInt64))), .second, .unset, .unset, .val (.int (x1 &&& (63 : Int32))), .unset] [(.int (x1 &&& (63 : Int32)))])) (fun _ k => XS.iload X0.here hx rfl (hb hby at_119) rfl k) ?_
          refine OGo.go (U' := T0.setTop (mkF m 123 #[.val (.int x0), .val (.int x1), .val (.int (x0 &&& (3 : Int32))), .val (.int z2), .val (.double (FP.ddiv (FP.i2d (x1 &&& (63 : Int32))) (4625196817309499392 : UInt64))), .second, .unset, .unset, .val (.int (x1 &&& (63 : Int32))), .unset] [(.int (16 : Int32)), (.int (x1 &&& (63 : Int32)))])) (fun _ k => XS.bipush X0.here hx rfl (hb hby at_121) k) ?_
          refine OGo.ite1 (P := (x1 &&& (63 : Int32)) < (16 : Int32)) (fun (z17 : Int32) => T0.setTop (mkF m 131 #[.val (.int x0), .val (.int x1), .val (.int (x0 &&& (3 : Int32))), .val (.int z2), .val (.double (FP.ddiv (FP.i2d (x1 &&& (63 : Int32))) (4625196817309499392 : UInt64))), .second, .unset, .unset, .val (.int (x1 &&& (63 : Int32))), .unset] [(.int z17)])) (x := (0 : Int32)) (y := (1 : Int32)) (fun hc16 k18 => ?_) (fun hc16 k18 => ?_) ?_
          · skip
            refine OGo.go (U' := T0.setTop (mkF m 130 #[.val (.int x0), .val (.int x1), .val (.int (x0 &&& (3 : Int32))), .val (.int z2), .val (.double (FP.ddiv (FP.i2d (x1 &&& (63 : Int32))) (4625196817309499392 : UInt64))), .second, .unset, .unset, .val (.int (x1 &&& (63 : Int32))), .unset] [])) (fun _ k => XS.icmpYes X0.here hx rfl (pc0 := 123) (pc' := 130) rfl (hb hby at_123) rfl (tlt hc16).1 (by decide) (by decide) k) ?_
            refine OGo.go (U' := T0.setTop (mkF m 131 #[.val (.int x0), .val (.int x1), .val (.int (x0 &&& (3 : Int32))), .val (.int z2), .val (.double (FP.ddiv (FP.i2d (x1 &&& (63 : Int32))) (4625196817309499392 : UInt64))), .second, .unset, .unset, .val (.int (x1 &&& (63 : Int32))), .unset] [(.int (0 : Int32))])) (fun _ k => XS.iconst X0.here hx rfl (hb hby at_130) k) ?_
            exact k18
          · skip
            refine OGo.go (U' := T0.setTop (mkF m 126 #[.val (.int x0), .val (.int x1), .val (.int (x0 &&& (3 : Int32))), .val (.int z2), .val (.double (FP.ddiv (FP.i2d (x1 &&& (63 : Int32))) (4625196817309499392 : UInt64))), .second, .unset, .unset, .val (.int (x1 &&& (63 : Int32))), .unset] [])) (fun _ k => XS.icmpNo X0.here hx rfl (hb hby at_123) rfl (flt hc16).1 k) ?_
            refine OGo.go (U' := T0.setTop (mkF m 127 #[.val (.int x0), .val (.int x1), .val (.int (x0 &&& (3 : Int32))), .val (.int z2), .val (.double (FP.ddiv (FP.i2d (x1 &&& (63 : Int32))) (4625196817309499392 : UInt64))), .second, .unset, .unset, .val (.int (x1 &&& (63 : Int32))), .unset] [(.int (1 : Int32))])) (fun _ k => XS.iconst X0.here hx rfl (hb hby at_126) k) ?_
            refine OGo.go (U' := T0.setTop (mkF m 131 #[.val (.int x0), .val (.int x1), .val (.int (x0 &&& (3 : Int32))), .val (.int z2), .val (.double (FP.ddiv (FP.i2d (x1 &&& (63 : Int32))) (4625196817309499392 : UInt64))), .second, .unset, .unset, .val (.int (x1 &&& (63 : Int32))), .unset] [(.int (1 : Int32))])) (fun _ k => XS.goto X0.here hx rfl (pc0 := 127) (pc' := 131) rfl (hb hby at_127) (by decide) (by decide) k) ?_
            exact k18
          intro z17 hz17
          refine OGo.go (U' := T0.setTop (mkF m 133 #[.val (.int x0), .val (.int x1), .val (.int (x0 &&& (3 : Int32))), .val (.int z2), .val (.double (FP.ddiv (FP.i2d (x1 &&& (63 : Int32))) (4625196817309499392 : UInt64))), .second, .val (.int z17), .unset, .val (.int (x1 &&& (63 : Int32))), .unset] [])) (fun _ k => XS.istore X0.here hx rfl (hb hby at_131) rfl (l' := #[.val (.int x0), .val (.int x1), .val (.int (x0 &&& (3 : Int32))), .val (.int z2), .val (.double (FP.ddiv (FP.i2d (x1 &&& (63 : Int32))) (4625196817309499392 : UInt64))), .second, .val (.int z17), .unset, .val (.int (x1 &&& (63 : Int32))), .unset]) rfl k) ?_
          refine OGo.go (U' := T0.setTop (mkF m 135 #[.val (.int x0), .val (.int x1), .val (.int (x0 &&& (3 : Int32))), .val (.int z2), .val (.double (FP.ddiv (FP.i2d (x1 &&& (63 : Int32))) (4625196817309499392 : UInt64))), .second, .val (.int z17), .unset, .val (.int (x1 &&& (63 : Int32))), .unset] [(.int (x1 &&& (63 : Int32)))])) (fun _ k => XS.iload X0.here hx rfl (hb hby at_133) rfl k) ?_
          refine OGo.ite1 (P := (0 : Int32) < (x1 &&& (63 : Int32))) (fun (z20 : Int32) => T0.setTop (mkF m 143 #[.val (.int x0), .val (.int x1), .val (.int (x0 &&& (3 : Int32))), .val (.int z2), .val (.double (FP.ddiv (FP.i2d (x1 &&& (63 : Int32))) (4625196817309499392 : UInt64))), .second, .val (.int z17), .unset, .val (.int (x1 &&& (63 : Int32))), .unset] [(.int z20)])) (x := (1 : Int32)) (y := (0 : Int32)) (fun hc19 k21 => ?_) (fun hc19 k21 => ?_) ?_
          · skip
            refine OGo.go (U' := T0.setTop (mkF m 138 #[.val (.int x0), .val (.int x1), .val (.int (x0 &&& (3 : Int32))), .val (.int z2), .val (.double (FP.ddiv (FP.i2d (x1 &&& (63 : Int32))) (4625196817309499392 : UInt64))), .second, .val (.int z17), .unset, .val (.int (x1 &&& (63 : Int32))), .unset] [])) (fun _ k => XS.ifNo X0.here hx rfl (hb hby at_135) rfl ((if0 _ _).trans (tlt hc19).2.2.2) k) ?_
            refine OGo.go (U' := T0.setTop (mkF m 139 #[.val (.int x0), .val (.int x1), .val (.int (x0 &&& (3 : Int32))), .val (.int z2), .val (.double (FP.ddiv (FP.i2d (x1 &&& (63 : Int32))) (4625196817309499392 : UInt64))), .second, .val (.int z17), .unset, .val (.int (x1 &&& (63 : Int32))), .unset] [(.int (1 : Int32))])) (fun _ k => XS.iconst X0.here hx rfl (hb hby at_138) k) ?_
            refine OGo.go (U' := T0.setTop (mkF m 143 #[.val (.int x0), .val (.int x1), .val (.int (x0 &&& (3 : Int32))), .val (.int z2), .val (.double (FP.ddiv (FP.i2d (x1 &&& (63 : Int32))) (4625196817309499392 : UInt64))), .second, .val (.int z17), .unset, .val (.int (x1 &&& (63 : Int32))), .unset] [(.int (1 : Int32))])) (fun _ k => XS.goto X0.here hx rfl (pc0 := 139) (pc' := 143) rfl (hb hby at_139) (by decide) (by decide) k) ?_
            exact k21
          · skip
            refine OGo.go (U' := T0.setTop (mkF m 142 #[.val (.int x0), .val (.int x1), .val (.int (x0 &&& (3 : Int32))), .val (.int z2), .val (.double (FP.ddiv (FP.i2d (x1 &&& (63 : Int32))) (4625196817309499392 : UInt64))), .second, .val (.int z17), .unset, .val (.int (x1 &&& (63 : Int32))), .unset] [])) (fun _ k => XS.ifYes X0.here hx rfl (pc0 := 135) (pc' := 142) rfl (hb hby at_135) rfl ((if0 _ _).trans (flt hc19).2.2.2) (by decide) (by decide) k) ?_
            refine OGo.go (U' := T0.setTop (mkF m 143 #[.val (.int x0), .val (.int x1), .val (.int (x0 &&& (3 : Int32))), .val (.int z2), .val (.double (FP.ddiv (FP.i2d (x1 &&& (63 : Int32))) (4625196817309499392 : UInt64))), .second, .val (.int z17), .unset, .val (.int (x1 &&& (63 : Int32))), .unset] [(.int (0 : Int32))])) (fun _ k => XS.iconst X0.here hx rfl (hb hby at_142) k) ?_
            exact k21
          intro z20 hz20
          refine OGo.go (U' := T0.setTop (mkF m 145 #[.val (.int x0), .val (.int x1), .val (.int (x0 &&& (3 : Int32))), .val (.int z2), .val (.double (FP.ddiv (FP.i2d (x1 &&& (63 : Int32))) (4625196817309499392 : UInt64))), .second, .val (.int z17), .val (.int z20), .val (.int (x1 &&& (63 : Int32))), .unset] [])) (fun _ k => XS.istore X0.here hx rfl (hb hby at_143) rfl (l' := #[.val (.int x0), .val (.int x1), .val (.int (x0 &&& (3 : Int32))), .val (.int z2), .val (.double (FP.ddiv (FP.i2d (x1 &&& (63 : Int32))) (4625196817309499392 : UInt64))), .second, .val (.int z17), .val (.int z20), .val (.int (x1 &&& (63 : Int32))), .unset]) rfl k) ?_
          refine OGo.go (U' := T0.setTop (mkF m 181 #[.val (.int x0), .val (.int x1), .val (.int (x0 &&& (3 : Int32))), .val (.int z2), .val (.double (FP.ddiv (FP.i2d (x1 &&& (63 : Int32))) (4625196817309499392 : UInt64))), .second, .val (.int z17), .val (.int z20), .val (.int (x1 &&& (63 : Int32))), .unset] [])) (fun _ k => XS.goto X0.here hx rfl (pc0 := 145) (pc' := 181) rfl (hb hby at_145) (by decide) (by decide) k) ?_
          exact tail ((FP.ddiv (FP.i2d (x1 &&& (63 : Int32))) (4625196817309499392 : UInt64)), z17, z20, (x1 &&& (63 : Int32))) (own_mode_2 hz2 hc4 hc8 hc15 hz17 hz20)
        · skip
          refine OGo.go (U' := T0.setTop (mkF m 148 #[.val (.int x0), .val (.int x1), .val (.int (x0 &&& (3 : Int32))), .val (.int z2), .unset, .unset, .unset, .unset, .unset, .unset] [])) (fun _ k => XS.icmpYes X0.here hx rfl (pc0 := 101) (pc' := 148) rfl (hb hby at_101) rfl (feq hc15).2 (by decide) (by decide) k) ?_
          refine OGo.go (U' := T0.setTop (mkF m 149 #[.val (.int x0), .val (.int x1), .val (.int (x0 &&& (3 : Int32))), .val (.int z2), .unset, .unset, .unset, .unset, .unset, .unset] [(.int x1)])) (fun _ k => XS.iloadN X0.here hx rfl (hb hby at_148) rfl k) ?_
          refine OGo.go (U' := T0.setTop (mkF m 152 #[.val (.int x0), .val (.int x1), .val (.int (x0 &&& (3 : Int32))), .val (.int z2), .unset, .unset, .unset, .unset, .unset, .unset] [(.int (255 : Int32)), (.int x1)])) (fun _ k => XS.sipush X0.here hx rfl (hb hby at_149) k) ?_
          refine OGo.go (U' := T0.setTop (mkF m 153 #[.val (.int x0), .val (.int x1), .val (.int (x0 &&& (3 : Int32))), .val (.int z2), .unset, .unset, .unset, .unset, .unset, .unset] [(.int (x1 &&& (255 : Int32)))])) (fun _ k => XS.iand X0.here hx rfl (hb hby at_152) rfl k) ?_
          refine OGo.go (U' := T0.setTop (mkF m 155 #[.val (.int x0), .val (.int x1), .val (.int (x0 &&& (3 : Int32))), .val (.int z2), .unset, .unset, .unset, .unset, .val (.int (x1 &&& (255 : Int32))), .unset] [])) (fun _ k => XS.istore X0.here hx rfl (hb hby at_153) rfl (l' := #[.val (.int x0), .val (.int x1), .val (.int (x0 &&& (3 : Int32))), .val (.int z2), .unset, .unset, .unset, .unset, .val (.int (x1 &&& (255 : Int32))), .unset]) rfl k) ?_
          refine OGo.go (U' := T0.setTop (mkF m 156 #[.val (.int x0), .val (.int x1), .val (.int (x0 &&& (3 : Int32))), .val (.int z2), .unset, .unset, .unset, .unset, .val (.int (x1 &&& (255 : Int32))), .unset] [(.double FP.dconst1)])) (fun _ k => XS.dconst1 X0.here hx rfl (hb hby at_155) rfl k) ?_
          refine OGo.go (U' := T0.setTop (mkF m 158 #[.val (.int x0), .val (.int x1), .val (.int (x0 &&& (3 : Int32))), .val (.int z2), .unset, .unset, .unset, .unset, .val (.int (x1 &&& (255 : Int32))), .unset] [(.int (x1 &&& (255 : Int32))), (.double FP.dconst1)])) (fun _ k => XS.iload X0.here hx rfl (hb hby at_156) rfl k) ?_
          refine OGo.go (U' := T0.setTop (mkF m 159 #[.val (.int x0), .val (.int x1), .val (.int (x0 &&& (3 : Int32))), .val (.int z2), .unset, .unset, .unset, .unset, .val (.int (x1 &&& (255 : Int32))), .unset] [(.double (FP.i2d (x1 &&& (255 : Int32)))), (.double FP.dconst1)])) (fun _ k => XS.i2dS X0.here hx rfl (hb hby at_158) rfl rfl k) ?_
          refine OGo.go (U' := T0.setTop (mkF m 162 #[.val (.int x0), .val (.int x1), .val (.int (x0 &&& (3 : Int32))), .val (.int z2), .unset, .unset, .unset, .unset, .val (.int (x1 &&& (255 : Int32))), .unset] [(.double (4697254411347427328 : UInt64)), (.double (FP.i2d (x1 &&& (255 : Int32)))), (.double FP.dconst1)])) (fun _ k => X0.ldc2DoubleC hx hown (mvT hZ (hw _ (List.mem_of_getElem? (i := 20) rfl))) (g := (mkF m 159 #[.val (.int x0), .val (.int x1), .val (.int (x0 &&& (3 : Int32))), .val (.int z2), .unset, .unset, .unset, .unset, .val (.int (x1 &&& (255 : Int32))), .unset] [(.double (FP.i2d (x1 &&& (255 : Int32)))), (.double FP.dconst1)])) rfl (hb hby at_159) _ k) ?_
          refine OGo.go (U' := T0.setTop (mkF m 163 #[.val (.int x0), .val (.int x1), .val (.int (x0 &&& (3 : Int32))), .val (.int z2), .unset, .unset, .unset, .unset, .val (.int (x1 &&& (255 : Int32))), .unset] [(.double (FP.ddiv (FP.i2d (x1 &&& (255 : Int32))) (4697254411347427328 : UInt64))), (.double FP.dconst1)])) (fun _ k => XS.ddivS X0.here hx rfl (hb hby at_162) rfl (own_nn_4697254411347427328 (c_and _ _ (by decide)).1) rfl k) ?_
          refine OGo.go (U' := T0.setTop (mkF m 164 #[.val (.int x0), .val (.int x1), .val (.int (x0 &&& (3 : Int32))), .val (.int z2), .unset, .unset, .unset, .unset, .val (.int (x1 &&& (255 : Int32))), .unset] [(.double (FP.dsub FP.dconst1 (FP.ddiv (FP.i2d (x1 &&& (255 : Int32))) (4697254411347427328 : UInt64))))])) (fun _ k => XS.dsubS X0.here hx rfl (hb hby at_163) rfl (own_nns _) rfl k) ?_
          refine OGo.go (U' := T0.setTop (mkF m 166 #[.val (.int x0), .val (.int x1), .val (.int (x0 &&& (3 : Int32))), .val (.int z2), .val (.double (FP.dsub FP.dconst1 (FP.ddiv (FP.i2d (x1 &&& (255 : Int32))) (4697254411347427328 : UInt64)))), .second, .unset, .unset, .val (.int (x1 &&& (255 : Int32))), .unset] [])) (fun _ k => XS.dstore X0.here hx rfl (hb hby at_164) rfl (l' := #[.val (.int x0), .val (.int x1), .val (.int (x0 &&& (3 : Int32))), .val (.int z2), .val (.double (FP.dsub FP.dconst1 (FP.ddiv (FP.i2d (x1 &&& (255 : Int32))) (4697254411347427328 : UInt64)))), .second, .unset, .unset, .val (.int (x1 &&& (255 : Int32))), .unset]) rfl k) ?_
          refine OGo.go (U' := T0.setTop (mkF m 168 #[.val (.int x0), .val (.int x1), .val (.int (x0 &&& (3 : Int32))), .val (.int z2), .val (.double (FP.dsub FP.dconst1 (FP.ddiv (FP.i2d (x1 &&& (255 : Int32))) (4697254411347427328 : UInt64)))), .second, .unset, .unset, .val (.int (x1 &&& (255 : Int32))), .unset] [(.int (x1 &&& (255 : Int32)))])) (fun _ k => XS.iload X0.here hx rfl (hb hby at_166) rfl k) ?_
          refine OGo.ite1 (P := (x1 &&& (255 : Int32)) = (0 : Int32)) (fun (z23 : Int32) => T0.setTop (mkF m 176 #[.val (.int x0), .val (.int x1), .val (.int (x0 &&& (3 : Int32))), .val (.int z2), .val (.double (FP.dsub FP.dconst1 (FP.ddiv (FP.i2d (x1 &&& (255 : Int32))) (4697254411347427328 : UInt64)))), .second, .unset, .unset, .val (.int (x1 &&& (255 : Int32))), .unset] [(.int z23)])) (x := (1 : Int32)) (y := (0 : Int32)) (fun hc22 k24 => ?_) (fun hc22 k24 => ?_) ?_
          · skip
            refine OGo.go (U' := T0.setTop (mkF m 171 #[.val (.int x0), .val (.int x1), .val (.int (x0 &&& (3 : Int32))), .val (.int z2), .val (.double (FP.dsub FP.dconst1 (FP.ddiv (FP.i2d (x1 &&& (255 : Int32))) (4697254411347427328 : UInt64)))), .second, .unset, .unset, .val (.int (x1 &&& (255 : Int32))), .unset] [])) (fun _ k => XS.ifNo X0.here hx rfl (hb hby at_168) rfl ((if0 _ _).trans (teq hc22).2) k) ?_
            refine OGo.go (U' := T0.setTop (mkF m 172 #[.val (.int x0), .val (.int x1), .val (.int (x0 &&& (3 : Int32))), .val (.int z2), .val (.double (FP.dsub FP.dconst1 (FP.ddiv (FP.i2d (x1 &&& (255 : Int32))) (4697254411347427328 : UInt64)))), .second, .unset, .unset, .val (.int (x1 &&& (255 : Int32))), .unset] [(.int (1 : Int32))])) (fun _ k => XS.iconst X0.here hx rfl (hb hby at_171) k) ?_
            refine OGo.go (U' := T0.setTop (mkF m 176 #[.val (.int x0), .val (.int x1), .val (.int (x0 &&& (3 : Int32))), .val (.int z2), .val (.double (FP.dsub FP.dconst1 (FP.ddiv (FP.i2d (x1 &&& (255 : Int32))) (4697254411347427328 : UInt64)))), .second, .unset, .unset, .val (.int (x1 &&& (255 : Int32))), .unset] [(.int (1 : Int32))])) (fun _ k => XS.goto X0.here hx rfl (pc0 := 172) (pc' := 176) rfl (hb hby at_172) (by decide) (by decide) k) ?_
            exact k24
          · skip
            refine OGo.go (U' := T0.setTop (mkF m 175 #[.val (.int x0), .val (.int x1), .val (.int (x0 &&& (3 : Int32))), .val (.int z2), .val (.double (FP.dsub FP.dconst1 (FP.ddiv (FP.i2d (x1 &&& (255 : Int32))) (4697254411347427328 : UInt64)))), .second, .unset, .unset, .val (.int (x1 &&& (255 : Int32))), .unset] [])) (fun _ k => XS.ifYes X0.here hx rfl (pc0 := 168) (pc' := 175) rfl (hb hby at_168) rfl ((if0 _ _).trans (feq hc22).2) (by decide) (by decide) k) ?_
            refine OGo.go (U' := T0.setTop (mkF m 176 #[.val (.int x0), .val (.int x1), .val (.int (x0 &&& (3 : Int32))), .val (.int z2), .val (.double (FP.dsub FP.dconst1 (FP.ddiv (FP.i2d (x1 &&& (255 : Int32))) (4697254411347427328 : UInt64)))), .second, .unset, .unset, .val (.int (x1 &&& (255 : Int32))), .unset] [(.int (0 : Int32))])) (fun _ k => XS.iconst X0.here hx rfl (hb hby at_175) k) ?_
            exact k24
          intro z23 hz23
          refine OGo.go (U' := T0.setTop (mkF m 178 #[.val (.int x0), .val (.int x1), .val (.int (x0 &&& (3 : Int32))), .val (.int z2), .val (.double (FP.dsub FP.dconst1 (FP.ddiv (FP.i2d (x1 &&& (255 : Int32))) (4697254411347427328 : UInt64)))), .second, .val (.int z23), .unset, .val (.int (x1 &&& (255 : Int32))), .unset] [])) (fun _ k => XS.istore X0.here hx rfl (hb hby at_176) rfl (l' := #[.val (.int x0), .val (.int x1), .val (.int (x0 &&& (3 : Int32))), .val (.int z2), .val (.double (FP.dsub FP.dconst1 (FP.ddiv (FP.i2d (x1 &&& (255 : Int32))) (4697254411347427328 : UInt64)))), .second, .val (.int z23), .unset, .val (.int (x1 &&& (255 : Int32))), .unset]) rfl k) ?_
          refine OGo.go (U' := T0.setTop (mkF m 179 #[.val (.int x0), .val (.int x1), .val (.int (x0 &&& (3 : Int32))), .val (.int z2), .val (.double (FP.dsub FP.dconst1 (FP.ddiv (FP.i2d (x1 &&& (255 : Int32))) (4697254411347427328 : UInt64)))), .second, .val (.int z23), .unset, .val (.int (x1 &&& (255 : Int32))), .unset] [(.int (1 : Int32))])) (fun _ k => XS.iconst X0.here hx rfl (hb hby at_178) k) ?_
          refine OGo.go (U' := T0.setTop (mkF m 181 #[.val (.int x0), .val (.int x1), .val (.int (x0 &&& (3 : Int32))), .val (.int z2), .val (.double (FP.dsub FP.dconst1 (FP.ddiv (FP.i2d (x1 &&& (255 : Int32))) (4697254411347427328 : UInt64)))), .second, .val (.int z23), .val (.int (1 : Int32)), .val (.int (x1 &&& (255 : Int32))), .unset] [])) (fun _ k => XS.istore X0.here hx rfl (hb hby at_179) rfl (l' := #[.val (.int x0), .val (.int x1), .val (.int (x0 &&& (3 : Int32))), .val (.int z2), .val (.double (FP.dsub FP.dconst1 (FP.ddiv (FP.i2d (x1 &&& (255 : Int32))) (4697254411347427328 : UInt64)))), .second, .val (.int z23), .val (.int (1 : Int32)), .val (.int (x1 &&& (255 : Int32))), .unset]) rfl k) ?_
          exact tail ((FP.dsub FP.dconst1 (FP.ddiv (FP.i2d (x1 &&& (255 : Int32))) (4697254411347427328 : UInt64))), z23, (1 : Int32), (x1 &&& (255 : Int32))) (own_mode_3 hz2 hc4 hc8 hc15 hz23)
  obtain ⟨d, ge, po, u⟩ := q
  dsimp only at hq ⊢
  refine OGo.go (U' := T0.setTop (mkF m 183 #[.val (.int x0), .val (.int x1), .val (.int (x0 &&& (3 : Int32))), .val (.int z2), .val (.double d), .second, .val (.int ge), .val (.int po), .val (.int u), .unset] [(.int ge)])) (fun _ k => XS.iload X0.here hx rfl (hb hby at_181) rfl k) ?_
  by_cases hc25 : ge = (0 : Int32)
  · skip
    refine OGo.go (U' := T0.setTop (mkF m 194 #[.val (.int x0), .val (.int x1), .val (.int (x0 &&& (3 : Int32))), .val (.int z2), .val (.double d), .second, .val (.int ge), .val (.int po), .val (.int u), .unset] [])) (fun _ k => XS.ifYes X0.here hx rfl (pc0 := 183) (pc' := 194) rfl (hb hby at_183) rfl ((if0 _ _).trans (teq hc25).1) (by decide) (by decide) k) ?_
    refine OGo.go (U' := T0.setTop (mkF m 195 #[.val (.int x0), .val (.int x1), .val (.int (x0 &&& (3 : Int32))), .val (.int z2), .val (.double d), .second, .val (.int ge), .val (.int po), .val (.int u), .unset] [(.int z2)])) (fun _ k => XS.iloadN X0.here hx rfl (hb hby at_194) rfl k) ?_
    by_cases hc26 : z2 = (0 : Int32)
    · skip
      refine OGo.go (U' := T0.setTop (mkF m 206 #[.val (.int x0), .val (.int x1), .val (.int (x0 &&& (3 : Int32))), .val (.int z2), .val (.double d), .second, .val (.int ge), .val (.int po), .val (.int u), .unset] [])) (fun _ k => XS.ifYes X0.here hx rfl (pc0 := 195) (pc' := 206) rfl (hb hby at_195) rfl ((if0 _ _).trans (teq hc26).1) (by decide) (by decide) k) ?_
      refine OGo.go (U' := T0.setTop (mkF m 208 #[.val (.int x0), .val (.int x1), .val (.int (x0 &&& (3 : Int32))), .val (.int z2), .val (.double d), .second, .val (.int ge), .val (.int po), .val (.int u), .unset] [(.int po)])) (fun _ k => XS.iload X0.here hx rfl (hb hby at_206) rfl k) ?_
      by_cases hc27 : po = (0 : Int32)
      · skip
        refine OGo.go (U' := T0.setTop (mkF m 219 #[.val (.int x0), .val (.int x1), .val (.int (x0 &&& (3 : Int32))), .val (.int z2), .val (.double d), .second, .val (.int ge), .val (.int po), .val (.int u), .unset] [])) (fun _ k => XS.ifYes X0.here hx rfl (pc0 := 208) (pc' := 219) rfl (hb hby at_208) rfl ((if0 _ _).trans (teq hc27).1) (by decide) (by decide) k) ?_
        obtain ⟨T28, X28, e28, st28⟩ := getS2 X0 hx hZ hown (host := "") (Or.inl (hw _ (List.mem_of_getElem? (i := 13) rfl))) Via.refl e0 S3 (g := (mkF m 219 #[.val (.int x0), .val (.int x1), .val (.int (x0 &&& (3 : Int32))), .val (.int z2), .val (.double d), .second, .val (.int ge), .val (.int po), .val (.int u), .unset] [])) rfl (hb hby at_219)
        refine OGo.go (U' := T28.setTop (mkF m 222 #[.val (.int x0), .val (.int x1), .val (.int (x0 &&& (3 : Int32))), .val (.int z2), .val (.double d), .second, .val (.int ge), .val (.int po), .val (.int u), .unset] [(.ref r3)])) st28 ?_
        refine OGo.go (U' := T28.setTop (mkF m 224 #[.val (.int x0), .val (.int x1), .val (.int (x0 &&& (3 : Int32))), .val (.int z2), .val (.double d), .second, .val (.int ge), .val (.int po), .val (.ref r3), .unset] [])) (fun _ k => XS.astore X28.here hx rfl (hb hby at_222) rfl rfl (l' := #[.val (.int x0), .val (.int x1), .val (.int (x0 &&& (3 : Int32))), .val (.int z2), .val (.double d), .second, .val (.int ge), .val (.int po), .val (.ref r3), .unset]) rfl k) ?_
        refine OGo.go (U' := T28.setTop (mkF m 226 #[.val (.int x0), .val (.int x1), .val (.int (x0 &&& (3 : Int32))), .val (.int z2), .val (.double d), .second, .val (.int ge), .val (.int po), .val (.ref r3), .unset] [(.double d)])) (fun _ k => XS.dload X28.here hx rfl (hb hby at_224) rfl k) ?_
        refine OGo.go (U' := T28.setTop (mkF m 227 #[.val (.int x0), .val (.int x1), .val (.int (x0 &&& (3 : Int32))), .val (.int z2), .val (.double d), .second, .val (.int ge), .val (.int po), .val (.ref r3), .unset] [(.int z2), (.double d)])) (fun _ k => XS.iloadN X28.here hx rfl (hb hby at_226) rfl k) ?_
        refine OGo.callS X28 hx hZ (y := (⟨"com/example/sieveplan/sieveplan/plan/Pricing$Reduction", "of", "(DZ)Lcom/example/sieveplan/sieveplan/plan/Pricing$Reduction;"⟩ : MethodName)) hown (hw _ (List.mem_of_getElem? (i := 5) rfl)) (hw _ (List.mem_of_getElem? (i := 6) rfl)) (hw _ (List.mem_of_getElem? (i := 3) rfl)) (hw _ (List.mem_of_getElem? (i := 7) rfl)) (by decide) (g := (mkF m 227 #[.val (.int x0), .val (.int x1), .val (.int (x0 &&& (3 : Int32))), .val (.int z2), .val (.double d), .second, .val (.int ge), .val (.int po), .val (.ref r3), .unset] [(.int z2), (.double d)])) (argsL := [(.double d), (.int z2)]) (rest := []) e28 (rm_of l Z a0 hw d z2 r0 r1 r2 r3 h0 S0 S1 S2 S3) rfl (by rw [hml]; rfl) (lenOf pd_0 rfl) rfl (W := 0) (by show 2 * 0 + _ ≤ _; exact Nat.le_of_eq rfl) (hb hby at_227) (by decide) (by decide) (by decide) (by decide) ?_
        rintro _ T29 _ X29 ⟨rfl, e29, rfl⟩
        rw [List.append_nil] at X29
        refine OGo.go (U' := T29.setTop (mkF m 232 #[.val (.int x0), .val (.int x1), .val (.int (x0 &&& (3 : Int32))), .val (.int z2), .val (.double d), .second, .val (.int ge), .val (.int po), .val (.ref r3), .val (.ref (F_of d z2 r0 r1 r2 r3))] [])) (fun _ k => XS.astore X29.here hx rfl (hb hby at_230) rfl rfl (l' := #[.val (.int x0), .val (.int x1), .val (.int (x0 &&& (3 : Int32))), .val (.int z2), .val (.double d), .second, .val (.int ge), .val (.int po), .val (.ref r3), .val (.ref (F_of d z2 r0 r1 r2 r3))]) rfl k) ?_
        refine OGo.go (U' := T29.setTop (mkF m 234 #[.val (.int x0), .val (.int x1), .val (.int (x0 &&& (3 : Int32))), .val (.int z2), .val (.double d), .second, .val (.int ge), .val (.int po), .val (.ref r3), .val (.ref (F_of d z2 r0 r1 r2 r3))] [(.ref (F_of d z2 r0 r1 r2 r3))])) (fun _ k => XS.aload X29.here hx rfl (hb hby at_232) rfl rfl k) ?_
        refine OGo.go (U' := T29.setTop (mkF m 236 #[.val (.int x0), .val (.int x1), .val (.int (x0 &&& (3 : Int32))), .val (.int z2), .val (.double d), .second, .val (.int ge), .val (.int po), .val (.ref r3), .val (.ref (F_of d z2 r0 r1 r2 r3))] [(.ref r3), (.ref (F_of d z2 r0 r1 r2 r3))])) (fun _ k => XS.aload X29.here hx rfl (hb hby at_234) rfl rfl k) ?_
        refine OGo.ite1 (P := (F_of d z2 r0 r1 r2 r3) = r3) (fun (z31 : Int32) => T29.setTop (mkF m 244 #[.val (.int x0), .val (.int x1), .val (.int (x0 &&& (3 : Int32))), .val (.int z2), .val (.double d), .second, .val (.int ge), .val (.int po), .val (.ref r3), .val (.ref (F_of d z2 r0 r1 r2 r3))] [(.int z31)])) (x := (1 : Int32)) (y := (0 : Int32)) (fun hc30 k32 => ?_) (fun hc30 k32 => ?_) ?_
        · skip
          refine OGo.go (U' := T29.setTop (mkF m 239 #[.val (.int x0), .val (.int x1), .val (.int (x0 &&& (3 : Int32))), .val (.int z2), .val (.double d), .second, .val (.int ge), .val (.int po), .val (.ref r3), .val (.ref (F_of d z2 r0 r1 r2 r3))] [])) (fun _ k => Jvm.RoadKit.acmp (g := (mkF m 236 #[.val (.int x0), .val (.int x1), .val (.int (x0 &&& (3 : Int32))), .val (.int z2), .val (.double d), .second, .val (.int ge), .val (.int po), .val (.ref r3), .val (.ref (F_of d z2 r0 r1 r2 r3))] [(.ref r3), (.ref (F_of d z2 r0 r1 r2 r3))])) X29 hx rfl rfl rfl (pc0 := 236) (pc' := 239) (same := true) rfl (hb hby at_236) rfl (decide_eq_true (congrArg Value.ref hc30)) (by decide) (by decide) k) ?_
          refine OGo.go (U' := T29.setTop (mkF m 240 #[.val (.int x0), .val (.int x1), .val (.int (x0 &&& (3 : Int32))), .val (.int z2), .val (.double d), .second, .val (.int ge), .val (.int po), .val (.ref r3), .val (.ref (F_of d z2 r0 r1 r2 r3))] [(.int (1 : Int32))])) (fun _ k => XS.iconst X29.here hx rfl (hb hby at_239) k) ?_
          refine OGo.go (U' := T29.setTop (mkF m 244 #[.val (.int x0), .val (.int x1), .val (.int (x0 &&& (3 : Int32))), .val (.int z2), .val (.double d), .second, .val (.int ge), .val (.int po), .val (.ref r3), .val (.ref (F_of d z2 r0 r1 r2 r3))] [(.int (1 : Int32))])) (fun _ k => XS.goto X29.here hx rfl (pc0 := 240) (pc' := 244) rfl (hb hby at_240) (by decide) (by decide) k) ?_
          exact k32
        · skip
          refine OGo.go (U' := T29.setTop (mkF m 243 #[.val (.int x0), .val (.int x1), .val (.int (x0 &&& (3 : Int32))), .val (.int z2), .val (.double d), .second, .val (.int ge), .val (.int po), .val (.ref r3), .val (.ref (F_of d z2 r0 r1 r2 r3))] [])) (fun _ k => Jvm.RoadKit.acmp (g := (mkF m 236 #[.val (.int x0), .val (.int x1), .val (.int (x0 &&& (3 : Int32))), .val (.int z2), .val (.double d), .second, .val (.int ge), .val (.int po), .val (.ref r3), .val (.ref (F_of d z2 r0 r1 r2 r3))] [(.ref r3), (.ref (F_of d z2 r0 r1 r2 r3))])) X29 hx rfl rfl rfl (pc0 := 236) (pc' := 243) (same := false) rfl (hb hby at_236) rfl (decide_eq_false fun q => hc30 (Value.ref.inj q)) (by decide) (by decide) k) ?_
          refine OGo.go (U' := T29.setTop (mkF m 244 #[.val (.int x0), .val (.int x1), .val (.int (x0 &&& (3 : Int32))), .val (.int z2), .val (.double d), .second, .val (.int ge), .val (.int po), .val (.ref r3), .val (.ref (F_of d z2 r0 r1 r2 r3))] [(.int (0 : Int32))])) (fun _ k => XS.iconst X29.here hx rfl (hb hby at_243) k) ?_
          exact k32
        intro z31 hz31
        refine OGo.retN X29 hx (t := .boolean) hret hlk (by simp) (hb hby at_244) ?_ (by decide) (by decide)
        exact ⟨own_ret_0 hz2 hq hc25 hc26 hc27 hz31, Fr.nil _⟩
      · skip
        refine OGo.go (U' := T0.setTop (mkF m 211 #[.val (.int x0), .val (.int x1), .val (.int (x0 &&& (3 : Int32))), .val (.int z2), .val (.double d), .second, .val (.int ge), .val (.int po), .val (.int u), .unset] [])) (fun _ k => XS.ifNo X0.here hx rfl (hb hby at_208) rfl ((if0 _ _).trans (feq hc27).1) k) ?_
        obtain ⟨T33, X33, e33, st33⟩ := getS2 X0 hx hZ hown (host := "") (Or.inl (hw _ (List.mem_of_getElem? (i := 2) rfl))) Via.refl e0 S2 (g := (mkF m 211 #[.val (.int x0), .val (.int x1), .val (.int (x0 &&& (3 : Int32))), .val (.int z2), .val (.double d), .second, .val (.int ge), .val (.int po), .val (.int u), .unset] [])) rfl (hb hby at_211)
        refine OGo.go (U' := T33.setTop (mkF m 214 #[.val (.int x0), .val (.int x1), .val (.int (x0 &&& (3 : Int32))), .val (.int z2), .val (.double d), .second, .val (.int ge), .val (.int po), .val (.int u), .unset] [(.ref r2)])) st33 ?_
        refine OGo.go (U' := T33.setTop (mkF m 216 #[.val (.int x0), .val (.int x1), .val (.int (x0 &&& (3 : Int32))), .val (.int z2), .val (.double d), .second, .val (.int ge), .val (.int po), .val (.ref r2), .unset] [])) (fun _ k => XS.astore X33.here hx rfl (hb hby at_214) rfl rfl (l' := #[.val (.int x0), .val (.int x1), .val (.int (x0 &&& (3 : Int32))), .val (.int z2), .val (.double d), .second, .val (.int ge), .val (.int po), .val (.ref r2), .unset]) rfl k) ?_
        refine OGo.go (U' := T33.setTop (mkF m 224 #[.val (.int x0), .val (.int x1), .val (.int (x0 &&& (3 : Int32))), .val (.int z2), .val (.double d), .second, .val (.int ge), .val (.int po), .val (.ref r2), .unset] [])) (fun _ k => XS.goto X33.here hx rfl (pc0 := 216) (pc' := 224) rfl (hb hby at_216) (by decide) (by decide) k) ?_
        refine OGo.go (U' := T33.setTop (mkF m 226 #[.val (.int x0), .val (.int x1), .val (.int (x0 &&& (3 : Int32))), .val (.int z2), .val (.double d), .second, .val (.int ge), .val (.int po), .val (.ref r2), .unset] [(.double d)])) (fun _ k => XS.dload X33.here hx rfl (hb hby at_224) rfl k) ?_
        refine OGo.go (U' := T33.setTop (mkF m 227 #[.val (.int x0), .val (.int x1), .val (.int (x0 &&& (3 : Int32))), .val (.int z2), .val (.double d), .second, .val (.int ge), .val (.int po), .val (.ref r2), .unset] [(.int z2), (.double d)])) (fun _ k => XS.iloadN X33.here hx rfl (hb hby at_226) rfl k) ?_
        refine OGo.callS X33 hx hZ (y := (⟨"com/example/sieveplan/sieveplan/plan/Pricing$Reduction", "of", "(DZ)Lcom/example/sieveplan/sieveplan/plan/Pricing$Reduction;"⟩ : MethodName)) hown (hw _ (List.mem_of_getElem? (i := 5) rfl)) (hw _ (List.mem_of_getElem? (i := 6) rfl)) (hw _ (List.mem_of_getElem? (i := 3) rfl)) (hw _ (List.mem_of_getElem? (i := 7) rfl)) (by decide) (g := (mkF m 227 #[.val (.int x0), .val (.int x1), .val (.int (x0 &&& (3 : Int32))), .val (.int z2), .val (.double d), .second, .val (.int ge), .val (.int po), .val (.ref r2), .unset] [(.int z2), (.double d)])) (argsL := [(.double d), (.int z2)]) (rest := []) e33 (rm_of l Z a0 hw d z2 r0 r1 r2 r3 h0 S0 S1 S2 S3) rfl (by rw [hml]; rfl) (lenOf pd_0 rfl) rfl (W := 0) (by show 2 * 0 + _ ≤ _; exact Nat.le_of_eq rfl) (hb hby at_227) (by decide) (by decide) (by decide) (by decide) ?_
        rintro _ T34 _ X34 ⟨rfl, e34, rfl⟩
        rw [List.append_nil] at X34
        refine OGo.go (U' := T34.setTop (mkF m 232 #[.val (.int x0), .val (.int x1), .val (.int (x0 &&& (3 : Int32))), .val (.int z2), .val (.double d), .second, .val (.int ge), .val (.int po), .val (.ref r2), .val (.ref (F_of d z2 r0 r1 r2 r3))] [])) (fun _ k => XS.astore X34.here hx rfl (hb hby at_230) rfl rfl (l' := #[.val (.int x0), .val (.int x1), .val (.int (x0 &&& (3 : Int32))), .val (.int z2), .val (.double d), .second, .val (.int ge), .val (.int po), .val (.ref r2), .val (.ref (F_of d z2 r0 r1 r2 r3))]) rfl k) ?_
        refine OGo.go (U' := T34.setTop (mkF m 234 #[.val (.int x0), .val (.int x1), .val (.int (x0 &&& (3 : Int32))), .val (.int z2), .val (.double d), .second, .val (.int ge), .val (.int po), .val (.ref r2), .val (.ref (F_of d z2 r0 r1 r2 r3))] [(.ref (F_of d z2 r0 r1 r2 r3))])) (fun _ k => XS.aload X34.here hx rfl (hb hby at_232) rfl rfl k) ?_
        refine OGo.go (U' := T34.setTop (mkF m 236 #[.val (.int x0), .val (.int x1), .val (.int (x0 &&& (3 : Int32))), .val (.int z2), .val (.double d), .second, .val (.int ge), .val (.int po), .val (.ref r2), .val (.ref (F_of d z2 r0 r1 r2 r3))] [(.ref r2), (.ref (F_of d z2 r0 r1 r2 r3))])) (fun _ k => XS.aload X34.here hx rfl (hb hby at_234) rfl rfl k) ?_
        refine OGo.ite1 (P := (F_of d z2 r0 r1 r2 r3) = r2) (fun (z36 : Int32) => T34.setTop (mkF m 244 #[.val (.int x0), .val (.int x1), .val (.int (x0 &&& (3 : Int32))), .val (.int z2), .val (.double d), .second, .val (.int ge), .val (.int po), .val (.ref r2), .val (.ref (F_of d z2 r0 r1 r2 r3))] [(.int z36)])) (x := (1 : Int32)) (y := (0 : Int32)) (fun hc35 k37 => ?_) (fun hc35 k37 => ?_) ?_
        · skip
          refine OGo.go (U' := T34.setTop (mkF m 239 #[.val (.int x0), .val (.int x1), .val (.int (x0 &&& (3 : Int32))), .val (.int z2), .val (.double d), .second, .val (.int ge), .val (.int po), .val (.ref r2), .val (.ref (F_of d z2 r0 r1 r2 r3))] [])) (fun _ k => Jvm.RoadKit.acmp (g := (mkF m 236 #[.val (.int x0), .val (.int x1), .val (.int (x0 &&& (3 : Int32))), .val (.int z2), .val (.double d), .second, .val (.int ge), .val (.int po), .val (.ref r2), .val (.ref (F_of d z2 r0 r1 r2 r3))] [(.ref r2), (.ref (F_of d z2 r0 r1 r2 r3))])) X34 hx rfl rfl rfl (pc0 := 236) (pc' := 239) (same := true) rfl (hb hby at_236) rfl (decide_eq_true (congrArg Value.ref hc35)) (by decide) (by decide) k) ?_
          refine OGo.go (U' := T34.setTop (mkF m 240 #[.val (.int x0), .val (.int x1), .val (.int (x0 &&& (3 : Int32))), .val (.int z2), .val (.double d), .second, .val (.int ge), .val (.int po), .val (.ref r2), .val (.ref (F_of d z2 r0 r1 r2 r3))] [(.int (1 : Int32))])) (fun _ k => XS.iconst X34.here hx rfl (hb hby at_239) k) ?_
          refine OGo.go (U' := T34.setTop (mkF m 244 #[.val (.int x0), .val (.int x1), .val (.int (x0 &&& (3 : Int32))), .val (.int z2), .val (.double d), .second, .val (.int ge), .val (.int po), .val (.ref r2), .val (.ref (F_of d z2 r0 r1 r2 r3))] [(.int (1 : Int32))])) (fun _ k => XS.goto X34.here hx rfl (pc0 := 240) (pc' := 244) rfl (hb hby at_240) (by decide) (by decide) k) ?_
          exact k37
        · skip
          refine OGo.go (U' := T34.setTop (mkF m 243 #[.val (.int x0), .val (.int x1), .val (.int (x0 &&& (3 : Int32))), .val (.int z2), .val (.double d), .second, .val (.int ge), .val (.int po), .val (.ref r2), .val (.ref (F_of d z2 r0 r1 r2 r3))] [])) (fun _ k => Jvm.RoadKit.acmp (g := (mkF m 236 #[.val (.int x0), .val (.int x1), .val (.int (x0 &&& (3 : Int32))), .val (.int z2), .val (.double d), .second, .val (.int ge), .val (.int po), .val (.ref r2), .val (.ref (F_of d z2 r0 r1 r2 r3))] [(.ref r2), (.ref (F_of d z2 r0 r1 r2 r3))])) X34 hx rfl rfl rfl (pc0 := 236) (pc' := 243) (same := false) rfl (hb hby at_236) rfl (decide_eq_false fun q => hc35 (Value.ref.inj q)) (by decide) (by decide) k) ?_
          refine OGo.go (U' := T34.setTop (mkF m 244 #[.val (.int x0), .val (.int x1), .val (.int (x0 &&& (3 : Int32))), .val (.int z2), .val (.double d), .second, .val (.int ge), .val (.int po), .val (.ref r2), .val (.ref (F_of d z2 r0 r1 r2 r3))] [(.int (0 : Int32))])) (fun _ k => XS.iconst X34.here hx rfl (hb hby at_243) k) ?_
          exact k37
        intro z36 hz36
        refine OGo.retN X34 hx (t := .boolean) hret hlk (by simp) (hb hby at_244) ?_ (by decide) (by decide)
        exact ⟨own_ret_1 hz2 hq hc25 hc26 hc27 hz36, Fr.nil _⟩
    · skip
      refine OGo.go (U' := T0.setTop (mkF m 198 #[.val (.int x0), .val (.int x1), .val (.int (x0 &&& (3 : Int32))), .val (.int z2), .val (.double d), .second, .val (.int ge), .val (.int po), .val (.int u), .unset] [])) (fun _ k => XS.ifNo X0.here hx rfl (hb hby at_195) rfl ((if0 _ _).trans (feq hc26).1) k) ?_
      obtain ⟨T38, X38, e38, st38⟩ := getS2 X0 hx hZ hown (host := "") (Or.inl (hw _ (List.mem_of_getElem? (i := 10) rfl))) Via.refl e0 S1 (g := (mkF m 198 #[.val (.int x0), .val (.int x1), .val (.int (x0 &&& (3 : Int32))), .val (.int z2), .val (.double d), .second, .val (.int ge), .val (.int po), .val (.int u), .unset] [])) rfl (hb hby at_198)
      refine OGo.go (U' := T38.setTop (mkF m 201 #[.val (.int x0), .val (.int x1), .val (.int (x0 &&& (3 : Int32))), .val (.int z2), .val (.double d), .second, .val (.int ge), .val (.int po), .val (.int u), .unset] [(.ref r1)])) st38 ?_
      refine OGo.go (U' := T38.setTop (mkF m 203 #[.val (.int x0), .val (.int x1), .val (.int (x0 &&& (3 : Int32))), .val (.int z2), .val (.double d), .second, .val (.int ge), .val (.int po), .val (.ref r1), .unset] [])) (fun _ k => XS.astore X38.here hx rfl (hb hby at_201) rfl rfl (l' := #[.val (.int x0), .val (.int x1), .val (.int (x0 &&& (3 : Int32))), .val (.int z2), .val (.double d), .second, .val (.int ge), .val (.int po), .val (.ref r1), .unset]) rfl k) ?_
      refine OGo.go (U' := T38.setTop (mkF m 224 #[.val (.int x0), .val (.int x1), .val (.int (x0 &&& (3 : Int32))), .val (.int z2), .val (.double d), .second, .val (.int ge), .val (.int po), .val (.ref r1), .unset] [])) (fun _ k => XS.goto X38.here hx rfl (pc0 := 203) (pc' := 224) rfl (hb hby at_203) (by decide) (by decide) k) ?_
      refine OGo.go (U' := T38.setTop (mkF m 226 #[.val (.int x0), .val (.int x1), .val (.int (x0 &&& (3 : Int32))), .val (.int z2), .val (.double d), .second, .val (.int ge), .val (.int po), .val (.ref r1), .unset] [(.double d)])) (fun _ k => XS.dload X38.here hx rfl (hb hby at_224) rfl k) ?_
      refine OGo.go (U' := T38.setTop (mkF m 227 #[.val (.int x0), .val (.int x1), .val (.int (x0 &&& (3 : Int32))), .val (.int z2), .val (.double d), .second, .val (.int ge), .val (.int po), .val (.ref r1), .unset] [(.int z2), (.double d)])) (fun _ k => XS.iloadN X38.here hx rfl (hb hby at_226) rfl k) ?_
      refine OGo.callS X38 hx hZ (y := (⟨"com/example/sieveplan/sieveplan/plan/Pricing$Reduction", "of", "(DZ)Lcom/example/sieveplan/sieveplan/plan/Pricing$Reduction;"⟩ : MethodName)) hown (hw _ (List.mem_of_getElem? (i := 5) rfl)) (hw _ (List.mem_of_getElem? (i := 6) rfl)) (hw _ (List.mem_of_getElem? (i := 3) rfl)) (hw _ (List.mem_of_getElem? (i := 7) rfl)) (by decide) (g := (mkF m 227 #[.val (.int x0), .val (.int x1), .val (.int (x0 &&& (3 : Int32))), .val (.int z2), .val (.double d), .second, .val (.int ge), .val (.int po), .val (.ref r1), .unset] [(.int z2), (.double d)])) (argsL := [(.double d), (.int z2)]) (rest := []) e38 (rm_of l Z a0 hw d z2 r0 r1 r2 r3 h0 S0 S1 S2 S3) rfl (by rw [hml]; rfl) (lenOf pd_0 rfl) rfl (W := 0) (by show 2 * 0 + _ ≤ _; exact Nat.le_of_eq rfl) (hb hby at_227) (by decide) (by decide) (by decide) (by decide) ?_
      rintro _ T39 _ X39 ⟨rfl, e39, rfl⟩
      rw [List.append_nil] at X39
      refine OGo.go (U' := T39.setTop (mkF m 232 #[.val (.int x0), .val (.int x1), .val (.int (x0 &&& (3 : Int32))), .val (.int z2), .val (.double d), .second, .val (.int ge), .val (.int po), .val (.ref r1), .val (.ref (F_of d z2 r0 r1 r2 r3))] [])) (fun _ k => XS.astore X39.here hx rfl (hb hby at_230) rfl rfl (l' := #[.val (.int x0), .val (.int x1), .val (.int (x0 &&& (3 : Int32))), .val (.int z2), .val (.double d), .second, .val (.int ge), .val (.int po), .val (.ref r1), .val (.ref (F_of d z2 r0 r1 r2 r3))]) rfl k) ?_
      refine OGo.go (U' := T39.setTop (mkF m 234 #[.val (.int x0), .val (.int x1), .val (.int (x0 &&& (3 : Int32))), .val (.int z2), .val (.double d), .second, .val (.int ge), .val (.int po), .val (.ref r1), .val (.ref (F_of d z2 r0 r1 r2 r3))] [(.ref (F_of d z2 r0 r1 r2 r3))])) (fun _ k => XS.aload X39.here hx rfl (hb hby at_232) rfl rfl k) ?_
      refine OGo.go (U' := T39.setTop (mkF m 236 #[.val (.int x0), .val (.int x1), .val (.int (x0 &&& (3 : Int32))), .val (.int z2), .val (.double d), .second, .val (.int ge), .val (.int po), .val (.ref r1), .val (.ref (F_of d z2 r0 r1 r2 r3))] [(.ref r1), (.ref (F_of d z2 r0 r1 r2 r3))])) (fun _ k => XS.aload X39.here hx rfl (hb hby at_234) rfl rfl k) ?_
      refine OGo.ite1 (P := (F_of d z2 r0 r1 r2 r3) = r1) (fun (z41 : Int32) => T39.setTop (mkF m 244 #[.val (.int x0), .val (.int x1), .val (.int (x0 &&& (3 : Int32))), .val (.int z2), .val (.double d), .second, .val (.int ge), .val (.int po), .val (.ref r1), .val (.ref (F_of d z2 r0 r1 r2 r3))] [(.int z41)])) (x := (1 : Int32)) (y := (0 : Int32)) (fun hc40 k42 => ?_) (fun hc40 k42 => ?_) ?_
      · skip
        refine OGo.go (U' := T39.setTop (mkF m 239 #[.val (.int x0), .val (.int x1), .val (.int (x0 &&& (3 : Int32))), .val (.int z2), .val (.double d), .second, .val (.int ge), .val (.int po), .val (.ref r1), .val (.ref (F_of d z2 r0 r1 r2 r3))] [])) (fun _ k => Jvm.RoadKit.acmp (g := (mkF m 236 #[.val (.int x0), .val (.int x1), .val (.int (x0 &&& (3 : Int32))), .val (.int z2), .val (.double d), .second, .val (.int ge), .val (.int po), .val (.ref r1), .val (.ref (F_of d z2 r0 r1 r2 r3))] [(.ref r1), (.ref (F_of d z2 r0 r1 r2 r3))])) X39 hx rfl rfl rfl (pc0 := 236) (pc' := 239) (same := true) rfl (hb hby at_236) rfl (decide_eq_true (congrArg Value.ref hc40)) (by decide) (by decide) k) ?_
        refine OGo.go (U' := T39.setTop (mkF m 240 #[.val (.int x0), .val (.int x1), .val (.int (x0 &&& (3 : Int32))), .val (.int z2), .val (.double d), .second, .val (.int ge), .val (.int po), .val (.ref r1), .val (.ref (F_of d z2 r0 r1 r2 r3))] [(.int (1 : Int32))])) (fun _ k => XS.iconst X39.here hx rfl (hb hby at_239) k) ?_
        refine OGo.go (U' := T39.setTop (mkF m 244 #[.val (.int x0), .val (.int x1), .val (.int (x0 &&& (3 : Int32))), .val (.int z2), .val (.double d), .second, .val (.int ge), .val (.int po), .val (.ref r1), .val (.ref (F_of d z2 r0 r1 r2 r3))] [(.int (1 : Int32))])) (fun _ k => XS.goto X39.here hx rfl (pc0 := 240) (pc' := 244) rfl (hb hby at_240) (by decide) (by decide) k) ?_
        exact k42
      · skip
        refine OGo.go (U' := T39.setTop (mkF m 243 #[.val (.int x0), .val (.int x1), .val (.int (x0 &&& (3 : Int32))), .val (.int z2), .val (.double d), .second, .val (.int ge), .val (.int po), .val (.ref r1), .val (.ref (F_of d z2 r0 r1 r2 r3))] [])) (fun _ k => Jvm.RoadKit.acmp (g := (mkF m 236 #[.val (.int x0), .val (.int x1), .val (.int (x0 &&& (3 : Int32))), .val (.int z2), .val (.double d), .second, .val (.int ge), .val (.int po), .val (.ref r1), .val (.ref (F_of d z2 r0 r1 r2 r3))] [(.ref r1), (.ref (F_of d z2 r0 r1 r2 r3))])) X39 hx rfl rfl rfl (pc0 := 236) (pc' := 243) (same := false) rfl (hb hby at_236) rfl (decide_eq_false fun q => hc40 (Value.ref.inj q)) (by decide) (by decide) k) ?_
        refine OGo.go (U' := T39.setTop (mkF m 244 #[.val (.int x0), .val (.int x1), .val (.int (x0 &&& (3 : Int32))), .val (.int z2), .val (.double d), .second, .val (.int ge), .val (.int po), .val (.ref r1), .val (.ref (F_of d z2 r0 r1 r2 r3))] [(.int (0 : Int32))])) (fun _ k => XS.iconst X39.here hx rfl (hb hby at_243) k) ?_
        exact k42
      intro z41 hz41
      refine OGo.retN X39 hx (t := .boolean) hret hlk (by simp) (hb hby at_244) ?_ (by decide) (by decide)
      exact ⟨own_ret_2 hz2 hq hc25 hc26 hz41, Fr.nil _⟩
  · skip
    refine OGo.go (U' := T0.setTop (mkF m 186 #[.val (.int x0), .val (.int x1), .val (.int (x0 &&& (3 : Int32))), .val (.int z2), .val (.double d), .second, .val (.int ge), .val (.int po), .val (.int u), .unset] [])) (fun _ k => XS.ifNo X0.here hx rfl (hb hby at_183) rfl ((if0 _ _).trans (feq hc25).1) k) ?_
    obtain ⟨T43, X43, e43, st43⟩ := getS2 X0 hx hZ hown (host := "") (Or.inl (hw _ (List.mem_of_getElem? (i := 17) rfl))) Via.refl e0 S0 (g := (mkF m 186 #[.val (.int x0), .val (.int x1), .val (.int (x0 &&& (3 : Int32))), .val (.int z2), .val (.double d), .second, .val (.int ge), .val (.int po), .val (.int u), .unset] [])) rfl (hb hby at_186)
    refine OGo.go (U' := T43.setTop (mkF m 189 #[.val (.int x0), .val (.int x1), .val (.int (x0 &&& (3 : Int32))), .val (.int z2), .val (.double d), .second, .val (.int ge), .val (.int po), .val (.int u), .unset] [(.ref r0)])) st43 ?_
    refine OGo.go (U' := T43.setTop (mkF m 191 #[.val (.int x0), .val (.int x1), .val (.int (x0 &&& (3 : Int32))), .val (.int z2), .val (.double d), .second, .val (.int ge), .val (.int po), .val (.ref r0), .unset] [])) (fun _ k => XS.astore X43.here hx rfl (hb hby at_189) rfl rfl (l' := #[.val (.int x0), .val (.int x1), .val (.int (x0 &&& (3 : Int32))), .val (.int z2), .val (.double d), .second, .val (.int ge), .val (.int po), .val (.ref r0), .unset]) rfl k) ?_
    refine OGo.go (U' := T43.setTop (mkF m 224 #[.val (.int x0), .val (.int x1), .val (.int (x0 &&& (3 : Int32))), .val (.int z2), .val (.double d), .second, .val (.int ge), .val (.int po), .val (.ref r0), .unset] [])) (fun _ k => XS.goto X43.here hx rfl (pc0 := 191) (pc' := 224) rfl (hb hby at_191) (by decide) (by decide) k) ?_
    refine OGo.go (U' := T43.setTop (mkF m 226 #[.val (.int x0), .val (.int x1), .val (.int (x0 &&& (3 : Int32))), .val (.int z2), .val (.double d), .second, .val (.int ge), .val (.int po), .val (.ref r0), .unset] [(.double d)])) (fun _ k => XS.dload X43.here hx rfl (hb hby at_224) rfl k) ?_
    refine OGo.go (U' := T43.setTop (mkF m 227 #[.val (.int x0), .val (.int x1), .val (.int (x0 &&& (3 : Int32))), .val (.int z2), .val (.double d), .second, .val (.int ge), .val (.int po), .val (.ref r0), .unset] [(.int z2), (.double d)])) (fun _ k => XS.iloadN X43.here hx rfl (hb hby at_226) rfl k) ?_
    refine OGo.callS X43 hx hZ (y := (⟨"com/example/sieveplan/sieveplan/plan/Pricing$Reduction", "of", "(DZ)Lcom/example/sieveplan/sieveplan/plan/Pricing$Reduction;"⟩ : MethodName)) hown (hw _ (List.mem_of_getElem? (i := 5) rfl)) (hw _ (List.mem_of_getElem? (i := 6) rfl)) (hw _ (List.mem_of_getElem? (i := 3) rfl)) (hw _ (List.mem_of_getElem? (i := 7) rfl)) (by decide) (g := (mkF m 227 #[.val (.int x0), .val (.int x1), .val (.int (x0 &&& (3 : Int32))), .val (.int z2), .val (.double d), .second, .val (.int ge), .val (.int po), .val (.ref r0), .unset] [(.int z2), (.double d)])) (argsL := [(.double d), (.int z2)]) (rest := []) e43 (rm_of l Z a0 hw d z2 r0 r1 r2 r3 h0 S0 S1 S2 S3) rfl (by rw [hml]; rfl) (lenOf pd_0 rfl) rfl (W := 0) (by show 2 * 0 + _ ≤ _; exact Nat.le_of_eq rfl) (hb hby at_227) (by decide) (by decide) (by decide) (by decide) ?_
    rintro _ T44 _ X44 ⟨rfl, e44, rfl⟩
    rw [List.append_nil] at X44
    refine OGo.go (U' := T44.setTop (mkF m 232 #[.val (.int x0), .val (.int x1), .val (.int (x0 &&& (3 : Int32))), .val (.int z2), .val (.double d), .second, .val (.int ge), .val (.int po), .val (.ref r0), .val (.ref (F_of d z2 r0 r1 r2 r3))] [])) (fun _ k => XS.astore X44.here hx rfl (hb hby at_230) rfl rfl (l' := #[.val (.int x0), .val (.int x1), .val (.int (x0 &&& (3 : Int32))), .val (.int z2), .val (.double d), .second, .val (.int ge), .val (.int po), .val (.ref r0), .val (.ref (F_of d z2 r0 r1 r2 r3))]) rfl k) ?_
    refine OGo.go (U' := T44.setTop (mkF m 234 #[.val (.int x0), .val (.int x1), .val (.int (x0 &&& (3 : Int32))), .val (.int z2), .val (.double d), .second, .val (.int ge), .val (.int po), .val (.ref r0), .val (.ref (F_of d z2 r0 r1 r2 r3))] [(.ref (F_of d z2 r0 r1 r2 r3))])) (fun _ k => XS.aload X44.here hx rfl (hb hby at_232) rfl rfl k) ?_
    refine OGo.go (U' := T44.setTop (mkF m 236 #[.val (.int x0), .val (.int x1), .val (.int (x0 &&& (3 : Int32))), .val (.int z2), .val (.double d), .second, .val (.int ge), .val (.int po), .val (.ref r0), .val (.ref (F_of d z2 r0 r1 r2 r3))] [(.ref r0), (.ref (F_of d z2 r0 r1 r2 r3))])) (fun _ k => XS.aload X44.here hx rfl (hb hby at_234) rfl rfl k) ?_
    refine OGo.ite1 (P := (F_of d z2 r0 r1 r2 r3) = r0) (fun (z46 : Int32) => T44.setTop (mkF m 244 #[.val (.int x0), .val (.int x1), .val (.int (x0 &&& (3 : Int32))), .val (.int z2), .val (.double d), .second, .val (.int ge), .val (.int po), .val (.ref r0), .val (.ref (F_of d z2 r0 r1 r2 r3))] [(.int z46)])) (x := (1 : Int32)) (y := (0 : Int32)) (fun hc45 k47 => ?_) (fun hc45 k47 => ?_) ?_
    · skip
      refine OGo.go (U' := T44.setTop (mkF m 239 #[.val (.int x0), .val (.int x1), .val (.int (x0 &&& (3 : Int32))), .val (.int z2), .val (.double d), .second, .val (.int ge), .val (.int po), .val (.ref r0), .val (.ref (F_of d z2 r0 r1 r2 r3))] [])) (fun _ k => Jvm.RoadKit.acmp (g := (mkF m 236 #[.val (.int x0), .val (.int x1), .val (.int (x0 &&& (3 : Int32))), .val (.int z2), .val (.double d), .second, .val (.int ge), .val (.int po), .val (.ref r0), .val (.ref (F_of d z2 r0 r1 r2 r3))] [(.ref r0), (.ref (F_of d z2 r0 r1 r2 r3))])) X44 hx rfl rfl rfl (pc0 := 236) (pc' := 239) (same := true) rfl (hb hby at_236) rfl (decide_eq_true (congrArg Value.ref hc45)) (by decide) (by decide) k) ?_
      refine OGo.go (U' := T44.setTop (mkF m 240 #[.val (.int x0), .val (.int x1), .val (.int (x0 &&& (3 : Int32))), .val (.int z2), .val (.double d), .second, .val (.int ge), .val (.int po), .val (.ref r0), .val (.ref (F_of d z2 r0 r1 r2 r3))] [(.int (1 : Int32))])) (fun _ k => XS.iconst X44.here hx rfl (hb hby at_239) k) ?_
      refine OGo.go (U' := T44.setTop (mkF m 244 #[.val (.int x0), .val (.int x1), .val (.int (x0 &&& (3 : Int32))), .val (.int z2), .val (.double d), .second, .val (.int ge), .val (.int po), .val (.ref r0), .val (.ref (F_of d z2 r0 r1 r2 r3))] [(.int (1 : Int32))])) (fun _ k => XS.goto X44.here hx rfl (pc0 := 240) (pc' := 244) rfl (hb hby at_240) (by decide) (by decide) k) ?_
      exact k47
    · skip
      refine OGo.go (U' := T44.setTop (mkF m 243 #[.val (.int x0), .val (.int x1), .val (.int (x0 &&& (3 : Int32))), .val (.int z2), .val (.double d), .second, .val (.int ge), .val (.int po), .val (.ref r0), .val (.ref (F_of d z2 r0 r1 r2 r3))] [])) (fun _ k => Jvm.RoadKit.acmp (g := (mkF m 236 #[.val (.int x0), .val (.int x1), .val (.int (x0 &&& (3 : Int32))), .val (.int z2), .val (.double d), .second, .val (.int ge), .val (.int po), .val (.ref r0), .val (.ref (F_of d z2 r0 r1 r2 r3))] [(.ref r0), (.ref (F_of d z2 r0 r1 r2 r3))])) X44 hx rfl rfl rfl (pc0 := 236) (pc' := 243) (same := false) rfl (hb hby at_236) rfl (decide_eq_false fun q => hc45 (Value.ref.inj q)) (by decide) (by decide) k) ?_
      refine OGo.go (U' := T44.setTop (mkF m 244 #[.val (.int x0), .val (.int x1), .val (.int (x0 &&& (3 : Int32))), .val (.int z2), .val (.double d), .second, .val (.int ge), .val (.int po), .val (.ref r0), .val (.ref (F_of d z2 r0 r1 r2 r3))] [(.int (0 : Int32))])) (fun _ k => XS.iconst X44.here hx rfl (hb hby at_243) k) ?_
      exact k47
    intro z46 hz46
    refine OGo.retN X44 hx (t := .boolean) hret hlk (by simp) (hb hby at_244) ?_ (by decide) (by decide)
    exact ⟨own_ret_3 hz2 hq hc25 hz46, Fr.nil _⟩
set_option maxRecDepth 65536 in
set_option maxHeartbeats 40000000 in
theorem comes_1 {Post : Tables → Env → Array Value → State → Outcome → State → Prop} (hpost : ∀ tb e args s v u, (limb_1_1.after args s (.returned v) u = true ∧ limb_1_2.after args s (.returned v) u = true ∧ True) → FrameEnd s (.returned v) u (Jvm.fieldLocs frame_1_writes args s ++ Jvm.arrayLocs frame_1_arrays args s ++ Jvm.staticLocs frame_1_statics s) 0 0 → Post tb e args s (.returned v) u) :
    ArmFor flags0 classFile x code maxLocals ret World_1 tables_1 room_1 Calls_1 rest_1 Pre_1 Post := by
  intro l hfl _ _ p e ha hc hk s m args below hf hA hF happ hP
  obtain ⟨hcalls, hrest, hpre⟩ := hP
  obtain ⟨-, -, -, hnamed, -, -, -, hat⟩ := (Spec.applies_iff hf).mp happ
  obtain ⟨hg, hn⟩ := and_e (Cond.before_iff.mp (show (Jvm.Cond.and given_1 narrow_1).before args s = true from hpre))
  obtain ⟨g0, g1⟩ := and_e hg
  obtain ⟨w0, w1, rfl⟩ : ∃ w0 w1 : Value, args = #[w0, w1] := by
    have hs : args.size = 2 := by simpa [Cond.value, given_1] using g0
    obtain ⟨L⟩ := args
    match L, hs with
    | [w0, w1], _ => exact ⟨w0, w1, rfl⟩
  have hw := fun d (hd : d ∈ tables_1) => atoms_spec (ws := Jvm.Cond.code x code maxLocals ret :: tables_1) hat d (List.mem_cons_of_mem _ hd)
  have hfit : Fit s := fun {y c} hc i hi => by
    obtain ⟨ha, rfl⟩ := Array.getElem?_eq_some_iff.mp hc
    have q := List.all_eq_true.mp ((Array.all_eq_true_iff_forall_mem.mp hF) _ (Array.getElem_mem ha)) i (List.mem_range.mpr hi)
    simpa [Array.getElem?_eq_getElem hi] using q
  obtain ⟨v0, g2⟩ := and_e g1
  obtain ⟨i0, q0⟩ := is_v v0
  obtain rfl : w0 = (.int i0) := Option.some.inj q0
  obtain ⟨i1, q1⟩ := is_v g2
  obtain rfl : w1 = (.int i1) := Option.some.inj q1
  obtain ⟨c0, d0⟩ := and_e hn
  obtain ⟨c1, d1⟩ := and_e d0
  obtain ⟨c2, d2⟩ := and_e d1
  have c3 := d2
  obtain ⟨r0, ev0, S0, E0⟩ := own_enum c3 (hw _ (List.mem_of_getElem? (i := 3) rfl)) (hw _ (List.mem_of_getElem? (i := 18) rfl))
  obtain ⟨r1, ev1, S1, E1⟩ := own_enum c1 (hw _ (List.mem_of_getElem? (i := 3) rfl)) (hw _ (List.mem_of_getElem? (i := 11) rfl))
  obtain ⟨r2, ev2, S2, E2⟩ := own_enum c0 (hw _ (List.mem_of_getElem? (i := 3) rfl)) (hw _ (List.mem_of_getElem? (i := 4) rfl))
  obtain ⟨r3, ev3, S3, E3⟩ := own_enum c2 (hw _ (List.mem_of_getElem? (i := 3) rfl)) (hw _ (List.mem_of_getElem? (i := 14) rfl))
  obtain ⟨n, o, h1, h2, h3, _, L, rfl, ⟨rfl, N⟩, hq⟩ := rm_law l s _ hw i0 i1 r0 r1 r2 r3 s.heap.size s.heap S0 S1 S2 S3 p e ha hc hk s m _ below hf ((Spec.applies_iff_loose hf).mp happ).1 ⟨rfl, State.Warmed39.refl s, rfl⟩ trivial
  refine ⟨n, _, h1, h2, h3, hpost _ _ _ _ _ _ ⟨Cond.after_iff.mpr rfl, Cond.after_iff.mpr (eq_i res_at (Term.int_eval (1)) rfl), trivial⟩ ⟨hq.1, hq.2.1, (hq.2.2.sift fun y hy => Or.inr (N y hy)).mono (by decide) (by decide)⟩⟩
theorem main_1_1 : Claimed_1_1 := comes_1 fun _ _ _ _ _ _ h hF => ⟨h.1, hF⟩
theorem main_1_2 : Claimed_1_2 := comes_1 fun _ _ _ _ _ _ h hF => ⟨h.2.1, hF⟩
end Jvm.Pilot.@@N@@
namespace Jvm.Pilot.@@N@@
open Jvm Jvm.ClassFile Sem Op Lib Jvm.Free Jvm.Stand Jvm.Pilot.@@N@@.Jvm.D
/-! MADE BY PROGRAM (witnessworld.py) out of the Statement's table words and the real class files: 12 classes; the members and pool entries that the words name. The judged class is class 1, her method 1. -/
namespace start1
open Jvm.ClassFile
def u (s : String) : CpInfo := .utf8 (stringToUtf16 s)
/-- a pool by its gaps: so many unusable entries, then the entry; so many at the end -/
def gap : Nat → List CpInfo → List CpInfo
  | 0, r => r
  | n + 1, r => .unusable :: gap n r
def poolList (es : List (Nat × CpInfo)) (last : Nat) : List CpInfo := es.foldr (fun e r => gap e.1 (e.2 :: r)) (gap last [])
def pool (es : List (Nat × CpInfo)) (last : Nat) : Array CpInfo := ⟨poolList es last⟩
def fileOf (pool : Array CpInfo) (this : Nat) (attrs : Array Attribute := #[]) (ms : Array MethodInfo := #[]) (fl : Nat := 33) (sup : Nat := 0) (ifs : Array Nat := #[]) (fds : Array FieldInfo := #[]) : ClassFile where
  minorVersion := 0
  majorVersion := 65
  constantPool := pool
  accessFlags := fl
  thisClass := this
  superClass := sup
  interfaces := ifs
  fields := fds
  methods := ms
  attributes := attrs
def plain (name : String) (sup : Option ClassId) : Class where
  name := name
  kind := .ordinary
  loader := none
  accessFlags := 33
  super := sup
  interfaces := #[]
  cf := none
  fields := #[]
  methods := #[]
  instanceTypes := #[]
  staticTypes := #[]
  resolved := #[]
  callSites := []
  init := .initialized
  statics := none
  mirror := none

def pool0 : Array CpInfo := pool [(5, u "<init>"), (0, u "()V"), (1, .class_ 10), (1, u "java/lang/Object")] 113

def k0m0 : Method := { name := "<init>", desc := "()V", sig := { parameters := [], returnType := none }, accessFlags := 1, code := none }
/-- java/lang/Object -/
def k0 : Class := { plain "java/lang/Object" none with
  accessFlags := 33
  interfaces := #[]
  cf := some (fileOf pool0 8 #[] #[{ accessFlags := 1, nameIndex := 5, descriptorIndex := 6, attributes := #[] }] 33 0 #[] #[])
  fields := #[]
  methods := #[k0m0]
  instanceTypes := #[]
  staticTypes := #[]
  resolved := Array.replicate 124 none
  statics := none }

def pool1 : Array CpInfo := pool [(2, .class_ 4), (1, u "java/lang/Object"), (0, u "<init>"), (0, u "()V"), (0, .integer 65535), (0, .double 4679240012837945344), (1, .integer 2147483647), (0, .double 4625196817309499392), (1, .double 4697254411347427328), (1, .fieldref 16 17), (0, .class_ 18), (0, .nameAndType 19 20), (0, u "com/example/sieveplan/sieveplan/plan/Pricing$Reduction"), (0, u "VALUES"), (0, u "Lcom/example/sieveplan/sieveplan/plan/Pricing$Reduction;"), (0, .fieldref 16 22), (0, .nameAndType 23 20), (0, u "ROWS"), (0, .fieldref 16 25), (0, .nameAndType 26 20), (0, u "SLIGHT"), (0, .fieldref 16 28), (0, .nameAndType 29 20), (0, u "NONE"), (0, .methodref 16 31), (0, .nameAndType 32 33), (0, u "of"), (0, u "(DZ)Lcom/example/sieveplan/sieveplan/plan/Pricing$Reduction;"), (0, .class_ 35), (0, u "com/example/sieveplan/sieveplan/plan/ReductionOfPinLaw"), (2, u "law"), (0, u "(II)Z")] 7

def k1m0 : Method := { name := "<init>", desc := "()V", sig := { parameters := [], returnType := none }, accessFlags := 1, code := none }
def k1c1 : Code := { maxStack := 6, maxLocals := 10, code := code, exceptionTable := #[], attributes := #[] }
def k1m1 : Method := { name := "law", desc := "(II)Z", sig := { parameters := [.int, .int], returnType := some .boolean }, accessFlags := 9, code := some k1c1 }
/-- com/example/sieveplan/sieveplan/plan/ReductionOfPinLaw -/
def k1 : Class := { plain "com/example/sieveplan/sieveplan/plan/ReductionOfPinLaw" (some 0) with
  accessFlags := 49
  interfaces := #[]
  cf := some (fileOf pool1 34 #[] #[{ accessFlags := 1, nameIndex := 5, descriptorIndex := 6, attributes := #[] }, { accessFlags := 9, nameIndex := 38, descriptorIndex := 39, attributes := #[] }] 49 2 #[] #[])
  fields := #[]
  methods := #[k1m0, k1m1]
  instanceTypes := #[]
  staticTypes := #[]
  resolved := Array.replicate 47 none
  statics := none }

def pool2 : Array CpInfo := pool [(1, .class_ 2), (0, u "java/lang/constant/Constable"), (0, .class_ 4), (0, u "java/lang/Object")] 6

/-- java/lang/constant/Constable -/
def k2 : Class := { plain "java/lang/constant/Constable" (some 0) with
  accessFlags := 1537
  interfaces := #[]
  cf := some (fileOf pool2 1 #[] #[] 1537 3 #[] #[])
  fields := #[]
  methods := #[]
  instanceTypes := #[]
  staticTypes := #[]
  resolved := Array.replicate 11 none
  statics := none }

def pool3 : Array CpInfo := pool [(1, .class_ 2), (0, u "java/lang/Comparable"), (0, .class_ 4), (0, u "java/lang/Object")] 7

/-- java/lang/Comparable -/
def k3 : Class := { plain "java/lang/Comparable" (some 0) with
  accessFlags := 1537
  interfaces := #[]
  cf := some (fileOf pool3 1 #[] #[] 1537 3 #[] #[])
  fields := #[]
  methods := #[]
  instanceTypes := #[]
  staticTypes := #[]
  resolved := Array.replicate 12 none
  statics := none }

def pool4 : Array CpInfo := pool [(1, .class_ 2), (0, u "java/io/Serializable"), (0, .class_ 4), (0, u "java/lang/Object")] 2

/-- java/io/Serializable -/
def k4 : Class := { plain "java/io/Serializable" (some 0) with
  accessFlags := 1537
  interfaces := #[]
  cf := some (fileOf pool4 1 #[] #[] 1537 3 #[] #[])
  fields := #[]
  methods := #[]
  instanceTypes := #[]
  staticTypes := #[]
  resolved := Array.replicate 7 none
  statics := none }

def pool5 : Array CpInfo := pool [(2, .class_ 4), (1, u "java/lang/Enum"), (0, u "name"), (0, u "Ljava/lang/String;"), (2, u "ordinal"), (0, u "I"), (1, .class_ 14), (1, u "java/lang/Object"), (4, u "hash"), (86, .class_ 108), (1, u "java/lang/Enum$EnumDesc"), (2, .class_ 112), (0, u "java/lang/constant/Constable"), (0, .class_ 114), (0, u "java/lang/Comparable"), (0, .class_ 116), (0, u "java/io/Serializable")] 87

/-- java/lang/Enum -/
def k5 : Class := { plain "java/lang/Enum" (some 0) with
  accessFlags := 1057
  interfaces := #[2, 3, 4]
  cf := some (fileOf pool5 2 #[.nestMembers #[106]] #[] 1057 12 #[111, 113, 115] #[{ accessFlags := 18, nameIndex := 5, descriptorIndex := 6, attributes := #[] }, { accessFlags := 18, nameIndex := 9, descriptorIndex := 10, attributes := #[] }, { accessFlags := 2, nameIndex := 19, descriptorIndex := 10, attributes := #[] }])
  fields := #[{ name := "name", type := (.object "java/lang/String"), accessFlags := 18, slot := 0, constantValue := 0 }, { name := "ordinal", type := .int, accessFlags := 18, slot := 1, constantValue := 0 }, { name := "hash", type := .int, accessFlags := 2, slot := 2, constantValue := 0 }]
  methods := #[]
  instanceTypes := #[(.object "java/lang/String"), .int, .int]
  staticTypes := #[]
  resolved := Array.replicate 204 none
  statics := none }

def pool6 : Array CpInfo := pool [(1, .class_ 2), (0, u "com/example/sieveplan/sieveplan/plan/Pricing$Reduction"), (0, .fieldref 1 4), (0, .nameAndType 5 6), (0, u "VALUES"), (0, u "Lcom/example/sieveplan/sieveplan/plan/Pricing$Reduction;"), (0, .fieldref 1 8), (0, .nameAndType 9 6), (0, u "ROWS"), (0, .fieldref 1 11), (0, .nameAndType 12 6), (0, u "SLIGHT"), (0, .fieldref 1 14), (0, .nameAndType 15 6), (0, u "NONE"), (2, u "$VALUES"), (0, u "[Lcom/example/sieveplan/sieveplan/plan/Pricing$Reduction;"), (6, .class_ 28), (1, u "java/lang/Enum"), (22, u "of"), (0, u "(DZ)Lcom/example/sieveplan/sieveplan/plan/Pricing$Reduction;"), (6, .class_ 60), (0, u "com/example/sieveplan/sieveplan/plan/Pricing")] 2

def k6c0 : Code := { maxStack := 4, maxLocals := 4, code := prog_113_method_4_code, exceptionTable := #[], attributes := #[] }
def k6m0 : Method := { name := "of", desc := "(DZ)Lcom/example/sieveplan/sieveplan/plan/Pricing$Reduction;", sig := { parameters := [.double, .boolean], returnType := some (.object "com/example/sieveplan/sieveplan/plan/Pricing$Reduction") }, accessFlags := 8, code := some k6c0 }
/-- com/example/sieveplan/sieveplan/plan/Pricing$Reduction -/
def k6 : Class := { plain "com/example/sieveplan/sieveplan/plan/Pricing$Reduction" (some 5) with
  accessFlags := 16432
  interfaces := #[]
  cf := some (fileOf pool6 1 #[.nestHost 59] #[{ accessFlags := 8, nameIndex := 51, descriptorIndex := 52, attributes := #[] }] 16432 26 #[] #[{ accessFlags := 16409, nameIndex := 5, descriptorIndex := 6, attributes := #[] }, { accessFlags := 16409, nameIndex := 9, descriptorIndex := 6, attributes := #[] }, { accessFlags := 16409, nameIndex := 12, descriptorIndex := 6, attributes := #[] }, { accessFlags := 16409, nameIndex := 15, descriptorIndex := 6, attributes := #[] }, { accessFlags := 4122, nameIndex := 18, descriptorIndex := 19, attributes := #[] }])
  fields := #[{ name := "VALUES", type := (.object "com/example/sieveplan/sieveplan/plan/Pricing$Reduction"), accessFlags := 16409, slot := 0, constantValue := 0 }, { name := "ROWS", type := (.object "com/example/sieveplan/sieveplan/plan/Pricing$Reduction"), accessFlags := 16409, slot := 1, constantValue := 0 }, { name := "SLIGHT", type := (.object "com/example/sieveplan/sieveplan/plan/Pricing$Reduction"), accessFlags := 16409, slot := 2, constantValue := 0 }, { name := "NONE", type := (.object "com/example/sieveplan/sieveplan/plan/Pricing$Reduction"), accessFlags := 16409, slot := 3, constantValue := 0 }, { name := "$VALUES", type := (.array (.object "com/example/sieveplan/sieveplan/plan/Pricing$Reduction")), accessFlags := 4122, slot := 4, constantValue := 0 }]
  methods := #[k6m0]
  instanceTypes := #[(.object "java/lang/String"), .int, .int]
  staticTypes := #[(.object "com/example/sieveplan/sieveplan/plan/Pricing$Reduction"), (.object "com/example/sieveplan/sieveplan/plan/Pricing$Reduction"), (.object "com/example/sieveplan/sieveplan/plan/Pricing$Reduction"), (.object "com/example/sieveplan/sieveplan/plan/Pricing$Reduction"), (.array (.object "com/example/sieveplan/sieveplan/plan/Pricing$Reduction"))]
  resolved := Array.replicate 63 none
  statics := some 0 }

def pool7 : Array CpInfo := pool [(1, u "java/lang/Cloneable"), (0, .class_ 1), (0, u "java/lang/Object"), (0, .class_ 3)] 3

/-- java/lang/Cloneable -/
def k7 : Class := { plain "java/lang/Cloneable" (some 0) with
  accessFlags := 1537
  interfaces := #[]
  cf := some (fileOf pool7 2 #[] #[] 1537 4 #[] #[])
  fields := #[]
  methods := #[]
  instanceTypes := #[]
  staticTypes := #[]
  resolved := Array.replicate 8 none
  statics := none }

/-- the primitive byte -/
def k8 : Class := { plain "byte" none with kind := .primitive 'B', accessFlags := 0x411 }
/-- [B -/
def k9 : Class := { plain "[B" (some 0) with kind := .array 8 .byte, interfaces := #[7, 4], accessFlags := 1041 }

/-- the primitive int -/
def k10 : Class := { plain "int" none with kind := .primitive 'I', accessFlags := 0x411 }
/-- [I -/
def k11 : Class := { plain "[I" (some 0) with kind := .array 10 .int, interfaces := #[7, 4], accessFlags := 1041 }

def heap : Heap := #[{ cls := 6, slots := #[.ref 1, .ref 2, .ref 3, .ref 4, .null], vm := .statics 6 },
  { cls := 6, slots := #[.null, .int 0, .int 0], vm := .none },
  { cls := 6, slots := #[.null, .int 1, .int 0], vm := .none },
  { cls := 6, slots := #[.null, .int 2, .int 0], vm := .none },
  { cls := 6, slots := #[.null, .int 3, .int 0], vm := .none }]
def classes : Array Class := #[k0, k1, k2, k3, k4, k5, k6, k7, k8, k9, k10, k11]
def interned : List (Array UInt16 × Addr) := []
def slotsUsed : Nat := 17
def theMethod : MethodId := ⟨1, 1⟩
def args0 : Array Value := #[.int 5, .int 7]
def aboutOver (below : List Frame) : State where
  vm := { classes := classes, interned := interned.toArray }
  heap := heap
  slotsUsed := slotsUsed
  threads := #[{ frames := .invoking theMethod args0 :: below }]
def below0 : List Frame := [.native { method := ⟨0, 0⟩, args := #[] }]
def about1 : State := aboutOver below0
def p0 : Program := .bare "" "" ""
def e0 : Env := launch0.env 0 0 0
theorem w_frames : about1.frames = Frame.invoking theMethod args0 :: below0 := rfl
set_option maxRecDepth 65536 in
theorem w_args : argsFit about1.vm theMethod args0 = true := by decide +kernel
set_option maxRecDepth 65536 in
theorem w_heap : heapFits about1 = true := by decide +kernel
set_option maxRecDepth 65536 in
theorem w_runnable : about1.curStatus? = some .runnable := by decide +kernel
set_option maxRecDepth 65536 in
theorem w_alone : about1.alone = true := by decide +kernel
set_option maxRecDepth 65536 in
theorem w_named : about1.methodNamed? x = some theMethod := by decide +kernel
set_option maxRecDepth 65536 in
theorem w_hears : about1.hears theMethod below0 = true := by decide +kernel
set_option maxRecDepth 65536 in
theorem w_ripe : about1.ripe theMethod args0 below0 = true := by decide +kernel
theorem w_running : about1.status = .running := rfl
set_option maxRecDepth 65536 in
theorem w_room : about1.hasRoom e0.platform room_1 = true :=
  launch0.hasRoom_least _ room_1 (by decide +kernel) (by decide +kernel) (by decide +kernel) (by decide +kernel) (by decide +kernel) (by decide +kernel)
theorem allAtoms_all (ts : List Jvm.Cond) (a : Array Jvm.Value) (st : Jvm.State) : (allAtoms ts).before a st = ts.all (fun c => c.before a st) := by
  induction ts with
  | nil => rfl
  | cons c t ih =>
    show (Jvm.Cond.and c (allAtoms t)).before a st = _
    rw [Jvm.Cond.before_and, ih, List.all_cons]
def words1 : List Jvm.Cond := Jvm.Cond.code x code maxLocals ret :: tables_1
/-- a 'code' word, met by the world's own term for the bytes: nothing is compared byte by byte -/
theorem code_word {y : MethodName} {bytes : ByteArray} {mx : Nat} {rt : Option FieldType} {a : Array Value} {s : State} {m : MethodId} {meth : Method} {c : Code} (h1 : s.methodNamed? y = some m) (h2 : s.vm.method? m = some meth) (h3 : meth.code = some c) (h4 : c.code = bytes)
    (h5 : (c.maxLocals == mx && c.exceptionTable.isEmpty && decide (c.maxStack ≤ mostOperands) && decide (meth.sig.returnType = rt) && !meth.locks && decide (parseMethodDescriptor y.desc = some meth.sig)) = true) : (Jvm.Cond.code y bytes mx rt).before a s = true := by
  simp only [Bool.and_eq_true, beq_iff_eq, Bool.not_eq_true', decide_eq_true_eq] at h5
  obtain ⟨⟨⟨⟨⟨g1, g2⟩, g3⟩, g4⟩, g5⟩, g6⟩ := h5
  simp [Cond.before, Cond.holds, Cond.value, h1, h2, h3, h4, g1, g2, g3, g4, g5, g6]
def isCode : Jvm.Cond → Bool
  | .code _ _ _ _ => true
  | _ => false
theorem all_split {L : List Jvm.Cond} {P : Jvm.Cond → Bool} (h1 : L.all (fun c => isCode c || P c) = true) (h2 : ∀ c ∈ L.filter isCode, P c = true) : L.all P = true := by
  refine List.all_eq_true.mpr fun c hc => ?_
  have h := List.all_eq_true.mp h1 c hc
  rcases Bool.eq_false_or_eq_true (isCode c) with hi | hi
  · exact h2 c (List.mem_filter.mpr ⟨hc, hi⟩)
  · simpa [hi] using h
set_option maxRecDepth 65536 in
theorem w_c0 : (Jvm.Cond.code x code maxLocals ret).before args0 about1 = true := code_word (m := ⟨1, 1⟩) (meth := k1m1) (c := k1c1) (by decide +kernel) rfl rfl rfl (by decide +kernel)
set_option maxRecDepth 65536 in
theorem w_c1 : (Jvm.Cond.code ({ cls := "com/example/sieveplan/sieveplan/plan/Pricing$Reduction", name := "of", desc := "(DZ)Lcom/example/sieveplan/sieveplan/plan/Pricing$Reduction;" } : Jvm.MethodName) prog_113_method_4_code (4 : Nat) (Option.some (Jvm.ClassFile.FieldType.object "com/example/sieveplan/sieveplan/plan/Pricing$Reduction"))).before args0 about1 = true := code_word (m := ⟨6, 0⟩) (meth := k6m0) (c := k6c0) (by decide +kernel) rfl rfl rfl (by decide +kernel)
def codes1 : List Jvm.Cond := [Jvm.Cond.code x code maxLocals ret, Jvm.Cond.code ({ cls := "com/example/sieveplan/sieveplan/plan/Pricing$Reduction", name := "of", desc := "(DZ)Lcom/example/sieveplan/sieveplan/plan/Pricing$Reduction;" } : Jvm.MethodName) prog_113_method_4_code (4 : Nat) (Option.some (Jvm.ClassFile.FieldType.object "com/example/sieveplan/sieveplan/plan/Pricing$Reduction"))]
set_option maxRecDepth 65536 in
theorem codes_eq : words1.filter isCode = codes1 := rfl
theorem w_codes : ∀ c ∈ words1.filter isCode, c.before args0 about1 = true := by
  rw [codes_eq]
  intro c hc
  simp only [codes1, List.mem_cons, List.not_mem_nil, or_false] at hc
  rcases hc with rfl | rfl
  · exact w_c0
  · exact w_c1
set_option maxRecDepth 65536 in
theorem w_t1 : words1.all (fun c => isCode c || c.before args0 about1) = true := by decide +kernel
theorem w_tables : (allAtoms (Jvm.Cond.code x code maxLocals ret :: tables_1)).before args0 about1 = true := by
  rw [allAtoms_all]
  show words1.all (fun c => c.before args0 about1) = true
  refine all_split ?_ w_codes
  rw [w_t1]
set_option maxRecDepth 65536 in
theorem w_case : (Jvm.Cond.and given_1 narrow_1).before args0 about1 = true := by decide +kernel
theorem w_applies : (headSpec (Jvm.Cond.code x code maxLocals ret :: tables_1) room_1).applies x e0.platform about1 = true :=
  (Spec.applies_iff w_frames).mpr ⟨w_running, w_runnable, w_alone, w_named, w_hears, w_ripe, w_room, w_tables⟩
theorem atStart : AtStart classFile x code maxLocals ret World_1 tables_1 room_1 Calls_1 rest_1 Pre_1 launch0 p0 e0 about1 theMethod args0 below0 :=
  ⟨lists_1, trivial, launch0.admits_env _ _ _, launch0.least_env, fairChoices_fair.cas, fairChoices_fair.clock, w_frames, w_args, w_heap, w_applies, trivial, trivial, w_case⟩
end start1
theorem witness_1 : WitnessClaimed_1 := ⟨start1.p0, start1.e0, start1.about1, start1.theMethod, start1.args0, start1.below0, start1.atStart⟩
end Jvm.Pilot.@@N@@
