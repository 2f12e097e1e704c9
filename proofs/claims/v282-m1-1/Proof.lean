import JvmDerived
import JvmDerived.Pilot.@@N@@Statement
import JvmDerived.Pilot.@@N@@Code
set_option linter.unusedVariables false
set_option linter.unusedSimpArgs false
namespace Jvm.RoadKit
open Sem ClassFile Op Lib Jvm.Stand Jvm.Free Jvm.LawKit
section OwnGo
variable {p : Program} {l : Launch} {e : Env} {R : Room} {s : State} {m : MethodId} {args : Array Value} {below : List Frame} {meth : Method} {c : Code} {T : State} {locs : List Loc} {cells slots : Nat} {Z : State} {a0 : Array Value} {h : Heap} {kc ks : Nat} {Q : Option Value → Heap → List Loc → Prop} {G : Outcome → State → Prop} {U U' : State}
/-- from U the walk ends, and G says how -/
def OGo (p : Program) (e : Env) (below : List Frame) (G : Outcome → State → Prop) (U : State) : Prop :=
  ∃ s₂ o, Steps p.tables e below U s₂ ∧ s₂.status = .running ∧ Ended s₂ below o ∧ G o s₂
/-- it returned, Q says what, and the frame is kept -/
def OEnd (s : State) (kc ks : Nat) (Q : Option Value → Heap → List Loc → Prop) (o : Outcome) (t : State) : Prop := ∃ v L, o = .returned v ∧ Q v t.heap L ∧ FrameEnd s o t L kc ks
/-- the same where a String constant may have come to be interned -/
def OEndW (s : State) (kc ks : Nat) (Q : Option Value → Heap → List Loc → Prop) (o : Outcome) (t : State) : Prop := ∃ v L, o = .returned v ∧ Q v t.heap L ∧ ReturnedEndW s o t L kc ks
theorem OGo.go (f : ∀ t, Steps p.tables e below U' t → Steps p.tables e below U t) (k : OGo p e below G U') : OGo p e below G U := by
  obtain ⟨s₂, o, h1, h2⟩ := k
  exact ⟨s₂, o, f _ h1, h2⟩
theorem OGo.trans (f : Steps p.tables e below U U') (k : OGo p e below G U') : OGo p e below G U := OGo.go (fun _ r => f.trans r) k
/-- two roads that meet again, in a state that differs in one value -/
theorem OGo.ite1 {α : Type} {P : Prop} [Decidable P] (f : α → State) {x y : α} (h1 : P → OGo p e below G (f x) → OGo p e below G U) (h2 : ¬ P → OGo p e below G (f y) → OGo p e below G U) (k : ∀ z, z = (if P then x else y) → OGo p e below G (f z)) : OGo p e below G U := by
  by_cases q : P
  · exact h1 q (k _ (if_pos q).symm)
  · exact h2 q (k _ (if_neg q).symm)
theorem OGo.ite2 {α β : Type} {P : Prop} [Decidable P] (f : α → β → State) {x y : α} {x' y' : β} (h1 : P → OGo p e below G (f x x') → OGo p e below G U) (h2 : ¬ P → OGo p e below G (f y y') → OGo p e below G U) (k : ∀ z z', z = (if P then x else y) → z' = (if P then x' else y') → OGo p e below G (f z z')) : OGo p e below G U := by
  by_cases q : P
  · exact h1 q (k _ _ (if_pos q).symm (if_pos q).symm)
  · exact h2 q (k _ _ (if_neg q).symm (if_neg q).symm)
theorem OGo.ite3 {α β γ : Type} {P : Prop} [Decidable P] (f : α → β → γ → State) {x y : α} {x' y' : β} {x'' y'' : γ} (h1 : P → OGo p e below G (f x x' x'') → OGo p e below G U) (h2 : ¬ P → OGo p e below G (f y y' y'') → OGo p e below G U) (k : ∀ z z' z'', z = (if P then x else y) → z' = (if P then x' else y') → z'' = (if P then x'' else y'') → OGo p e below G (f z z' z'')) : OGo p e below G U := by
  by_cases q : P
  · exact h1 q (k _ _ _ (if_pos q).symm (if_pos q).symm (if_pos q).symm)
  · exact h2 q (k _ _ _ (if_neg q).symm (if_neg q).symm (if_neg q).symm)
theorem OGo.cut {H : Prop} (V : State) (k1 : (H → OGo p e below G V) → OGo p e below G U) (k2 : H → OGo p e below G V) : OGo p e below G U := k1 k2
theorem OGo.cut2 {α : Type} {H : α → Prop} (V : α → State) (k1 : (∀ a, H a → OGo p e below G (V a)) → OGo p e below G U) (k2 : ∀ a, H a → OGo p e below G (V a)) : OGo p e below G U := k1 k2
theorem OGo.nm {α : Type} (f : α → State) {x : α} (k : ∀ z, z = x → OGo p e below G (f z)) : OGo p e below G (f x) := k x rfl
/-- the end of the walk -/
theorem OGo.ret (X : Stand p l e R s m args below meth c T locs cells slots) {v : Option Value} {g : JFrame} (hv : meth.sig.returnType = none → v = none) (hlk : meth.locks = false)
    (hs : ∀ fs, (∀ (f : JFrame) (acts : List Action), f.method = m → f.locked = none → f.entered = [] → (doReturn e (T.setTop f) acts v).1 = T.setFrames fs) → Steps p.tables e below (T.setTop g) (T.setFrames fs))
    (hQ : Q v T.heap locs) (hc : cells ≤ kc) (hl : slots ≤ ks) : OGo p e below (OEnd s kc ks Q) (T.setTop g) := by
  obtain ⟨fs, hr, hrun, hended, hW, hsame⟩ := X.leave (v := v) hv hlk
  exact ⟨_, _, hs fs hr, hrun, hended, v, locs, rfl, hQ, ⟨_, rfl⟩, hW, hsame.mono hc hl⟩
/-- return of a boolean, byte, char, short -/
theorem OGo.retN (X : Stand p l e R s m args below meth c T locs cells slots) (hx : p.tables.exec = Jvm.exec) {pc : Nat} {Ls : Array Slot} {z : Int32} {t : FieldType} {rest : List Value} (hret : meth.sig.returnType = some t) (hlk : meth.locks = false) (ht : t = .boolean ∨ t = .byte ∨ t = .char ∨ t = .short)
    (hd : decode c.code pc = .ok (.ireturn, 1)) (hQ : Q (some (.int (nar t z))) T.heap locs) (hc : cells ≤ kc) (hl : slots ≤ ks) : OGo p e below (OEnd s kc ks Q) (T.setTop (mkF m pc Ls (.int z :: rest))) :=
  OGo.ret X (fun q => by rw [hret] at q; cases q) hlk (fun fs hr => Jvm.RoadKit.retN X hx hret ht hd hr) hQ hc hl
/-- return of an int, a long, a double, a reference -/
theorem OGo.retV (X : Stand p l e R s m args below meth c T locs cells slots) (hx : p.tables.exec = Jvm.exec) {pc : Nat} {Ls : Array Slot} {w : Value} {t : FieldType} {i : Instr} {rest : List Value} (hret : meth.sig.returnType = some t) (hlk : meth.locks = false) (hn : narrow t w = w)
    (hi : (i = .ireturn ∧ (t = .int ∨ t = .boolean ∨ t = .byte ∨ t = .char ∨ t = .short) ∧ ∃ z, w = .int z) ∨ (i = .lreturn ∧ t = .long ∧ ∃ z, w = .long z) ∨ (i = .dreturn ∧ t = .double ∧ ∃ z, w = .double z) ∨ (i = .freturn ∧ t = .float ∧ ∃ z, w = .float z) ∨ (i = .areturn ∧ t.isReference = true ∧ w.isRef = true))
    (hd : decode c.code pc = .ok (i, 1)) (hQ : Q (some w) T.heap locs) (hc : cells ≤ kc) (hl : slots ≤ ks) : OGo p e below (OEnd s kc ks Q) (T.setTop (mkF m pc Ls (w :: rest))) :=
  OGo.ret X (fun q => by rw [hret] at q; cases q) hlk (fun fs hr => Jvm.RoadKit.retOut X hx hret hn hi hd hr) hQ hc hl
theorem OGo.retI (X : Stand p l e R s m args below meth c T locs cells slots) (hx : p.tables.exec = Jvm.exec) {pc : Nat} {Ls : Array Slot} {z : Int32} {rest : List Value} (hret : meth.sig.returnType = some .int) (hlk : meth.locks = false)
    (hd : decode c.code pc = .ok (.ireturn, 1)) (hQ : Q (some (.int z)) T.heap locs) (hc : cells ≤ kc) (hl : slots ≤ ks) : OGo p e below (OEnd s kc ks Q) (T.setTop (mkF m pc Ls (.int z :: rest))) :=
  OGo.retV X hx hret hlk rfl (Or.inl ⟨rfl, Or.inl rfl, z, rfl⟩) hd hQ hc hl
theorem OGo.retJ (X : Stand p l e R s m args below meth c T locs cells slots) (hx : p.tables.exec = Jvm.exec) {pc : Nat} {Ls : Array Slot} {z : Int64} {rest : List Value} (hret : meth.sig.returnType = some .long) (hlk : meth.locks = false)
    (hd : decode c.code pc = .ok (.lreturn, 1)) (hQ : Q (some (.long z)) T.heap locs) (hc : cells ≤ kc) (hl : slots ≤ ks) : OGo p e below (OEnd s kc ks Q) (T.setTop (mkF m pc Ls (.long z :: rest))) :=
  OGo.retV X hx hret hlk rfl (Or.inr (Or.inl ⟨rfl, rfl, z, rfl⟩)) hd hQ hc hl
theorem OGo.retD (X : Stand p l e R s m args below meth c T locs cells slots) (hx : p.tables.exec = Jvm.exec) {pc : Nat} {Ls : Array Slot} {z : UInt64} {rest : List Value} (hret : meth.sig.returnType = some .double) (hlk : meth.locks = false)
    (hd : decode c.code pc = .ok (.dreturn, 1)) (hQ : Q (some (.double z)) T.heap locs) (hc : cells ≤ kc) (hl : slots ≤ ks) : OGo p e below (OEnd s kc ks Q) (T.setTop (mkF m pc Ls (.double z :: rest))) :=
  OGo.retV X hx hret hlk rfl (Or.inr (Or.inr (Or.inl ⟨rfl, rfl, z, rfl⟩))) hd hQ hc hl
theorem OGo.retA (X : Stand p l e R s m args below meth c T locs cells slots) (hx : p.tables.exec = Jvm.exec) {pc : Nat} {Ls : Array Slot} {w : Value} {t : FieldType} {rest : List Value} (hret : meth.sig.returnType = some t) (hlk : meth.locks = false) (ht : t.isReference = true) (hw : w.isRef = true)
    (hd : decode c.code pc = .ok (.areturn, 1)) (hQ : Q (some w) T.heap locs) (hc : cells ≤ kc) (hl : slots ≤ ks) : OGo p e below (OEnd s kc ks Q) (T.setTop (mkF m pc Ls (w :: rest))) :=
  OGo.retV X hx hret hlk (by cases t <;> first | (cases ht; done) | (cases w <;> first | rfl | (cases hw; done))) (Or.inr (Or.inr (Or.inr (Or.inr ⟨rfl, ht, hw⟩)))) hd hQ hc hl
theorem OGo.ret0 (X : Stand p l e R s m args below meth c T locs cells slots) (hx : p.tables.exec = Jvm.exec) {pc : Nat} {Ls : Array Slot} (hret : meth.sig.returnType = none) (hlk : meth.locks = false)
    (hd : decode c.code pc = .ok (.return_, 1)) (hQ : Q none T.heap locs) (hc : cells ≤ kc) (hl : slots ≤ ks) : OGo p e below (OEnd s kc ks Q) (T.setTop (mkF m pc Ls [])) :=
  OGo.ret X (fun _ => rfl) hlk (fun fs hr => X.returnOut hx hret hd hr) hQ hc hl
/-- the end of the walk where a String constant may have come to be interned -/
theorem OGo.retW {vm₁ : Vm} {n : Nat} (X : Stand p l e R (s.setVm vm₁) m args below meth c T locs cells slots) (hS : s.Since vm₁ n) (hn : n ≤ T.heap.size) {v : Option Value} {g : JFrame} (hv : meth.sig.returnType = none → v = none) (hlk : meth.locks = false)
    (hs : ∀ fs, (∀ (f : JFrame) (acts : List Action), f.method = m → f.locked = none → f.entered = [] → (doReturn e (T.setTop f) acts v).1 = T.setFrames fs) → Steps p.tables e below (T.setTop g) (T.setFrames fs))
    (hQ : Q v T.heap locs) (hc : cells ≤ kc) (hl : slots ≤ ks) : OGo p e below (OEndW s kc ks Q) (T.setTop g) := by
  obtain ⟨fs, hr, hrun, hended, h1, h2, h3, h4⟩ := X.leaveW hS hn (v := v) hv hlk
  exact ⟨_, _, hs fs hr, hrun, hended, v, locs, rfl, hQ, h1, h2, h3, h4.mono hc hl⟩
theorem OGo.retNW {vm₁ : Vm} {n : Nat} (X : Stand p l e R (s.setVm vm₁) m args below meth c T locs cells slots) (hS : s.Since vm₁ n) (hn : n ≤ T.heap.size) (hx : p.tables.exec = Jvm.exec) {pc : Nat} {Ls : Array Slot} {z : Int32} {t : FieldType} {rest : List Value} (hret : meth.sig.returnType = some t) (hlk : meth.locks = false) (ht : t = .boolean ∨ t = .byte ∨ t = .char ∨ t = .short)
    (hd : decode c.code pc = .ok (.ireturn, 1)) (hQ : Q (some (.int (nar t z))) T.heap locs) (hc : cells ≤ kc) (hl : slots ≤ ks) : OGo p e below (OEndW s kc ks Q) (T.setTop (mkF m pc Ls (.int z :: rest))) :=
  OGo.retW X hS hn (fun q => by rw [hret] at q; cases q) hlk (fun fs hr => Jvm.RoadKit.retN X hx hret ht hd hr) hQ hc hl
/-- a body's contract: called with 'as' at a heap h0, it returns, and Q says what it left -/
def OMet (l : Launch) (Z : State) (y : MethodName) (bytes : ByteArray) (maxL : Nat) (ret : Option FieldType) (ws : List Jvm.Cond) (rm : Room) (as : Array Value) (h0 : Heap) (Q : Option Value → Heap → List Loc → Prop) : Prop :=
  MetFree l y (head1 (Jvm.Cond.code y bytes maxL ret :: ws) rm) (fun a U => a = as ∧ Z.Warmed39 U.vm ∧ U.heap = h0) (fun _ _ _ _ _ => True) (fun _ U o U' => ∃ v L, o = .returned v ∧ Q v U'.heap L ∧ FrameEnd U o U' L rm.cells rm.slots)
theorem OMet.of {y : MethodName} {bytes : ByteArray} {maxL : Nat} {ret : Option FieldType} {ws : List Jvm.Cond} {rm : Room} {as : Array Value} {h0 : Heap} (hpn : plainFor y = true)
    (H : ∀ (p : Program) (e : Env) (s : State) (m : MethodId) (below : List Frame) (meth : Method) (c : Code) (T0 : State), Stand p l e rm s m as below meth c T0 [] 0 0 → p.tables.exec = Jvm.exec → c.code = bytes → c.maxLocals = maxL → s.vm.findClass y.cls = some m.cls → meth.name = y.name → meth.sig.returnType = ret → meth.locks = false → Z.Warmed39 s.vm → T0.heap = h0 →
      OGo p e below (OEnd s rm.cells rm.slots Q) (T0.setTop (entryFrame m as maxL))) : OMet l Z y bytes maxL ret ws rm as h0 Q := by
  refine MetFree.of_bodySF hpn hisR ?_
  intro p e s m args below meth c s₁ Bd hml0 hP hK
  obtain ⟨rfl, hZ, hh⟩ := hP
  exact H p e s m below meth c s₁ (Stand.of_body Bd) Bd.exec Bd.bytes hml0 (findClass_of_methodNamed Bd.named) (name_of_methodNamed Bd.named Bd.method).1 Bd.returns Bd.notSynchronized hZ (by rw [← hh, Bd.state]; rfl)
def OMetW (l : Launch) (Z : State) (y : MethodName) (bytes : ByteArray) (maxL : Nat) (ret : Option FieldType) (ws : List Jvm.Cond) (rm : Room) (as : Array Value) (h0 : Heap) (Q : Option Value → Heap → List Loc → Prop) : Prop :=
  MetFree l y (head1 (Jvm.Cond.code y bytes maxL ret :: ws) rm) (fun a U => a = as ∧ Z.Warmed39 U.vm ∧ U.heap = h0) (fun _ _ _ _ _ => True) (fun _ U o U' => ∃ v L, o = .returned v ∧ Q v U'.heap L ∧ ReturnedEndW U o U' L rm.cells rm.slots)
theorem OMetW.of {y : MethodName} {bytes : ByteArray} {maxL : Nat} {ret : Option FieldType} {ws : List Jvm.Cond} {rm : Room} {as : Array Value} {h0 : Heap} (hpn : plainFor y = true)
    (H : ∀ (p : Program) (e : Env) (s : State) (m : MethodId) (below : List Frame) (meth : Method) (c : Code) (T0 : State), Stand p l e rm s m as below meth c T0 [] 0 0 → p.tables.exec = Jvm.exec → c.code = bytes → c.maxLocals = maxL → s.vm.findClass y.cls = some m.cls → meth.name = y.name → meth.sig.returnType = ret → meth.locks = false → Z.Warmed39 s.vm → T0.heap = h0 →
      OGo p e below (OEndW s rm.cells rm.slots Q) (T0.setTop (entryFrame m as maxL))) : OMetW l Z y bytes maxL ret ws rm as h0 Q := by
  refine MetFree.of_bodySF hpn hisR ?_
  intro p e s m args below meth c s₁ Bd hml0 hP hK
  obtain ⟨rfl, hZ, hh⟩ := hP
  exact H p e s m below meth c s₁ (Stand.of_body Bd) Bd.exec Bd.bytes hml0 (findClass_of_methodNamed Bd.named) (name_of_methodNamed Bd.named Bd.method).1 Bd.returns Bd.notSynchronized hZ (by rw [← hh, Bd.state]; rfl)
/-- a call of a static method -/
theorem OGo.callS (X : Stand p l e R s m args below meth c T locs cells slots) (hx : p.tables.exec = Jvm.exec) (hZ : Z.Warmed39 s.vm) {own : String} {index : Nat} {y : MethodName} {bytes : ByteArray} {maxL : Nat} {ret : Option FieldType}
    (hown : s.vm.findClass own = some m.cls) (w1 : (Jvm.Cond.methodLink own index y).before a0 Z = true) (w2 : (Jvm.Cond.static y).before a0 Z = true) (w3 : (Jvm.Cond.initialized y.cls).before a0 Z = true) (w4 : (Jvm.Cond.code y bytes maxL ret).before a0 Z = true)
    (hy : y.cls ≠ "java/lang/invoke/MethodHandle" ∧ y.cls ≠ "java/lang/invoke/VarHandle") {g : JFrame} {argsL rest : List Value} {rm : Room} {Q' : Option Value → Heap → List Loc → Prop} (eT : T.heap = h) (hM : OMet l Z y bytes maxL ret [] rm argsL.toArray h Q')
    (hg : g.method = m) (hsize : g.locals.size = c.maxLocals) (hlen : ∀ sig, parseMethodDescriptor y.desc = some sig → argsL.length = sig.parameters.length) (hstack : g.stack = argsL.reverse ++ rest) {W : Nat} (hW : 2 * g.monitorRoom + (rest.map fun v => v.category).sum ≤ W) (hd : decode c.code g.pc = .ok (.invokestatic index, 3))
    (hf : rm.frames + 1 ≤ R.frames) (hl : W + (maxL + 11) + rm.locals ≤ R.locals) (hc : cells + rm.cells ≤ R.cells) (hs : slots + rm.slots ≤ R.slots)
    (k : ∀ (v : Option Value) (T' : State) (L' : List Loc), Stand p l e R s m args below meth c T' (locs ++ L') (cells + rm.cells) (slots + rm.slots) → Q' v T'.heap L' → OGo p e below G (T'.setTop { g with pc := g.pc + 3, stack := v.toList ++ rest })) : OGo p e below G (T.setTop g) := by
  obtain ⟨v, vm₁, B, hW₁, X', ⟨L, hQ, e1, e2, e3⟩, st⟩ := Jvm.LawKit.callS X hx (y := y) hown (mvT hZ w1) (mvT hZ w2) (mvT hZ w3) (mvT hZ w4) hy (backOf (W := W) hM hZ w4 w3 hf hl) (g := g) hg hsize (argsL := argsL) (rest := rest) hlen hstack hW hd (fun _ _ => ⟨rfl, eT, hc, hs⟩)
  rw [e1, e2, e3] at X'
  exact OGo.go st (k v B.U L X' hQ)
/-- a call of a constructor -/
theorem OGo.callI (X : Stand p l e R s m args below meth c T locs cells slots) (hx : p.tables.exec = Jvm.exec) (hZ : Z.Warmed39 s.vm) {own : String} {index : Nat} {y : MethodName} {bytes : ByteArray} {maxL : Nat} (hy1 : y.name = "<init>")
    (hown : s.vm.findClass own = some m.cls) (w1 : (Jvm.Cond.methodLink own index y).before a0 Z = true) (w2 : (Jvm.Cond.instanceMethod y).before a0 Z = true) (w3 : (Jvm.Cond.initialized y.cls).before a0 Z = true) (w4 : (Jvm.Cond.code y bytes maxL none).before a0 Z = true)
    (hy : y.cls ≠ "java/lang/invoke/MethodHandle" ∧ y.cls ≠ "java/lang/invoke/VarHandle") {g : JFrame} {a : Addr} {argsL rest : List Value} {rm : Room} {Q' : Option Value → Heap → List Loc → Prop} (eT : T.heap = h) (hM : OMet l Z y bytes maxL none [] rm (.ref a :: argsL).toArray h Q')
    (hg : g.method = m) (hsize : g.locals.size = c.maxLocals) (hlen : ∀ sig, parseMethodDescriptor y.desc = some sig → argsL.length = sig.parameters.length) (hstack : g.stack = argsL.reverse ++ .ref a :: rest) {W : Nat} (hW : 2 * g.monitorRoom + (rest.map fun v => v.category).sum ≤ W) (hd : decode c.code g.pc = .ok (.invokespecial index, 3))
    (hf : rm.frames + 1 ≤ R.frames) (hl : W + (maxL + 11) + rm.locals ≤ R.locals) (hc : cells + rm.cells ≤ R.cells) (hs : slots + rm.slots ≤ R.slots)
    (k : ∀ (v : Option Value) (T' : State) (L' : List Loc), Stand p l e R s m args below meth c T' (locs ++ L') (cells + rm.cells) (slots + rm.slots) → Q' v T'.heap L' → OGo p e below G (T'.setTop { g with pc := g.pc + 3, stack := v.toList ++ rest })) : OGo p e below G (T.setTop g) := by
  obtain ⟨v, vm₁, B, hW₁, X', ⟨L, hQ, e1, e2, e3⟩, st⟩ := X.specialBack hx (y := y) hy1 hown (mvT hZ w1) (mvT hZ w2) (mvT hZ w4) hy (backOf (W := W) hM hZ w4 w3 hf hl) (g := g) hg hsize (Steps.refl _) (a := a) (argsL := argsL) (rest := rest) hlen hstack hW hd (fun _ _ => ⟨rfl, eT, hc, hs⟩)
  rw [e1, e2, e3] at X'
  exact OGo.trans st (k v B.U L X' hQ)
/-- a call of an instance method -/
theorem OGo.callV (X : Stand p l e R s m args below meth c T locs cells slots) (hx : p.tables.exec = Jvm.exec) (hZ : Z.Warmed39 s.vm) {own C : String} {index : Nat} {y : MethodName} {bytes : ByteArray} {maxL : Nat} {ret : Option FieldType}
    (hown : s.vm.findClass own = some m.cls) (w1 : (Jvm.Cond.methodLink own index y).before a0 Z = true) (w5 : (Jvm.Cond.declares y).before a0 Z = true) (w6 : (Jvm.Cond.selects C y y).before a0 Z = true) (w2 : (Jvm.Cond.instanceMethod y).before a0 Z = true) (w3 : (Jvm.Cond.initialized y.cls).before a0 Z = true) (w4 : (Jvm.Cond.code y bytes maxL ret).before a0 Z = true)
    (hy : y.cls ≠ "java/lang/invoke/MethodHandle" ∧ y.cls ≠ "java/lang/invoke/VarHandle") {g : JFrame} {a : Addr} {argsL rest : List Value} {rm : Room} {Q' : Option Value → Heap → List Loc → Prop} (eT : T.heap = h) (E : Exa Z h a C) (hM : OMet l Z y bytes maxL ret [] rm (.ref a :: argsL).toArray h Q')
    (hg : g.method = m) (hsize : g.locals.size = c.maxLocals) (hlen : ∀ sig, parseMethodDescriptor y.desc = some sig → argsL.length = sig.parameters.length) (hstack : g.stack = argsL.reverse ++ .ref a :: rest) {W : Nat} (hW : 2 * g.monitorRoom + (rest.map fun v => v.category).sum ≤ W) (hd : decode c.code g.pc = .ok (.invokevirtual index, 3))
    (hf : rm.frames + 1 ≤ R.frames) (hl : W + (maxL + 11) + rm.locals ≤ R.locals) (hc : cells + rm.cells ≤ R.cells) (hs : slots + rm.slots ≤ R.slots)
    (k : ∀ (v : Option Value) (T' : State) (L' : List Loc), Stand p l e R s m args below meth c T' (locs ++ L') (cells + rm.cells) (slots + rm.slots) → Q' v T'.heap L' → OGo p e below G (T'.setTop { g with pc := g.pc + 3, stack := v.toList ++ rest })) : OGo p e below G (T.setTop g) := by
  obtain ⟨cB, kB, q1, q2, q3⟩ := isOf hZ eT E
  obtain ⟨v, vm₁, B, hW₁, X', ⟨L, hQ, e1, e2, e3⟩, st⟩ := X.virtualBack hx (y := y) (z := y) hown (mvT hZ w1) (mvT hZ w5) (notFace_of_selects (args := #[]) (mvT hZ w6)) (mvT hZ w6) (mvT hZ w2) hy (backOf (W := W) hM hZ w4 w3 hf hl) q1 q3 (g := g) hg hsize (Steps.refl _) (argsL := argsL) (rest := rest) hlen hstack hW hd (fun _ _ => ⟨rfl, eT, hc, hs⟩)
  rw [e1, e2, e3] at X'
  exact OGo.trans st (k v B.U L X' hQ)
/-- what a contract says that leaves the heap as it was -/
def OPure (w : Option Value) (h0 : Heap) (v : Option Value) (h : Heap) (L : List Loc) : Prop := v = w ∧ h = h0 ∧ L = []
/-- a static that a sheet says to hold an object of just this class -/
theorem own_enum {s : State} {args : Array Value} {C n d K : String} (hx : (Jvm.Cond.exactly (.static C n d) K).value args s none s [] = some true) (w1 : (Jvm.Cond.initialized C).before args s = true) (w2 : (Jvm.Cond.laysStatic C n d).before args s = true) :
    ∃ a, (Term.static C n d).eval args s none [] s = some (.ref a) ∧ Sta s s.heap C n d (.ref a) ∧ Exa s s.heap a K := by
  obtain ⟨a, ev⟩ := exa_v hx
  exact ⟨a, ev, Sta.start ev (Or.inr ⟨w1, w2⟩), Exa.start ev hx⟩
theorem own_efld {s : State} {args : Array Value} {t : Term} {C n d : String} {a : Addr} {k : Int32} (ev : t.eval args s none [] s = some (.ref a)) (h : (Jvm.Cond.eq (.field t C n d) (.int k)).value args s none s [] = some true) : Fld s s.heap a C n d (.int k) := by
  obtain ⟨x, y, h1, h2, h3, h4⟩ := cmp_v (Or.inl h)
  have h2' : y = .int k := (Option.some.inj h2).symm
  subst h2'
  obtain ⟨z, rfl⟩ := h4
  have q : (Jvm.Cond.eq (.field t C n d) (.int k)).value args s none s [] = some (decide (z = k)) := by simp [Cond.value, h1, h2]
  have e := gotT q h
  subst e
  exact Fld.start ((fld_at ev).symm.trans h1)
theorem own_sta_keep {h' : Heap} {C n d : String} {v : Value} {ws : List Addr} (F : Sta Z h C n d v) (K : Keep h h' ws) (q : ∀ x ∈ ws, ∀ cell : Cell, h[x]? = some cell → cell.vm.isStatics = false) : Sta Z h' C n d v := by
  obtain ⟨cf, i, k, f, st, cell, h1, h2, h3, h4, h5, h6, h7⟩ := F
  exact ⟨cf, i, k, f, st, cell, h1, h2, h3, h4, K.2.1 _ _ h5 (fun r => by rw [q _ r _ h5] at h6; cases h6), h6, h7⟩
theorem own_plain {a : Addr} {C : String} (F : Exa Z h a C) : ∀ cell : Cell, h[a]? = some cell → cell.vm.isStatics = false := fun cell hc => by
  obtain ⟨c', k, h1, h2, h3, h4, h5⟩ := F
  cases h1.symm.trans hc
  exact h4
theorem nar_b0 : nar .boolean 0 = 0 := by decide
theorem nar_b1 : nar .boolean 1 = 1 := by decide
theorem nar_bite {P : Prop} [Decidable P] {x y : Int32} : nar .boolean (if P then x else y) = if P then nar .boolean x else nar .boolean y := by split <;> rfl
end OwnGo
end Jvm.RoadKit
namespace Jvm.RoadKit
open Sem ClassFile Op Lib Jvm.Stand Jvm.Free Jvm.LawKit
section OwnVec
variable {p : Program} {l : Launch} {e : Env} {R : Room} {s : State} {m : MethodId} {args : Array Value} {below : List Frame} {meth : Method} {c : Code} {T : State} {locs : List Loc} {cells slots : Nat} {Z : State} {h h' : Heap} {a b : Addr} {k : ClassId} {z j : Int32} {vs : List Value} {dv : Value} {ty : FieldType}
theorem Arv.ldJ (X : Stand p l e R s m args below meth c T locs cells slots) (hx : p.tables.exec = Jvm.exec) (hZ : Z.Warmed39 s.vm) (eT : T.heap = h) (F : Arv Z h a k .long z vs dv) (hj : ¬ j < 0 ∧ j < z) {v : Value} (hv : vs.getD j.toNatClampNeg dv = v)
    {g : JFrame} (hg : g.method = m) {rest : List Value} (hs : g.stack = .int j :: .ref a :: rest) (hd : decode c.code g.pc = .ok (.laload, 1)) :
    ∀ target, Steps p.tables e below (T.setTop { g with pc := g.pc + 1, stack := v :: rest }) target → Steps p.tables e below (T.setTop g) target := by
  obtain ⟨cl, A, q1, S, q3, H, G⟩ := F
  exact X.laload hx (j := j) (v := v) (by rw [eT]; exact A.1) (State.isArrayOf_alike hZ.alike A.2.1) A.2.2 (inb_of S hj) (H.at (inb_of S hj) hv) (g := g) hg hs hd
theorem Arv.ldD (X : Stand p l e R s m args below meth c T locs cells slots) (hx : p.tables.exec = Jvm.exec) (hZ : Z.Warmed39 s.vm) (eT : T.heap = h) (F : Arv Z h a k .double z vs dv) (hj : ¬ j < 0 ∧ j < z) {v : Value} (hv : vs.getD j.toNatClampNeg dv = v)
    {g : JFrame} (hg : g.method = m) {rest : List Value} (hs : g.stack = .int j :: .ref a :: rest) (hd : decode c.code g.pc = .ok (.daload, 1)) :
    ∀ target, Steps p.tables e below (T.setTop { g with pc := g.pc + 1, stack := v :: rest }) target → Steps p.tables e below (T.setTop g) target := by
  obtain ⟨cl, A, q1, S, q3, H, G⟩ := F
  exact X.daload hx (j := j) (v := v) (by rw [eT]; exact A.1) (State.isArrayOf_alike hZ.alike A.2.1) A.2.2 (inb_of S hj) (H.at (inb_of S hj) hv) (g := g) hg hs hd
theorem Arv.ldR (X : Stand p l e R s m args below meth c T locs cells slots) (hx : p.tables.exec = Jvm.exec) (hZ : Z.Warmed39 s.vm) (eT : T.heap = h) (F : Arv Z h a k ty z vs dv) (ht : ty.isReference = true) (hj : ¬ j < 0 ∧ j < z) {v : Value} (hv : vs.getD j.toNatClampNeg dv = v)
    {g : JFrame} (hg : g.method = m) {rest : List Value} (hs : g.stack = .int j :: .ref a :: rest) (hd : decode c.code g.pc = .ok (.aaload, 1)) :
    ∀ target, Steps p.tables e below (T.setTop { g with pc := g.pc + 1, stack := v :: rest }) target → Steps p.tables e below (T.setTop g) target := by
  obtain ⟨cl, A, q1, S, q3, H, G⟩ := F
  exact X.aaload hx (j := j) (v := v) (by rw [eT]; exact A.1) (State.isArrayOf_alike hZ.alike A.2.1) ht A.2.2 (inb_of S hj) (H.at (inb_of S hj) hv) (g := g) hg hs hd
theorem Arv.stJ' (X : Stand p l e R s m args below meth c T locs cells slots) (hx : p.tables.exec = Jvm.exec) (hZ : Z.Warmed39 s.vm) (eT : T.heap = h) (F : Arv Z h a k .long z vs dv) (hj : ¬ j < 0 ∧ j < z) {x : Int64} (i : Nat) (hi : j.toNatClampNeg = i) (hl : i < vs.length)
    {g : JFrame} (hg : g.method = m) {rest : List Value} (hs : g.stack = .long x :: .int j :: .ref a :: rest) (hd : decode c.code g.pc = .ok (.lastore, 1)) :
    ∃ T' h', Stand p l e R s m args below meth c T' (locs ++ [⟨a, j.toNatClampNeg⟩]) cells slots ∧ T'.heap = h' ∧ Wr h h' a j.toNatClampNeg (.long x) ∧ Arv Z h' a k .long z (vs.set i (.long x)) dv ∧ ∀ target, Steps p.tables e below (T'.setTop { g with pc := g.pc + 1, stack := rest }) target → Steps p.tables e below (T.setTop g) target := by
  obtain ⟨cl, A, q1, S, q3, H, G⟩ := F
  obtain ⟨T', h', X', e', W, st⟩ := stJ X hx hZ eT A (j := j) (x := x) (inb_of S hj) (g := g) hg hs hd
  exact ⟨T', h', X', e', W, Arv.set A q1 S q3 H G rfl W i hi hl, st⟩
theorem Arv.stD' (X : Stand p l e R s m args below meth c T locs cells slots) (hx : p.tables.exec = Jvm.exec) (hZ : Z.Warmed39 s.vm) (eT : T.heap = h) (F : Arv Z h a k .double z vs dv) (hj : ¬ j < 0 ∧ j < z) {x : UInt64} (i : Nat) (hi : j.toNatClampNeg = i) (hl : i < vs.length)
    {g : JFrame} (hg : g.method = m) {rest : List Value} (hs : g.stack = .double x :: .int j :: .ref a :: rest) (hd : decode c.code g.pc = .ok (.dastore, 1)) :
    ∃ T' h', Stand p l e R s m args below meth c T' (locs ++ [⟨a, j.toNatClampNeg⟩]) cells slots ∧ T'.heap = h' ∧ Wr h h' a j.toNatClampNeg (.double x) ∧ Arv Z h' a k .double z (vs.set i (.double x)) dv ∧ ∀ target, Steps p.tables e below (T'.setTop { g with pc := g.pc + 1, stack := rest }) target → Steps p.tables e below (T.setTop g) target := by
  obtain ⟨cl, A, q1, S, q3, H, G⟩ := F
  obtain ⟨T', h', X', e', W, st⟩ := stD X hx hZ eT A (j := j) (x := x) (inb_of S hj) (g := g) hg hs hd
  exact ⟨T', h', X', e', W, Arv.set A q1 S q3 H G rfl W i hi hl, st⟩
theorem Arv.stR' {O : String} {y : Addr} (X : Stand p l e R s m args below meth c T locs cells slots) (hx : p.tables.exec = Jvm.exec) (hZ : Z.Warmed39 s.vm) (eT : T.heap = h) (F : Arv Z h a k (.object O) z vs dv) (hO : Ovr Z k O) (hI : Exa Z h y O) (hj : ¬ j < 0 ∧ j < z) (i : Nat) (hi : j.toNatClampNeg = i) (hl : i < vs.length)
    {g : JFrame} (hg : g.method = m) {rest : List Value} (hs : g.stack = .ref y :: .int j :: .ref a :: rest) (hd : decode c.code g.pc = .ok (.aastore, 1)) :
    ∃ T' h', Stand p l e R s m args below meth c T' (locs ++ [⟨a, j.toNatClampNeg⟩]) cells slots ∧ T'.heap = h' ∧ Wr h h' a j.toNatClampNeg (.ref y) ∧ Arv Z h' a k (.object O) z (vs.set i (.ref y)) dv ∧ ∀ target, Steps p.tables e below (T'.setTop { g with pc := g.pc + 1, stack := rest }) target → Steps p.tables e below (T.setTop g) target := by
  obtain ⟨cl, A, q1, S, q3, H, G⟩ := F
  obtain ⟨T', h', X', e', W, st⟩ := stR X hx hZ eT A (j := j) (v := .ref y) (inb_of S hj) rfl (Sto.ofV A q1 hO (Ins.self hI)) (g := g) hg hs hd
  exact ⟨T', h', X', e', W, Arv.set A q1 S q3 H G rfl W i hi hl, st⟩
theorem Arv.len' (X : Stand p l e R s m args below meth c T locs cells slots) (hx : p.tables.exec = Jvm.exec) (hZ : Z.Warmed39 s.vm) (eT : T.heap = h) (F : Arv Z h a k ty z vs dv)
    {g : JFrame} (hg : g.method = m) {rest : List Value} (hs : g.stack = .ref a :: rest) (hd : decode c.code g.pc = .ok (.arraylength, 1)) :
    ∀ target, Steps p.tables e below (T.setTop { g with pc := g.pc + 1, stack := .int z :: rest }) target → Steps p.tables e below (T.setTop g) target := by
  obtain ⟨cl, A, q1, S, q3, H, G⟩ := F
  have r := X.arraylength hx (by rw [eT]; exact A.1) (State.isArrayOf_alike hZ.alike A.2.1) (g := g) hg hs hd
  rw [len_of S q3] at r
  exact r
end OwnVec
end Jvm.RoadKit
namespace Jvm.RoadKit
open Sem ClassFile Op Lib Jvm.Stand Jvm.Free Jvm.LawKit
section OwnHeld
variable {p : Program} {l : Launch} {e : Env} {R : Room} {s : State} {m : MethodId} {args : Array Value} {below : List Frame} {meth : Method} {c : Code} {T : State} {locs : List Loc} {cells slots : Nat} {Z : State} {a0 : Array Value} {h h1 : Heap} {kc ks : Nat} {Q : Option Value → Heap → List Loc → Prop} {G : Outcome → State → Prop} {U U' : State} {EL : List (String × Nat)}
/-- a byte array's place read -/
theorem Arv.ldB {a : Addr} {k : ClassId} {z j : Int32} {vs : List Value} {dv : Value} (X : Stand p l e R s m args below meth c T locs cells slots) (hx : p.tables.exec = Jvm.exec) (hZ : Z.Warmed39 s.vm) (eT : T.heap = h) (F : Arv Z h a k .byte z vs dv) (hj : ¬ j < 0 ∧ j < z) {v : Value} (hv : vs.getD j.toNatClampNeg dv = v)
    {g : JFrame} (hg : g.method = m) {rest : List Value} (hs : g.stack = .int j :: .ref a :: rest) (hd : decode c.code g.pc = .ok (.baload, 1)) :
    ∀ target, Steps p.tables e below (T.setTop { g with pc := g.pc + 1, stack := v :: rest }) target → Steps p.tables e below (T.setTop g) target := by
  obtain ⟨cl, A, q1, S, q3, H, G⟩ := F
  exact X.baloadBytes hx (j := j) (v := v) (by rw [eT]; exact A.1) (State.isArrayOf_alike hZ.alike A.2.1) A.2.2 (inb_of S hj) (H.at (inb_of S hj) hv) (g := g) hg hs hd
/-- it returned, Q says what, String constants may have come to be interned, and the assumed words on them go on -/
def OEndH (Z : State) (EL : List (String × Nat)) (s : State) (kc ks : Nat) (Q : Option Value → Heap → List Loc → Prop) (o : Outcome) (t : State) : Prop := ∃ v L, o = .returned v ∧ Q v t.heap L ∧ CHr Z EL s.vm s.heap t.vm t.heap ∧ ReturnedEndW s o t L kc ks
theorem OGo.retH {vm₁ : Vm} {n : Nat} (X : Stand p l e R (s.setVm vm₁) m args below meth c T locs cells slots) (hS : s.Since vm₁ n) (hn : n ≤ T.heap.size) (hZ : Z.Warmed39 vm₁) (hEL : EW Z a0 EL) (hs0 : s.heap = h) (hC : CHr Z EL s.vm h vm₁ T.heap) {v : Option Value} {g : JFrame} (hv : meth.sig.returnType = none → v = none) (hlk : meth.locks = false)
    (hs : ∀ fs, (∀ (f : JFrame) (acts : List Action), f.method = m → f.locked = none → f.entered = [] → (doReturn e (T.setTop f) acts v).1 = T.setFrames fs) → Steps p.tables e below (T.setTop g) (T.setFrames fs))
    (hQ : Q v T.heap locs) (hc : cells ≤ kc) (hl : slots ≤ ks) : OGo p e below (OEndH Z EL s kc ks Q) (T.setTop g) := by
  have hC' := hC.trans (CHv.at X hZ hEL hC.1)
  obtain ⟨fs, hr, hrun, hended, h1, h2, h3, h4⟩ := X.leaveW hS hn (v := v) hv hlk
  exact ⟨_, _, hs fs hr, hrun, hended, v, locs, rfl, hQ, by rw [hs0]; exact hC', h1, h2, h3, h4.mono hc hl⟩
theorem OGo.retNH {vm₁ : Vm} {n : Nat} (X : Stand p l e R (s.setVm vm₁) m args below meth c T locs cells slots) (hS : s.Since vm₁ n) (eT : T.heap = h1) (hn : n ≤ h1.size) (hZ : Z.Warmed39 vm₁) (hEL : EW Z a0 EL) (hs0 : s.heap = h) (hC : CHr Z EL s.vm h vm₁ h1) (hx : p.tables.exec = Jvm.exec) {pc : Nat} {Ls : Array Slot} {z : Int32} {t : FieldType} {rest : List Value} (hret : meth.sig.returnType = some t) (hlk : meth.locks = false) (ht : t = .boolean ∨ t = .byte ∨ t = .char ∨ t = .short)
    (hd : decode c.code pc = .ok (.ireturn, 1)) (hQ : Q (some (.int (nar t z))) h1 locs) (hc : cells ≤ kc) (hl : slots ≤ ks) : OGo p e below (OEndH Z EL s kc ks Q) (T.setTop (mkF m pc Ls (.int z :: rest))) := by
  subst eT
  exact OGo.retH X hS hn hZ hEL hs0 hC (fun q => by rw [hret] at q; cases q) hlk (fun fs hr => Jvm.RoadKit.retN X hx hret ht hd hr) hQ hc hl
/-- the contract of a body that may load String constants of EL -/
def OMetH (l : Launch) (Z : State) (EL : List (String × Nat)) (y : MethodName) (bytes : ByteArray) (maxL : Nat) (ret : Option FieldType) (ws : List Jvm.Cond) (rm : Room) (as : Array Value) (h0 : Heap) (Q : Option Value → Heap → List Loc → Prop) : Prop :=
  MetFree l y (head1 (Jvm.Cond.code y bytes maxL ret :: ws) rm) (fun a U => a = as ∧ Z.Warmed39 U.vm ∧ U.heap = h0 ∧ CHv Z EL U.vm h0) (fun _ _ _ _ _ => True) (fun _ U o U' => ∃ v L, o = .returned v ∧ Q v U'.heap L ∧ CHr Z EL U.vm U.heap U'.vm U'.heap ∧ ReturnedEndW U o U' L rm.cells rm.slots)
theorem OMetH.of {y : MethodName} {bytes : ByteArray} {maxL : Nat} {ret : Option FieldType} {ws : List Jvm.Cond} {rm : Room} {as : Array Value} {h0 : Heap} (hpn : plainFor y = true)
    (H : ∀ (p : Program) (e : Env) (s : State) (m : MethodId) (below : List Frame) (meth : Method) (c : Code) (T0 : State), Stand p l e rm s m as below meth c T0 [] 0 0 → p.tables.exec = Jvm.exec → c.code = bytes → c.maxLocals = maxL → s.vm.findClass y.cls = some m.cls → meth.name = y.name → meth.sig.returnType = ret → meth.locks = false → Z.Warmed39 s.vm → T0.heap = h0 → s.heap = h0 → CHv Z EL s.vm h0 →
      OGo p e below (OEndH Z EL s rm.cells rm.slots Q) (T0.setTop (entryFrame m as maxL))) : OMetH l Z EL y bytes maxL ret ws rm as h0 Q := by
  refine MetFree.of_bodySF hpn hisR ?_
  intro p e s m args below meth c s₁ Bd hml0 hP hK
  obtain ⟨rfl, hZ, hh, hC⟩ := hP
  exact H p e s m below meth c s₁ (Stand.of_body Bd) Bd.exec Bd.bytes hml0 (findClass_of_methodNamed Bd.named) (name_of_methodNamed Bd.named Bd.method).1 Bd.returns Bd.notSynchronized hZ (by rw [← hh, Bd.state]; rfl) hh hC
/-- a call of a static method that may load String constants of EL -/
theorem OGo.callSH {vm0 : Vm} {k0 : Nat} (X : Stand p l e R (s.setVm vm0) m args below meth c T locs cells slots) (hx : p.tables.exec = Jvm.exec) (hZ : Z.Warmed39 vm0) (hS : s.Since vm0 k0) (hk : k0 ≤ h.size) (hEL : EW Z a0 EL) (hC : CHv Z EL vm0 h) {own : String} {index : Nat} {y : MethodName} {bytes : ByteArray} {maxL : Nat} {ret : Option FieldType}
    (hown : vm0.findClass own = some m.cls) (w1 : (Jvm.Cond.methodLink own index y).before a0 Z = true) (w2 : (Jvm.Cond.static y).before a0 Z = true) (w3 : (Jvm.Cond.initialized y.cls).before a0 Z = true) (w4 : (Jvm.Cond.code y bytes maxL ret).before a0 Z = true)
    (hy : y.cls ≠ "java/lang/invoke/MethodHandle" ∧ y.cls ≠ "java/lang/invoke/VarHandle") {g : JFrame} {argsL rest : List Value} {rm : Room} {Q' : Option Value → Heap → List Loc → Prop} (eT : T.heap = h) (hM : OMetH l Z EL y bytes maxL ret [] rm argsL.toArray h Q')
    (hg : g.method = m) (hsize : g.locals.size = c.maxLocals) (hlen : ∀ sig, parseMethodDescriptor y.desc = some sig → argsL.length = sig.parameters.length) (hstack : g.stack = argsL.reverse ++ rest) {W : Nat} (hW : 2 * g.monitorRoom + (rest.map fun v => v.category).sum ≤ W) (hd : decode c.code g.pc = .ok (.invokestatic index, 3))
    (hf : rm.frames + 1 ≤ R.frames) (hl : W + (maxL + 11) + rm.locals ≤ R.locals) (hc : cells + rm.cells ≤ R.cells) (hs : slots + rm.slots ≤ R.slots)
    (k : ∀ (v : Option Value) (T' : State) (L' : List Loc), Stand p l e R (s.setVm T'.vm) m args below meth c T' (locs ++ L') (cells + rm.cells) (slots + rm.slots) → Q' v T'.heap L' → s.Since T'.vm T'.heap.size → Z.Warmed39 T'.vm → T'.vm.findClass own = some m.cls → CHr Z EL vm0 h T'.vm T'.heap → OGo p e below G (T'.setTop { g with pc := g.pc + 3, stack := v.toList ++ rest })) : OGo p e below G (T.setTop g) := by
  have hZ' : Z.Warmed39 (s.setVm vm0).vm := hZ
  obtain ⟨v, vm₁, B, hW₁, X', hS', hgr, ⟨L, hQ, e1, e2, e3, hC'⟩, st⟩ := Jvm.RoadKit.callSS X hx (y := y) hown (mvT hZ' w1) (mvT hZ' w2) (mvT hZ' w3) (mvT hZ' w4) hy (backOfSH (s := s) (W := W) hM hZ w4 w3 hf hl hEL hC) (g := g) hg hsize (argsL := argsL) (rest := rest) hlen hstack hW hd (fun _ _ => ⟨rfl, eT, hc, hs⟩)
  rw [e1, e2, e3] at X'
  subst eT
  exact OGo.trans st (k v B.U L X' hQ (hS.trans hS' (Nat.le_trans hk hgr)) (State.Warmed39.trans (t := s.setVm vm0) hZ hS'.1) ((hS'.1.alike.findClass _ _).trans hown) hC')
end OwnHeld
end Jvm.RoadKit
namespace Jvm.Pilot.@@N@@
open Jvm Jvm.ClassFile Sem Op Lib Jvm.Free Jvm.Stand Jvm.LawKit Jvm.RoadKit Bundle Jvm.Pilot.@@N@@.Jvm.D
theorem pd_0 : parseMethodDescriptor "()B" = some ⟨[], some .byte⟩ := by decide +kernel
theorem pd_1 : parseMethodDescriptor "(I)Z" = some ⟨[.int], some .boolean⟩ := by decide +kernel
theorem pd_2 : parseMethodDescriptor "(II)I" = some ⟨[.int, .int], some .int⟩ := by decide +kernel
theorem pd_3 : parseMethodDescriptor "([BIII)I" = some ⟨[(.array .byte), .int, .int, .int], some .int⟩ := by decide +kernel
theorem pd_4 : parseMethodDescriptor "()Z" = some ⟨[], some .boolean⟩ := by decide +kernel
theorem pd_5 : parseMethodDescriptor "()I" = some ⟨[], some .int⟩ := by decide +kernel
theorem pd_6 : parseMethodDescriptor "(I)I" = some ⟨[.int], some .int⟩ := by decide +kernel
theorem d_isL_0 : decode jdk_42_method_154_code 0 = .ok (.getstatic 38, 3) := by decide +kernel
theorem d_isL_3 : decode jdk_42_method_154_code 3 = .ok (.ifCond .eq 14, 3) := by decide +kernel
theorem d_isL_6 : decode jdk_42_method_154_code 6 = .ok (.aload_n 0, 1) := by decide +kernel
theorem d_isL_7 : decode jdk_42_method_154_code 7 = .ok (.getfield 15, 3) := by decide +kernel
theorem d_isL_10 : decode jdk_42_method_154_code 10 = .ok (.ifCond .ne 7, 3) := by decide +kernel
theorem d_isL_13 : decode jdk_42_method_154_code 13 = .ok (.iconst 1, 1) := by decide +kernel
theorem d_isL_14 : decode jdk_42_method_154_code 14 = .ok (.goto 4, 3) := by decide +kernel
theorem d_isL_18 : decode jdk_42_method_154_code 18 = .ok (.ireturn, 1) := by decide +kernel
theorem ef_isL (m : MethodId) (a1 : Addr) : entryFrame m #[(.ref a1)] 1 = mkF m 0 #[.val (.ref a1)] [] := by first | (simp [entryFrame, mkF, argsToLocals, Value.category]; done) | rfl
theorem pn_isL : plainFor (⟨"java/lang/String", "isLatin1", "()Z"⟩ : MethodName) = true := by first | exact plainFor_of_name (by first | (simp [plainName, overriddenIn]; done) | decide +kernel) | decide +kernel
set_option maxRecDepth 65536 in
set_option maxHeartbeats 40000000 in
theorem rm_isL (l : Launch) (Z : State) (a0 : Array Value) (hw : ∀ d ∈ tables_1, d.before a0 Z = true) (a1 : Addr) (b1 : Addr) (k1 : ClassId) (cs : Int32) (h0 : Heap) (E1 : Exa Z h0 a1 "java/lang/String") (f1 : Fld Z h0 a1 "java/lang/String" "coder" "B" (.int 0)) (f2 : Fld Z h0 a1 "java/lang/String" "value" "[B" (.ref b1)) (A1 : Arv Z h0 b1 k1 .byte 15 [.int 33, .int 35, .int 36, .int 37, .int 38, .int 39, .int 42, .int 43, .int 45, .int 46, .int 94, .int 95, .int 96, .int 124, .int 126] (.int 0)) (S0 : Sta Z h0 "java/lang/String" "COMPACT_STRINGS" "Z" (.int cs)) (hcs : ¬ cs = 0) :
    OMet l Z (⟨"java/lang/String", "isLatin1", "()Z"⟩ : MethodName) jdk_42_method_154_code 1 (some .boolean) [] ({ frames := 0, cells := 0, slots := 0, locals := 0 } : Room) #[(.ref a1)] h0 (OPure (some (.int 1)) h0) := by
  refine OMet.of pn_isL ?_
  intro p e s m below meth c T0 X0 hx hby hml hown0 hnm hret hlk hZ e0
  have hown : s.vm.findClass "java/lang/String" = some m.cls := hown0
  refine OGo.go (fun t k => castTop (ef_isL m a1) k) ?_
  obtain ⟨T1, X1, e1, st1⟩ := getS2 X0 hx hZ hown (host := "") (Or.inl (hw _ (List.mem_of_getElem? (i := 28) rfl))) Via.refl e0 S0 (g := (mkF m 0 #[.val (.ref a1)] [])) rfl (hb hby d_isL_0)
  refine OGo.go (U' := T1.setTop (mkF m 3 #[.val (.ref a1)] [(.int cs)])) st1 ?_
  refine OGo.go (U' := T1.setTop (mkF m 6 #[.val (.ref a1)] [])) (fun _ k => XS.ifNo X1.here hx rfl (hb hby d_isL_3) rfl ((if0 _ _).trans (feq hcs).1) k) ?_
  refine OGo.go (U' := T1.setTop (mkF m 7 #[.val (.ref a1)] [(.ref a1)])) (fun _ k => XS.aloadN X1.here hx rfl (hb hby d_isL_6) rfl rfl k) ?_
  obtain ⟨T2, X2, e2, st2⟩ := getF X1 hx hZ hown (host := "") (Or.inl (hw _ (List.mem_of_getElem? (i := 29) rfl))) Via.refl e1 f1 (g := (mkF m 7 #[.val (.ref a1)] [(.ref a1)])) rfl rfl (hb hby d_isL_7)
  refine OGo.go (U' := T2.setTop (mkF m 10 #[.val (.ref a1)] [(.int (0 : Int32))])) st2 ?_
  refine OGo.go (U' := T2.setTop (mkF m 13 #[.val (.ref a1)] [])) (fun _ k => XS.ifNo X2.here hx rfl (hb hby d_isL_10) rfl ((if0 _ _).trans (teq rfl).2) k) ?_
  refine OGo.go (U' := T2.setTop (mkF m 14 #[.val (.ref a1)] [(.int (1 : Int32))])) (fun _ k => XS.iconst X2.here hx rfl (hb hby d_isL_13) k) ?_
  refine OGo.go (U' := T2.setTop (mkF m 18 #[.val (.ref a1)] [(.int (1 : Int32))])) (fun _ k => XS.goto X2.here hx rfl (pc0 := 14) (pc' := 18) rfl (hb hby d_isL_14) (by decide) (by decide) k) ?_
  refine OGo.retN X2 hx (t := .boolean) hret hlk (by simp) (hb hby d_isL_18) ?_ (by decide) (by decide)
  exact ⟨congrArg (fun z => some (Value.int z)) (nar_b1), e2, rfl⟩
theorem d_cod_0 : decode jdk_42_method_152_code 0 = .ok (.getstatic 38, 3) := by decide +kernel
theorem d_cod_3 : decode jdk_42_method_152_code 3 = .ok (.ifCond .eq 10, 3) := by decide +kernel
theorem d_cod_6 : decode jdk_42_method_152_code 6 = .ok (.aload_n 0, 1) := by decide +kernel
theorem d_cod_7 : decode jdk_42_method_152_code 7 = .ok (.getfield 15, 3) := by decide +kernel
theorem d_cod_10 : decode jdk_42_method_152_code 10 = .ok (.goto 4, 3) := by decide +kernel
theorem d_cod_14 : decode jdk_42_method_152_code 14 = .ok (.ireturn, 1) := by decide +kernel
theorem ef_cod (m : MethodId) (a1 : Addr) : entryFrame m #[(.ref a1)] 1 = mkF m 0 #[.val (.ref a1)] [] := by first | (simp [entryFrame, mkF, argsToLocals, Value.category]; done) | rfl
theorem pn_cod : plainFor (⟨"java/lang/String", "coder", "()B"⟩ : MethodName) = true := by first | exact plainFor_of_name (by first | (simp [plainName, overriddenIn]; done) | decide +kernel) | decide +kernel
set_option maxRecDepth 65536 in
set_option maxHeartbeats 40000000 in
theorem rm_cod (l : Launch) (Z : State) (a0 : Array Value) (hw : ∀ d ∈ tables_1, d.before a0 Z = true) (a1 : Addr) (b1 : Addr) (k1 : ClassId) (cs : Int32) (h0 : Heap) (E1 : Exa Z h0 a1 "java/lang/String") (f1 : Fld Z h0 a1 "java/lang/String" "coder" "B" (.int 0)) (f2 : Fld Z h0 a1 "java/lang/String" "value" "[B" (.ref b1)) (A1 : Arv Z h0 b1 k1 .byte 15 [.int 33, .int 35, .int 36, .int 37, .int 38, .int 39, .int 42, .int 43, .int 45, .int 46, .int 94, .int 95, .int 96, .int 124, .int 126] (.int 0)) (S0 : Sta Z h0 "java/lang/String" "COMPACT_STRINGS" "Z" (.int cs)) (hcs : ¬ cs = 0) :
    OMet l Z (⟨"java/lang/String", "coder", "()B"⟩ : MethodName) jdk_42_method_152_code 1 (some .byte) [] ({ frames := 0, cells := 0, slots := 0, locals := 0 } : Room) #[(.ref a1)] h0 (OPure (some (.int 0)) h0) := by
  refine OMet.of pn_cod ?_
  intro p e s m below meth c T0 X0 hx hby hml hown0 hnm hret hlk hZ e0
  have hown : s.vm.findClass "java/lang/String" = some m.cls := hown0
  refine OGo.go (fun t k => castTop (ef_cod m a1) k) ?_
  obtain ⟨T1, X1, e1, st1⟩ := getS2 X0 hx hZ hown (host := "") (Or.inl (hw _ (List.mem_of_getElem? (i := 28) rfl))) Via.refl e0 S0 (g := (mkF m 0 #[.val (.ref a1)] [])) rfl (hb hby d_cod_0)
  refine OGo.go (U' := T1.setTop (mkF m 3 #[.val (.ref a1)] [(.int cs)])) st1 ?_
  refine OGo.go (U' := T1.setTop (mkF m 6 #[.val (.ref a1)] [])) (fun _ k => XS.ifNo X1.here hx rfl (hb hby d_cod_3) rfl ((if0 _ _).trans (feq hcs).1) k) ?_
  refine OGo.go (U' := T1.setTop (mkF m 7 #[.val (.ref a1)] [(.ref a1)])) (fun _ k => XS.aloadN X1.here hx rfl (hb hby d_cod_6) rfl rfl k) ?_
  obtain ⟨T2, X2, e2, st2⟩ := getF X1 hx hZ hown (host := "") (Or.inl (hw _ (List.mem_of_getElem? (i := 29) rfl))) Via.refl e1 f1 (g := (mkF m 7 #[.val (.ref a1)] [(.ref a1)])) rfl rfl (hb hby d_cod_7)
  refine OGo.go (U' := T2.setTop (mkF m 10 #[.val (.ref a1)] [(.int (0 : Int32))])) st2 ?_
  refine OGo.go (U' := T2.setTop (mkF m 14 #[.val (.ref a1)] [(.int (0 : Int32))])) (fun _ k => XS.goto X2.here hx rfl (pc0 := 10) (pc' := 14) rfl (hb hby d_cod_10) (by decide) (by decide) k) ?_
  refine OGo.retN X2 hx (t := .byte) hret hlk (by simp) (hb hby d_cod_14) ?_ (by decide) (by decide)
  exact ⟨congrArg (fun z => some (Value.int z)) ((by decide : nar .byte 0 = 0)), e2, rfl⟩
theorem d_len_0 : decode jdk_42_method_54_code 0 = .ok (.aload_n 0, 1) := by decide +kernel
theorem d_len_1 : decode jdk_42_method_54_code 1 = .ok (.getfield 9, 3) := by decide +kernel
theorem d_len_4 : decode jdk_42_method_54_code 4 = .ok (.arraylength, 1) := by decide +kernel
theorem d_len_5 : decode jdk_42_method_54_code 5 = .ok (.aload_n 0, 1) := by decide +kernel
theorem d_len_6 : decode jdk_42_method_54_code 6 = .ok (.invokevirtual 335, 3) := by decide +kernel
theorem d_len_9 : decode jdk_42_method_54_code 9 = .ok (.ishr, 1) := by decide +kernel
theorem d_len_10 : decode jdk_42_method_54_code 10 = .ok (.ireturn, 1) := by decide +kernel
theorem ef_len (m : MethodId) (a1 : Addr) : entryFrame m #[(.ref a1)] 1 = mkF m 0 #[.val (.ref a1)] [] := by first | (simp [entryFrame, mkF, argsToLocals, Value.category]; done) | rfl
theorem pn_len : plainFor (⟨"java/lang/String", "length", "()I"⟩ : MethodName) = true := by first | exact plainFor_of_name (by first | (simp [plainName, overriddenIn]; done) | decide +kernel) | decide +kernel
set_option maxRecDepth 65536 in
set_option maxHeartbeats 40000000 in
theorem rm_len (l : Launch) (Z : State) (a0 : Array Value) (hw : ∀ d ∈ tables_1, d.before a0 Z = true) (a1 : Addr) (b1 : Addr) (k1 : ClassId) (cs : Int32) (h0 : Heap) (E1 : Exa Z h0 a1 "java/lang/String") (f1 : Fld Z h0 a1 "java/lang/String" "coder" "B" (.int 0)) (f2 : Fld Z h0 a1 "java/lang/String" "value" "[B" (.ref b1)) (A1 : Arv Z h0 b1 k1 .byte 15 [.int 33, .int 35, .int 36, .int 37, .int 38, .int 39, .int 42, .int 43, .int 45, .int 46, .int 94, .int 95, .int 96, .int 124, .int 126] (.int 0)) (S0 : Sta Z h0 "java/lang/String" "COMPACT_STRINGS" "Z" (.int cs)) (hcs : ¬ cs = 0) :
    OMet l Z (⟨"java/lang/String", "length", "()I"⟩ : MethodName) jdk_42_method_54_code 1 (some .int) [] ({ frames := 1, cells := 0, slots := 0, locals := 13 } : Room) #[(.ref a1)] h0 (OPure (some (.int 15)) h0) := by
  refine OMet.of pn_len ?_
  intro p e s m below meth c T0 X0 hx hby hml hown0 hnm hret hlk hZ e0
  have hown : s.vm.findClass "java/lang/String" = some m.cls := hown0
  refine OGo.go (fun t k => castTop (ef_len m a1) k) ?_
  refine OGo.go (U' := T0.setTop (mkF m 1 #[.val (.ref a1)] [(.ref a1)])) (fun _ k => XS.aloadN X0.here hx rfl (hb hby d_len_0) rfl rfl k) ?_
  obtain ⟨T1, X1, e1, st1⟩ := getF X0 hx hZ hown (host := "") (Or.inl (hw _ (List.mem_of_getElem? (i := 30) rfl))) Via.refl e0 f2 (g := (mkF m 1 #[.val (.ref a1)] [(.ref a1)])) rfl rfl (hb hby d_len_1)
  refine OGo.go (U' := T1.setTop (mkF m 4 #[.val (.ref a1)] [(.ref b1)])) st1 ?_
  refine OGo.go (U' := T1.setTop (mkF m 5 #[.val (.ref a1)] [(.int (15 : Int32))])) (fun _ k => Arv.len' X1 hx hZ e1 A1 (g := (mkF m 4 #[.val (.ref a1)] [(.ref b1)])) rfl rfl (hb hby d_len_4) _ k) ?_
  refine OGo.go (U' := T1.setTop (mkF m 6 #[.val (.ref a1)] [(.ref a1), (.int (15 : Int32))])) (fun _ k => XS.aloadN X1.here hx rfl (hb hby d_len_5) rfl rfl k) ?_
  refine OGo.callV X1 hx hZ (y := (⟨"java/lang/String", "coder", "()B"⟩ : MethodName)) (C := "java/lang/String") hown (hw _ (List.mem_of_getElem? (i := 36) rfl)) (hw _ (List.mem_of_getElem? (i := 37) rfl)) (hw _ (List.mem_of_getElem? (i := 39) rfl)) (hw _ (List.mem_of_getElem? (i := 38) rfl)) (hw _ (List.mem_of_getElem? (i := 6) rfl)) (hw _ (List.mem_of_getElem? (i := 40) rfl)) (by decide) (g := (mkF m 6 #[.val (.ref a1)] [(.ref a1), (.int (15 : Int32))])) (a := a1) (argsL := []) (rest := [(.int (15 : Int32))]) e1 E1 (rm_cod l Z a0 hw a1 b1 k1 cs h0 E1 f1 f2 A1 S0 hcs) rfl (by rw [hml]; rfl) (lenOf pd_0 rfl) rfl (W := 1) (by show 2 * 0 + _ ≤ _; exact Nat.le_of_eq rfl) (hb hby d_len_6) (by decide) (by decide) (by decide) (by decide) ?_
  rintro _ T3 _ X3 ⟨rfl, e3, rfl⟩
  rw [List.append_nil] at X3
  show OGo p e below _ (T3.setTop (mkF m 9 #[.val (.ref a1)] [(.int (0 : Int32)), (.int (15 : Int32))]))
  refine OGo.go (U' := T3.setTop (mkF m 10 #[.val (.ref a1)] [(.int ((15 : Int32) >>> ((0 : Int32) &&& 31)))])) (fun _ k => XS.ishr X3.here hx rfl (hb hby d_len_9) rfl k) ?_
  refine OGo.retI X3 hx hret hlk (hb hby d_len_10) ?_ (by decide) (by decide)
  exact ⟨congrArg (fun z => some (Value.int z)) (by decide), e3, rfl⟩
def F_can (x1 : Int32) : Int32 := (nar .boolean (if x1 < (0 : Int32) then (0 : Int32) else (if (255 : Int32) < x1 then (0 : Int32) else (1 : Int32))))
theorem d_can_0 : decode jdk_43_method_4_code 0 = .ok (.iload_n 0, 1) := by decide +kernel
theorem d_can_1 : decode jdk_43_method_4_code 1 = .ok (.ifCond .lt 14, 3) := by decide +kernel
theorem d_can_4 : decode jdk_43_method_4_code 4 = .ok (.iload_n 0, 1) := by decide +kernel
theorem d_can_5 : decode jdk_43_method_4_code 5 = .ok (.sipush 255, 3) := by decide +kernel
theorem d_can_8 : decode jdk_43_method_4_code 8 = .ok (.if_icmp .gt 7, 3) := by decide +kernel
theorem d_can_11 : decode jdk_43_method_4_code 11 = .ok (.iconst 1, 1) := by decide +kernel
theorem d_can_12 : decode jdk_43_method_4_code 12 = .ok (.goto 4, 3) := by decide +kernel
theorem d_can_15 : decode jdk_43_method_4_code 15 = .ok (.iconst 0, 1) := by decide +kernel
theorem d_can_16 : decode jdk_43_method_4_code 16 = .ok (.ireturn, 1) := by decide +kernel
theorem ef_can (m : MethodId) (x1 : Int32) : entryFrame m #[(.int x1)] 1 = mkF m 0 #[.val (.int x1)] [] := by first | (simp [entryFrame, mkF, argsToLocals, Value.category]; done) | rfl
theorem pn_can : plainFor (⟨"java/lang/StringLatin1", "canEncode", "(I)Z"⟩ : MethodName) = true := by first | exact plainFor_of_name (by first | (simp [plainName, overriddenIn]; done) | decide +kernel) | decide +kernel
set_option maxRecDepth 65536 in
set_option maxHeartbeats 40000000 in
theorem rm_can (l : Launch) (Z : State) (a0 : Array Value) (hw : ∀ d ∈ tables_1, d.before a0 Z = true) (x1 : Int32)  (h0 : Heap)  :
    OMet l Z (⟨"java/lang/StringLatin1", "canEncode", "(I)Z"⟩ : MethodName) jdk_43_method_4_code 1 (some .boolean) [] ({ frames := 0, cells := 0, slots := 0, locals := 0 } : Room) #[(.int x1)] h0 (OPure (some (.int (F_can x1))) h0) := by
  refine OMet.of pn_can ?_
  intro p e s m below meth c T0 X0 hx hby hml hown0 hnm hret hlk hZ e0
  have hown : s.vm.findClass "java/lang/StringLatin1" = some m.cls := hown0
  refine OGo.go (fun t k => castTop (ef_can m x1) k) ?_
  refine OGo.go (U' := T0.setTop (mkF m 1 #[.val (.int x1)] [(.int x1)])) (fun _ k => XS.iloadN X0.here hx rfl (hb hby d_can_0) rfl k) ?_
  refine OGo.ite1 (P := x1 < (0 : Int32)) (fun (z2 : Int32) => T0.setTop (mkF m 16 #[.val (.int x1)] [(.int z2)])) (x := (0 : Int32)) (y := (if (255 : Int32) < x1 then (0 : Int32) else (1 : Int32))) (fun hc1 k3 => ?_) (fun hc1 k3 => ?_) ?_
  · skip
    refine OGo.go (U' := T0.setTop (mkF m 15 #[.val (.int x1)] [])) (fun _ k => XS.ifYes X0.here hx rfl (pc0 := 1) (pc' := 15) rfl (hb hby d_can_1) rfl ((if0 _ _).trans (tlt hc1).1) (by decide) (by decide) k) ?_
    refine OGo.go (U' := T0.setTop (mkF m 16 #[.val (.int x1)] [(.int (0 : Int32))])) (fun _ k => XS.iconst X0.here hx rfl (hb hby d_can_15) k) ?_
    exact k3
  · skip
    refine OGo.go (U' := T0.setTop (mkF m 4 #[.val (.int x1)] [])) (fun _ k => XS.ifNo X0.here hx rfl (hb hby d_can_1) rfl ((if0 _ _).trans (flt hc1).1) k) ?_
    refine OGo.go (U' := T0.setTop (mkF m 5 #[.val (.int x1)] [(.int x1)])) (fun _ k => XS.iloadN X0.here hx rfl (hb hby d_can_4) rfl k) ?_
    refine OGo.go (U' := T0.setTop (mkF m 8 #[.val (.int x1)] [(.int (255 : Int32)), (.int x1)])) (fun _ k => XS.sipush X0.here hx rfl (hb hby d_can_5) k) ?_
    refine OGo.ite1 (P := (255 : Int32) < x1) (fun (z5 : Int32) => T0.setTop (mkF m 16 #[.val (.int x1)] [(.int z5)])) (x := (0 : Int32)) (y := (1 : Int32)) (fun hc4 k6 => ?_) (fun hc4 k6 => ?_) (fun z5 hz5 => by subst hz5; exact k3)
    · skip
      refine OGo.go (U' := T0.setTop (mkF m 15 #[.val (.int x1)] [])) (fun _ k => XS.icmpYes X0.here hx rfl (pc0 := 8) (pc' := 15) rfl (hb hby d_can_8) rfl (tlt hc4).2.2.1 (by decide) (by decide) k) ?_
      refine OGo.go (U' := T0.setTop (mkF m 16 #[.val (.int x1)] [(.int (0 : Int32))])) (fun _ k => XS.iconst X0.here hx rfl (hb hby d_can_15) k) ?_
      exact k6
    · skip
      refine OGo.go (U' := T0.setTop (mkF m 11 #[.val (.int x1)] [])) (fun _ k => XS.icmpNo X0.here hx rfl (hb hby d_can_8) rfl (flt hc4).2.2.1 k) ?_
      refine OGo.go (U' := T0.setTop (mkF m 12 #[.val (.int x1)] [(.int (1 : Int32))])) (fun _ k => XS.iconst X0.here hx rfl (hb hby d_can_11) k) ?_
      refine OGo.go (U' := T0.setTop (mkF m 16 #[.val (.int x1)] [(.int (1 : Int32))])) (fun _ k => XS.goto X0.here hx rfl (pc0 := 12) (pc' := 16) rfl (hb hby d_can_12) (by decide) (by decide) k) ?_
      exact k6
  intro z2 hz2
  refine OGo.retN X0 hx (t := .boolean) hret hlk (by simp) (hb hby d_can_16) ?_ (by decide) (by decide)
  refine ⟨?_, e0, rfl⟩
  subst hz2
  rfl
def F_ref (x1 : Int32) : Int32 := (if x1 < (33 : Int32) then (nar .boolean (0 : Int32)) else (if (126 : Int32) < x1 then (nar .boolean (0 : Int32)) else (if x1 = (34 : Int32) then (nar .boolean (0 : Int32)) else (if x1 = (40 : Int32) then (nar .boolean (0 : Int32)) else (if x1 = (41 : Int32) then (nar .boolean (0 : Int32)) else (if x1 = (44 : Int32) then (nar .boolean (0 : Int32)) else (if x1 = (47 : Int32) then (nar .boolean (0 : Int32)) else (if x1 < (58 : Int32) then (if x1 < (91 : Int32) then (if x1 = (123 : Int32) then (nar .boolean (0 : Int32)) else (if x1 = (125 : Int32) then (nar .boolean (0 : Int32)) else (nar .boolean (1 : Int32)))) else (if (93 : Int32) < x1 then (if x1 = (123 : Int32) then (nar .boolean (0 : Int32)) else (if x1 = (125 : Int32) then (nar .boolean (0 : Int32)) else (nar .boolean (1 : Int32)))) else (nar .boolean (0 : Int32)))) else (if (64 : Int32) < x1 then (if x1 < (91 : Int32) then (if x1 = (123 : Int32) then (nar .boolean (0 : Int32)) else (if x1 = (125 : Int32) then (nar .boolean (0 : Int32)) else (nar .boolean (1 : Int32)))) else (if (93 : Int32) < x1 then (if x1 = (123 : Int32) then (nar .boolean (0 : Int32)) else (if x1 = (125 : Int32) then (nar .boolean (0 : Int32)) else (nar .boolean (1 : Int32)))) else (nar .boolean (0 : Int32)))) else (nar .boolean (0 : Int32)))))))))))
theorem d_ref_0 : decode method_2_code 0 = .ok (.iload_n 0, 1) := by decide +kernel
theorem d_ref_1 : decode method_2_code 1 = .ok (.bipush 33, 2) := by decide +kernel
theorem d_ref_3 : decode method_2_code 3 = .ok (.if_icmp .lt 9, 3) := by decide +kernel
theorem d_ref_6 : decode method_2_code 6 = .ok (.iload_n 0, 1) := by decide +kernel
theorem d_ref_7 : decode method_2_code 7 = .ok (.bipush 126, 2) := by decide +kernel
theorem d_ref_9 : decode method_2_code 9 = .ok (.if_icmp .le 5, 3) := by decide +kernel
theorem d_ref_12 : decode method_2_code 12 = .ok (.iconst 0, 1) := by decide +kernel
theorem d_ref_13 : decode method_2_code 13 = .ok (.ireturn, 1) := by decide +kernel
theorem d_ref_14 : decode method_2_code 14 = .ok (.iload_n 0, 1) := by decide +kernel
theorem d_ref_15 : decode method_2_code 15 = .ok (.bipush 34, 2) := by decide +kernel
theorem d_ref_17 : decode method_2_code 17 = .ok (.if_icmp .eq 27, 3) := by decide +kernel
theorem d_ref_20 : decode method_2_code 20 = .ok (.iload_n 0, 1) := by decide +kernel
theorem d_ref_21 : decode method_2_code 21 = .ok (.bipush 40, 2) := by decide +kernel
theorem d_ref_23 : decode method_2_code 23 = .ok (.if_icmp .eq 21, 3) := by decide +kernel
theorem d_ref_26 : decode method_2_code 26 = .ok (.iload_n 0, 1) := by decide +kernel
theorem d_ref_27 : decode method_2_code 27 = .ok (.bipush 41, 2) := by decide +kernel
theorem d_ref_29 : decode method_2_code 29 = .ok (.if_icmp .eq 15, 3) := by decide +kernel
theorem d_ref_32 : decode method_2_code 32 = .ok (.iload_n 0, 1) := by decide +kernel
theorem d_ref_33 : decode method_2_code 33 = .ok (.bipush 44, 2) := by decide +kernel
theorem d_ref_35 : decode method_2_code 35 = .ok (.if_icmp .eq 9, 3) := by decide +kernel
theorem d_ref_38 : decode method_2_code 38 = .ok (.iload_n 0, 1) := by decide +kernel
theorem d_ref_39 : decode method_2_code 39 = .ok (.bipush 47, 2) := by decide +kernel
theorem d_ref_41 : decode method_2_code 41 = .ok (.if_icmp .ne 5, 3) := by decide +kernel
theorem d_ref_44 : decode method_2_code 44 = .ok (.iconst 0, 1) := by decide +kernel
theorem d_ref_45 : decode method_2_code 45 = .ok (.ireturn, 1) := by decide +kernel
theorem d_ref_46 : decode method_2_code 46 = .ok (.iload_n 0, 1) := by decide +kernel
theorem d_ref_47 : decode method_2_code 47 = .ok (.bipush 58, 2) := by decide +kernel
theorem d_ref_49 : decode method_2_code 49 = .ok (.if_icmp .lt 11, 3) := by decide +kernel
theorem d_ref_52 : decode method_2_code 52 = .ok (.iload_n 0, 1) := by decide +kernel
theorem d_ref_53 : decode method_2_code 53 = .ok (.bipush 64, 2) := by decide +kernel
theorem d_ref_55 : decode method_2_code 55 = .ok (.if_icmp .gt 5, 3) := by decide +kernel
theorem d_ref_58 : decode method_2_code 58 = .ok (.iconst 0, 1) := by decide +kernel
theorem d_ref_59 : decode method_2_code 59 = .ok (.ireturn, 1) := by decide +kernel
theorem d_ref_60 : decode method_2_code 60 = .ok (.iload_n 0, 1) := by decide +kernel
theorem d_ref_61 : decode method_2_code 61 = .ok (.bipush 91, 2) := by decide +kernel
theorem d_ref_63 : decode method_2_code 63 = .ok (.if_icmp .lt 11, 3) := by decide +kernel
theorem d_ref_66 : decode method_2_code 66 = .ok (.iload_n 0, 1) := by decide +kernel
theorem d_ref_67 : decode method_2_code 67 = .ok (.bipush 93, 2) := by decide +kernel
theorem d_ref_69 : decode method_2_code 69 = .ok (.if_icmp .gt 5, 3) := by decide +kernel
theorem d_ref_72 : decode method_2_code 72 = .ok (.iconst 0, 1) := by decide +kernel
theorem d_ref_73 : decode method_2_code 73 = .ok (.ireturn, 1) := by decide +kernel
theorem d_ref_74 : decode method_2_code 74 = .ok (.iload_n 0, 1) := by decide +kernel
theorem d_ref_75 : decode method_2_code 75 = .ok (.bipush 123, 2) := by decide +kernel
theorem d_ref_77 : decode method_2_code 77 = .ok (.if_icmp .eq 9, 3) := by decide +kernel
theorem d_ref_80 : decode method_2_code 80 = .ok (.iload_n 0, 1) := by decide +kernel
theorem d_ref_81 : decode method_2_code 81 = .ok (.bipush 125, 2) := by decide +kernel
theorem d_ref_83 : decode method_2_code 83 = .ok (.if_icmp .ne 5, 3) := by decide +kernel
theorem d_ref_86 : decode method_2_code 86 = .ok (.iconst 0, 1) := by decide +kernel
theorem d_ref_87 : decode method_2_code 87 = .ok (.ireturn, 1) := by decide +kernel
theorem d_ref_88 : decode method_2_code 88 = .ok (.iconst 1, 1) := by decide +kernel
theorem d_ref_89 : decode method_2_code 89 = .ok (.ireturn, 1) := by decide +kernel
theorem ef_ref (m : MethodId) (x1 : Int32) : entryFrame m #[(.int x1)] 1 = mkF m 0 #[.val (.int x1)] [] := by first | (simp [entryFrame, mkF, argsToLocals, Value.category]; done) | rfl
theorem pn_ref : plainFor (⟨"com/example/loomwire/loomwire/http/FieldCursorIsTokenCharacterPinLaw", "reference", "(I)Z"⟩ : MethodName) = true := by first | exact plainFor_of_name (by first | (simp [plainName, overriddenIn]; done) | decide +kernel) | decide +kernel
set_option maxRecDepth 65536 in
set_option maxHeartbeats 40000000 in
theorem rm_ref (l : Launch) (Z : State) (a0 : Array Value) (hw : ∀ d ∈ tables_1, d.before a0 Z = true) (x1 : Int32)  (h0 : Heap)  :
    OMet l Z (⟨"com/example/loomwire/loomwire/http/FieldCursorIsTokenCharacterPinLaw", "reference", "(I)Z"⟩ : MethodName) method_2_code 1 (some .boolean) [] ({ frames := 0, cells := 0, slots := 0, locals := 0 } : Room) #[(.int x1)] h0 (OPure (some (.int (F_ref x1))) h0) := by
  refine OMet.of pn_ref ?_
  intro p e s m below meth c T0 X0 hx hby hml hown0 hnm hret hlk hZ e0
  have hown : s.vm.findClass "com/example/loomwire/loomwire/http/FieldCursorIsTokenCharacterPinLaw" = some m.cls := hown0
  refine OGo.go (fun t k => castTop (ef_ref m x1) k) ?_
  refine OGo.go (U' := T0.setTop (mkF m 1 #[.val (.int x1)] [(.int x1)])) (fun _ k => XS.iloadN X0.here hx rfl (hb hby d_ref_0) rfl k) ?_
  refine OGo.go (U' := T0.setTop (mkF m 3 #[.val (.int x1)] [(.int (33 : Int32)), (.int x1)])) (fun _ k => XS.bipush X0.here hx rfl (hb hby d_ref_1) k) ?_
  by_cases hc1 : x1 < (33 : Int32)
  · skip
    refine OGo.go (U' := T0.setTop (mkF m 12 #[.val (.int x1)] [])) (fun _ k => XS.icmpYes X0.here hx rfl (pc0 := 3) (pc' := 12) rfl (hb hby d_ref_3) rfl (tlt hc1).1 (by decide) (by decide) k) ?_
    refine OGo.go (U' := T0.setTop (mkF m 13 #[.val (.int x1)] [(.int (0 : Int32))])) (fun _ k => XS.iconst X0.here hx rfl (hb hby d_ref_12) k) ?_
    refine OGo.retN X0 hx (t := .boolean) hret hlk (by simp) (hb hby d_ref_13) ?_ (by decide) (by decide)
    refine ⟨?_, e0, rfl⟩
    rw [F_ref]
    rw [if_pos hc1]
  · skip
    refine OGo.go (U' := T0.setTop (mkF m 6 #[.val (.int x1)] [])) (fun _ k => XS.icmpNo X0.here hx rfl (hb hby d_ref_3) rfl (flt hc1).1 k) ?_
    refine OGo.go (U' := T0.setTop (mkF m 7 #[.val (.int x1)] [(.int x1)])) (fun _ k => XS.iloadN X0.here hx rfl (hb hby d_ref_6) rfl k) ?_
    refine OGo.go (U' := T0.setTop (mkF m 9 #[.val (.int x1)] [(.int (126 : Int32)), (.int x1)])) (fun _ k => XS.bipush X0.here hx rfl (hb hby d_ref_7) k) ?_
    by_cases hc2 : (126 : Int32) < x1
    · skip
      refine OGo.go (U' := T0.setTop (mkF m 12 #[.val (.int x1)] [])) (fun _ k => XS.icmpNo X0.here hx rfl (hb hby d_ref_9) rfl (tlt hc2).2.2.2 k) ?_
      refine OGo.go (U' := T0.setTop (mkF m 13 #[.val (.int x1)] [(.int (0 : Int32))])) (fun _ k => XS.iconst X0.here hx rfl (hb hby d_ref_12) k) ?_
      refine OGo.retN X0 hx (t := .boolean) hret hlk (by simp) (hb hby d_ref_13) ?_ (by decide) (by decide)
      refine ⟨?_, e0, rfl⟩
      rw [F_ref]
      rw [if_neg hc1]
      rw [if_pos hc2]
    · skip
      refine OGo.go (U' := T0.setTop (mkF m 14 #[.val (.int x1)] [])) (fun _ k => XS.icmpYes X0.here hx rfl (pc0 := 9) (pc' := 14) rfl (hb hby d_ref_9) rfl (flt hc2).2.2.2 (by decide) (by decide) k) ?_
      refine OGo.go (U' := T0.setTop (mkF m 15 #[.val (.int x1)] [(.int x1)])) (fun _ k => XS.iloadN X0.here hx rfl (hb hby d_ref_14) rfl k) ?_
      refine OGo.go (U' := T0.setTop (mkF m 17 #[.val (.int x1)] [(.int (34 : Int32)), (.int x1)])) (fun _ k => XS.bipush X0.here hx rfl (hb hby d_ref_15) k) ?_
      by_cases hc3 : x1 = (34 : Int32)
      · skip
        refine OGo.go (U' := T0.setTop (mkF m 44 #[.val (.int x1)] [])) (fun _ k => XS.icmpYes X0.here hx rfl (pc0 := 17) (pc' := 44) rfl (hb hby d_ref_17) rfl (teq hc3).1 (by decide) (by decide) k) ?_
        refine OGo.go (U' := T0.setTop (mkF m 45 #[.val (.int x1)] [(.int (0 : Int32))])) (fun _ k => XS.iconst X0.here hx rfl (hb hby d_ref_44) k) ?_
        refine OGo.retN X0 hx (t := .boolean) hret hlk (by simp) (hb hby d_ref_45) ?_ (by decide) (by decide)
        refine ⟨?_, e0, rfl⟩
        rw [F_ref]
        rw [if_neg hc1]
        rw [if_neg hc2]
        rw [if_pos hc3]
      · skip
        refine OGo.go (U' := T0.setTop (mkF m 20 #[.val (.int x1)] [])) (fun _ k => XS.icmpNo X0.here hx rfl (hb hby d_ref_17) rfl (feq hc3).1 k) ?_
        refine OGo.go (U' := T0.setTop (mkF m 21 #[.val (.int x1)] [(.int x1)])) (fun _ k => XS.iloadN X0.here hx rfl (hb hby d_ref_20) rfl k) ?_
        refine OGo.go (U' := T0.setTop (mkF m 23 #[.val (.int x1)] [(.int (40 : Int32)), (.int x1)])) (fun _ k => XS.bipush X0.here hx rfl (hb hby d_ref_21) k) ?_
        by_cases hc4 : x1 = (40 : Int32)
        · skip
          refine OGo.go (U' := T0.setTop (mkF m 44 #[.val (.int x1)] [])) (fun _ k => XS.icmpYes X0.here hx rfl (pc0 := 23) (pc' := 44) rfl (hb hby d_ref_23) rfl (teq hc4).1 (by decide) (by decide) k) ?_
          refine OGo.go (U' := T0.setTop (mkF m 45 #[.val (.int x1)] [(.int (0 : Int32))])) (fun _ k => XS.iconst X0.here hx rfl (hb hby d_ref_44) k) ?_
          refine OGo.retN X0 hx (t := .boolean) hret hlk (by simp) (hb hby d_ref_45) ?_ (by decide) (by decide)
          refine ⟨?_, e0, rfl⟩
          rw [F_ref]
          rw [if_neg hc1]
          rw [if_neg hc2]
          rw [if_neg hc3]
          rw [if_pos hc4]
        · skip
          refine OGo.go (U' := T0.setTop (mkF m 26 #[.val (.int x1)] [])) (fun _ k => XS.icmpNo X0.here hx rfl (hb hby d_ref_23) rfl (feq hc4).1 k) ?_
          refine OGo.go (U' := T0.setTop (mkF m 27 #[.val (.int x1)] [(.int x1)])) (fun _ k => XS.iloadN X0.here hx rfl (hb hby d_ref_26) rfl k) ?_
          refine OGo.go (U' := T0.setTop (mkF m 29 #[.val (.int x1)] [(.int (41 : Int32)), (.int x1)])) (fun _ k => XS.bipush X0.here hx rfl (hb hby d_ref_27) k) ?_
          by_cases hc5 : x1 = (41 : Int32)
          · skip
            refine OGo.go (U' := T0.setTop (mkF m 44 #[.val (.int x1)] [])) (fun _ k => XS.icmpYes X0.here hx rfl (pc0 := 29) (pc' := 44) rfl (hb hby d_ref_29) rfl (teq hc5).1 (by decide) (by decide) k) ?_
            refine OGo.go (U' := T0.setTop (mkF m 45 #[.val (.int x1)] [(.int (0 : Int32))])) (fun _ k => XS.iconst X0.here hx rfl (hb hby d_ref_44) k) ?_
            refine OGo.retN X0 hx (t := .boolean) hret hlk (by simp) (hb hby d_ref_45) ?_ (by decide) (by decide)
            refine ⟨?_, e0, rfl⟩
            rw [F_ref]
            rw [if_neg hc1]
            rw [if_neg hc2]
            rw [if_neg hc3]
            rw [if_neg hc4]
            rw [if_pos hc5]
          · skip
            refine OGo.go (U' := T0.setTop (mkF m 32 #[.val (.int x1)] [])) (fun _ k => XS.icmpNo X0.here hx rfl (hb hby d_ref_29) rfl (feq hc5).1 k) ?_
            refine OGo.go (U' := T0.setTop (mkF m 33 #[.val (.int x1)] [(.int x1)])) (fun _ k => XS.iloadN X0.here hx rfl (hb hby d_ref_32) rfl k) ?_
            refine OGo.go (U' := T0.setTop (mkF m 35 #[.val (.int x1)] [(.int (44 : Int32)), (.int x1)])) (fun _ k => XS.bipush X0.here hx rfl (hb hby d_ref_33) k) ?_
            by_cases hc6 : x1 = (44 : Int32)
            · skip
              refine OGo.go (U' := T0.setTop (mkF m 44 #[.val (.int x1)] [])) (fun _ k => XS.icmpYes X0.here hx rfl (pc0 := 35) (pc' := 44) rfl (hb hby d_ref_35) rfl (teq hc6).1 (by decide) (by decide) k) ?_
              refine OGo.go (U' := T0.setTop (mkF m 45 #[.val (.int x1)] [(.int (0 : Int32))])) (fun _ k => XS.iconst X0.here hx rfl (hb hby d_ref_44) k) ?_
              refine OGo.retN X0 hx (t := .boolean) hret hlk (by simp) (hb hby d_ref_45) ?_ (by decide) (by decide)
              refine ⟨?_, e0, rfl⟩
              rw [F_ref]
              rw [if_neg hc1]
              rw [if_neg hc2]
              rw [if_neg hc3]
              rw [if_neg hc4]
              rw [if_neg hc5]
              rw [if_pos hc6]
            · skip
              refine OGo.go (U' := T0.setTop (mkF m 38 #[.val (.int x1)] [])) (fun _ k => XS.icmpNo X0.here hx rfl (hb hby d_ref_35) rfl (feq hc6).1 k) ?_
              refine OGo.go (U' := T0.setTop (mkF m 39 #[.val (.int x1)] [(.int x1)])) (fun _ k => XS.iloadN X0.here hx rfl (hb hby d_ref_38) rfl k) ?_
              refine OGo.go (U' := T0.setTop (mkF m 41 #[.val (.int x1)] [(.int (47 : Int32)), (.int x1)])) (fun _ k => XS.bipush X0.here hx rfl (hb hby d_ref_39) k) ?_
              by_cases hc7 : x1 = (47 : Int32)
              · skip
                refine OGo.go (U' := T0.setTop (mkF m 44 #[.val (.int x1)] [])) (fun _ k => XS.icmpNo X0.here hx rfl (hb hby d_ref_41) rfl (teq hc7).2 k) ?_
                refine OGo.go (U' := T0.setTop (mkF m 45 #[.val (.int x1)] [(.int (0 : Int32))])) (fun _ k => XS.iconst X0.here hx rfl (hb hby d_ref_44) k) ?_
                refine OGo.retN X0 hx (t := .boolean) hret hlk (by simp) (hb hby d_ref_45) ?_ (by decide) (by decide)
                refine ⟨?_, e0, rfl⟩
                rw [F_ref]
                rw [if_neg hc1]
                rw [if_neg hc2]
                rw [if_neg hc3]
                rw [if_neg hc4]
                rw [if_neg hc5]
                rw [if_neg hc6]
                rw [if_pos hc7]
              · skip
                refine OGo.go (U' := T0.setTop (mkF m 46 #[.val (.int x1)] [])) (fun _ k => XS.icmpYes X0.here hx rfl (pc0 := 41) (pc' := 46) rfl (hb hby d_ref_41) rfl (feq hc7).2 (by decide) (by decide) k) ?_
                refine OGo.go (U' := T0.setTop (mkF m 47 #[.val (.int x1)] [(.int x1)])) (fun _ k => XS.iloadN X0.here hx rfl (hb hby d_ref_46) rfl k) ?_
                refine OGo.go (U' := T0.setTop (mkF m 49 #[.val (.int x1)] [(.int (58 : Int32)), (.int x1)])) (fun _ k => XS.bipush X0.here hx rfl (hb hby d_ref_47) k) ?_
                by_cases hc8 : x1 < (58 : Int32)
                · skip
                  refine OGo.go (U' := T0.setTop (mkF m 60 #[.val (.int x1)] [])) (fun _ k => XS.icmpYes X0.here hx rfl (pc0 := 49) (pc' := 60) rfl (hb hby d_ref_49) rfl (tlt hc8).1 (by decide) (by decide) k) ?_
                  refine OGo.go (U' := T0.setTop (mkF m 61 #[.val (.int x1)] [(.int x1)])) (fun _ k => XS.iloadN X0.here hx rfl (hb hby d_ref_60) rfl k) ?_
                  refine OGo.go (U' := T0.setTop (mkF m 63 #[.val (.int x1)] [(.int (91 : Int32)), (.int x1)])) (fun _ k => XS.bipush X0.here hx rfl (hb hby d_ref_61) k) ?_
                  by_cases hc9 : x1 < (91 : Int32)
                  · skip
                    refine OGo.go (U' := T0.setTop (mkF m 74 #[.val (.int x1)] [])) (fun _ k => XS.icmpYes X0.here hx rfl (pc0 := 63) (pc' := 74) rfl (hb hby d_ref_63) rfl (tlt hc9).1 (by decide) (by decide) k) ?_
                    refine OGo.go (U' := T0.setTop (mkF m 75 #[.val (.int x1)] [(.int x1)])) (fun _ k => XS.iloadN X0.here hx rfl (hb hby d_ref_74) rfl k) ?_
                    refine OGo.go (U' := T0.setTop (mkF m 77 #[.val (.int x1)] [(.int (123 : Int32)), (.int x1)])) (fun _ k => XS.bipush X0.here hx rfl (hb hby d_ref_75) k) ?_
                    by_cases hc10 : x1 = (123 : Int32)
                    · skip
                      refine OGo.go (U' := T0.setTop (mkF m 86 #[.val (.int x1)] [])) (fun _ k => XS.icmpYes X0.here hx rfl (pc0 := 77) (pc' := 86) rfl (hb hby d_ref_77) rfl (teq hc10).1 (by decide) (by decide) k) ?_
                      refine OGo.go (U' := T0.setTop (mkF m 87 #[.val (.int x1)] [(.int (0 : Int32))])) (fun _ k => XS.iconst X0.here hx rfl (hb hby d_ref_86) k) ?_
                      refine OGo.retN X0 hx (t := .boolean) hret hlk (by simp) (hb hby d_ref_87) ?_ (by decide) (by decide)
                      refine ⟨?_, e0, rfl⟩
                      rw [F_ref]
                      rw [if_neg hc1]
                      rw [if_neg hc2]
                      rw [if_neg hc3]
                      rw [if_neg hc4]
                      rw [if_neg hc5]
                      rw [if_neg hc6]
                      rw [if_neg hc7]
                      rw [if_pos hc8]
                      rw [if_pos hc9]
                      rw [if_pos hc10]
                    · skip
                      refine OGo.go (U' := T0.setTop (mkF m 80 #[.val (.int x1)] [])) (fun _ k => XS.icmpNo X0.here hx rfl (hb hby d_ref_77) rfl (feq hc10).1 k) ?_
                      refine OGo.go (U' := T0.setTop (mkF m 81 #[.val (.int x1)] [(.int x1)])) (fun _ k => XS.iloadN X0.here hx rfl (hb hby d_ref_80) rfl k) ?_
                      refine OGo.go (U' := T0.setTop (mkF m 83 #[.val (.int x1)] [(.int (125 : Int32)), (.int x1)])) (fun _ k => XS.bipush X0.here hx rfl (hb hby d_ref_81) k) ?_
                      by_cases hc11 : x1 = (125 : Int32)
                      · skip
                        refine OGo.go (U' := T0.setTop (mkF m 86 #[.val (.int x1)] [])) (fun _ k => XS.icmpNo X0.here hx rfl (hb hby d_ref_83) rfl (teq hc11).2 k) ?_
                        refine OGo.go (U' := T0.setTop (mkF m 87 #[.val (.int x1)] [(.int (0 : Int32))])) (fun _ k => XS.iconst X0.here hx rfl (hb hby d_ref_86) k) ?_
                        refine OGo.retN X0 hx (t := .boolean) hret hlk (by simp) (hb hby d_ref_87) ?_ (by decide) (by decide)
                        refine ⟨?_, e0, rfl⟩
                        rw [F_ref]
                        rw [if_neg hc1]
                        rw [if_neg hc2]
                        rw [if_neg hc3]
                        rw [if_neg hc4]
                        rw [if_neg hc5]
                        rw [if_neg hc6]
                        rw [if_neg hc7]
                        rw [if_pos hc8]
                        rw [if_pos hc9]
                        rw [if_neg hc10]
                        rw [if_pos hc11]
                      · skip
                        refine OGo.go (U' := T0.setTop (mkF m 88 #[.val (.int x1)] [])) (fun _ k => XS.icmpYes X0.here hx rfl (pc0 := 83) (pc' := 88) rfl (hb hby d_ref_83) rfl (feq hc11).2 (by decide) (by decide) k) ?_
                        refine OGo.go (U' := T0.setTop (mkF m 89 #[.val (.int x1)] [(.int (1 : Int32))])) (fun _ k => XS.iconst X0.here hx rfl (hb hby d_ref_88) k) ?_
                        refine OGo.retN X0 hx (t := .boolean) hret hlk (by simp) (hb hby d_ref_89) ?_ (by decide) (by decide)
                        refine ⟨?_, e0, rfl⟩
                        rw [F_ref]
                        rw [if_neg hc1]
                        rw [if_neg hc2]
                        rw [if_neg hc3]
                        rw [if_neg hc4]
                        rw [if_neg hc5]
                        rw [if_neg hc6]
                        rw [if_neg hc7]
                        rw [if_pos hc8]
                        rw [if_pos hc9]
                        rw [if_neg hc10]
                        rw [if_neg hc11]
                  · skip
                    refine OGo.go (U' := T0.setTop (mkF m 66 #[.val (.int x1)] [])) (fun _ k => XS.icmpNo X0.here hx rfl (hb hby d_ref_63) rfl (flt hc9).1 k) ?_
                    refine OGo.go (U' := T0.setTop (mkF m 67 #[.val (.int x1)] [(.int x1)])) (fun _ k => XS.iloadN X0.here hx rfl (hb hby d_ref_66) rfl k) ?_
                    refine OGo.go (U' := T0.setTop (mkF m 69 #[.val (.int x1)] [(.int (93 : Int32)), (.int x1)])) (fun _ k => XS.bipush X0.here hx rfl (hb hby d_ref_67) k) ?_
                    by_cases hc12 : (93 : Int32) < x1
                    · skip
                      refine OGo.go (U' := T0.setTop (mkF m 74 #[.val (.int x1)] [])) (fun _ k => XS.icmpYes X0.here hx rfl (pc0 := 69) (pc' := 74) rfl (hb hby d_ref_69) rfl (tlt hc12).2.2.1 (by decide) (by decide) k) ?_
                      refine OGo.go (U' := T0.setTop (mkF m 75 #[.val (.int x1)] [(.int x1)])) (fun _ k => XS.iloadN X0.here hx rfl (hb hby d_ref_74) rfl k) ?_
                      refine OGo.go (U' := T0.setTop (mkF m 77 #[.val (.int x1)] [(.int (123 : Int32)), (.int x1)])) (fun _ k => XS.bipush X0.here hx rfl (hb hby d_ref_75) k) ?_
                      by_cases hc13 : x1 = (123 : Int32)
                      · skip
                        refine OGo.go (U' := T0.setTop (mkF m 86 #[.val (.int x1)] [])) (fun _ k => XS.icmpYes X0.here hx rfl (pc0 := 77) (pc' := 86) rfl (hb hby d_ref_77) rfl (teq hc13).1 (by decide) (by decide) k) ?_
                        refine OGo.go (U' := T0.setTop (mkF m 87 #[.val (.int x1)] [(.int (0 : Int32))])) (fun _ k => XS.iconst X0.here hx rfl (hb hby d_ref_86) k) ?_
                        refine OGo.retN X0 hx (t := .boolean) hret hlk (by simp) (hb hby d_ref_87) ?_ (by decide) (by decide)
                        refine ⟨?_, e0, rfl⟩
                        rw [F_ref]
                        rw [if_neg hc1]
                        rw [if_neg hc2]
                        rw [if_neg hc3]
                        rw [if_neg hc4]
                        rw [if_neg hc5]
                        rw [if_neg hc6]
                        rw [if_neg hc7]
                        rw [if_pos hc8]
                        rw [if_neg hc9]
                        rw [if_pos hc12]
                        rw [if_pos hc13]
                      · skip
                        refine OGo.go (U' := T0.setTop (mkF m 80 #[.val (.int x1)] [])) (fun _ k => XS.icmpNo X0.here hx rfl (hb hby d_ref_77) rfl (feq hc13).1 k) ?_
                        refine OGo.go (U' := T0.setTop (mkF m 81 #[.val (.int x1)] [(.int x1)])) (fun _ k => XS.iloadN X0.here hx rfl (hb hby d_ref_80) rfl k) ?_
                        refine OGo.go (U' := T0.setTop (mkF m 83 #[.val (.int x1)] [(.int (125 : Int32)), (.int x1)])) (fun _ k => XS.bipush X0.here hx rfl (hb hby d_ref_81) k) ?_
                        by_cases hc14 : x1 = (125 : Int32)
                        · skip
                          refine OGo.go (U' := T0.setTop (mkF m 86 #[.val (.int x1)] [])) (fun _ k => XS.icmpNo X0.here hx rfl (hb hby d_ref_83) rfl (teq hc14).2 k) ?_
                          refine OGo.go (U' := T0.setTop (mkF m 87 #[.val (.int x1)] [(.int (0 : Int32))])) (fun _ k => XS.iconst X0.here hx rfl (hb hby d_ref_86) k) ?_
                          refine OGo.retN X0 hx (t := .boolean) hret hlk (by simp) (hb hby d_ref_87) ?_ (by decide) (by decide)
                          refine ⟨?_, e0, rfl⟩
                          rw [F_ref]
                          rw [if_neg hc1]
                          rw [if_neg hc2]
                          rw [if_neg hc3]
                          rw [if_neg hc4]
                          rw [if_neg hc5]
                          rw [if_neg hc6]
                          rw [if_neg hc7]
                          rw [if_pos hc8]
                          rw [if_neg hc9]
                          rw [if_pos hc12]
                          rw [if_neg hc13]
                          rw [if_pos hc14]
                        · skip
                          refine OGo.go (U' := T0.setTop (mkF m 88 #[.val (.int x1)] [])) (fun _ k => XS.icmpYes X0.here hx rfl (pc0 := 83) (pc' := 88) rfl (hb hby d_ref_83) rfl (feq hc14).2 (by decide) (by decide) k) ?_
                          refine OGo.go (U' := T0.setTop (mkF m 89 #[.val (.int x1)] [(.int (1 : Int32))])) (fun _ k => XS.iconst X0.here hx rfl (hb hby d_ref_88) k) ?_
                          refine OGo.retN X0 hx (t := .boolean) hret hlk (by simp) (hb hby d_ref_89) ?_ (by decide) (by decide)
                          refine ⟨?_, e0, rfl⟩
                          rw [F_ref]
                          rw [if_neg hc1]
                          rw [if_neg hc2]
                          rw [if_neg hc3]
                          rw [if_neg hc4]
                          rw [if_neg hc5]
                          rw [if_neg hc6]
                          rw [if_neg hc7]
                          rw [if_pos hc8]
                          rw [if_neg hc9]
                          rw [if_pos hc12]
                          rw [if_neg hc13]
                          rw [if_neg hc14]
                    · skip
                      refine OGo.go (U' := T0.setTop (mkF m 72 #[.val (.int x1)] [])) (fun _ k => XS.icmpNo X0.here hx rfl (hb hby d_ref_69) rfl (flt hc12).2.2.1 k) ?_
                      refine OGo.go (U' := T0.setTop (mkF m 73 #[.val (.int x1)] [(.int (0 : Int32))])) (fun _ k => XS.iconst X0.here hx rfl (hb hby d_ref_72) k) ?_
                      refine OGo.retN X0 hx (t := .boolean) hret hlk (by simp) (hb hby d_ref_73) ?_ (by decide) (by decide)
                      refine ⟨?_, e0, rfl⟩
                      rw [F_ref]
                      rw [if_neg hc1]
                      rw [if_neg hc2]
                      rw [if_neg hc3]
                      rw [if_neg hc4]
                      rw [if_neg hc5]
                      rw [if_neg hc6]
                      rw [if_neg hc7]
                      rw [if_pos hc8]
                      rw [if_neg hc9]
                      rw [if_neg hc12]
                · skip
                  refine OGo.go (U' := T0.setTop (mkF m 52 #[.val (.int x1)] [])) (fun _ k => XS.icmpNo X0.here hx rfl (hb hby d_ref_49) rfl (flt hc8).1 k) ?_
                  refine OGo.go (U' := T0.setTop (mkF m 53 #[.val (.int x1)] [(.int x1)])) (fun _ k => XS.iloadN X0.here hx rfl (hb hby d_ref_52) rfl k) ?_
                  refine OGo.go (U' := T0.setTop (mkF m 55 #[.val (.int x1)] [(.int (64 : Int32)), (.int x1)])) (fun _ k => XS.bipush X0.here hx rfl (hb hby d_ref_53) k) ?_
                  by_cases hc15 : (64 : Int32) < x1
                  · skip
                    refine OGo.go (U' := T0.setTop (mkF m 60 #[.val (.int x1)] [])) (fun _ k => XS.icmpYes X0.here hx rfl (pc0 := 55) (pc' := 60) rfl (hb hby d_ref_55) rfl (tlt hc15).2.2.1 (by decide) (by decide) k) ?_
                    refine OGo.go (U' := T0.setTop (mkF m 61 #[.val (.int x1)] [(.int x1)])) (fun _ k => XS.iloadN X0.here hx rfl (hb hby d_ref_60) rfl k) ?_
                    refine OGo.go (U' := T0.setTop (mkF m 63 #[.val (.int x1)] [(.int (91 : Int32)), (.int x1)])) (fun _ k => XS.bipush X0.here hx rfl (hb hby d_ref_61) k) ?_
                    by_cases hc16 : x1 < (91 : Int32)
                    · skip
                      refine OGo.go (U' := T0.setTop (mkF m 74 #[.val (.int x1)] [])) (fun _ k => XS.icmpYes X0.here hx rfl (pc0 := 63) (pc' := 74) rfl (hb hby d_ref_63) rfl (tlt hc16).1 (by decide) (by decide) k) ?_
                      refine OGo.go (U' := T0.setTop (mkF m 75 #[.val (.int x1)] [(.int x1)])) (fun _ k => XS.iloadN X0.here hx rfl (hb hby d_ref_74) rfl k) ?_
                      refine OGo.go (U' := T0.setTop (mkF m 77 #[.val (.int x1)] [(.int (123 : Int32)), (.int x1)])) (fun _ k => XS.bipush X0.here hx rfl (hb hby d_ref_75) k) ?_
                      by_cases hc17 : x1 = (123 : Int32)
                      · skip
                        refine OGo.go (U' := T0.setTop (mkF m 86 #[.val (.int x1)] [])) (fun _ k => XS.icmpYes X0.here hx rfl (pc0 := 77) (pc' := 86) rfl (hb hby d_ref_77) rfl (teq hc17).1 (by decide) (by decide) k) ?_
                        refine OGo.go (U' := T0.setTop (mkF m 87 #[.val (.int x1)] [(.int (0 : Int32))])) (fun _ k => XS.iconst X0.here hx rfl (hb hby d_ref_86) k) ?_
                        refine OGo.retN X0 hx (t := .boolean) hret hlk (by simp) (hb hby d_ref_87) ?_ (by decide) (by decide)
                        refine ⟨?_, e0, rfl⟩
                        rw [F_ref]
                        rw [if_neg hc1]
                        rw [if_neg hc2]
                        rw [if_neg hc3]
                        rw [if_neg hc4]
                        rw [if_neg hc5]
                        rw [if_neg hc6]
                        rw [if_neg hc7]
                        rw [if_neg hc8]
                        rw [if_pos hc15]
                        rw [if_pos hc16]
                        rw [if_pos hc17]
                      · skip
                        refine OGo.go (U' := T0.setTop (mkF m 80 #[.val (.int x1)] [])) (fun _ k => XS.icmpNo X0.here hx rfl (hb hby d_ref_77) rfl (feq hc17).1 k) ?_
                        refine OGo.go (U' := T0.setTop (mkF m 81 #[.val (.int x1)] [(.int x1)])) (fun _ k => XS.iloadN X0.here hx rfl (hb hby d_ref_80) rfl k) ?_
                        refine OGo.go (U' := T0.setTop (mkF m 83 #[.val (.int x1)] [(.int (125 : Int32)), (.int x1)])) (fun _ k => XS.bipush X0.here hx rfl (hb hby d_ref_81) k) ?_
                        by_cases hc18 : x1 = (125 : Int32)
                        · skip
                          refine OGo.go (U' := T0.setTop (mkF m 86 #[.val (.int x1)] [])) (fun _ k => XS.icmpNo X0.here hx rfl (hb hby d_ref_83) rfl (teq hc18).2 k) ?_
                          refine OGo.go (U' := T0.setTop (mkF m 87 #[.val (.int x1)] [(.int (0 : Int32))])) (fun _ k => XS.iconst X0.here hx rfl (hb hby d_ref_86) k) ?_
                          refine OGo.retN X0 hx (t := .boolean) hret hlk (by simp) (hb hby d_ref_87) ?_ (by decide) (by decide)
                          refine ⟨?_, e0, rfl⟩
                          rw [F_ref]
                          rw [if_neg hc1]
                          rw [if_neg hc2]
                          rw [if_neg hc3]
                          rw [if_neg hc4]
                          rw [if_neg hc5]
                          rw [if_neg hc6]
                          rw [if_neg hc7]
                          rw [if_neg hc8]
                          rw [if_pos hc15]
                          rw [if_pos hc16]
                          rw [if_neg hc17]
                          rw [if_pos hc18]
                        · skip
                          refine OGo.go (U' := T0.setTop (mkF m 88 #[.val (.int x1)] [])) (fun _ k => XS.icmpYes X0.here hx rfl (pc0 := 83) (pc' := 88) rfl (hb hby d_ref_83) rfl (feq hc18).2 (by decide) (by decide) k) ?_
                          refine OGo.go (U' := T0.setTop (mkF m 89 #[.val (.int x1)] [(.int (1 : Int32))])) (fun _ k => XS.iconst X0.here hx rfl (hb hby d_ref_88) k) ?_
                          refine OGo.retN X0 hx (t := .boolean) hret hlk (by simp) (hb hby d_ref_89) ?_ (by decide) (by decide)
                          refine ⟨?_, e0, rfl⟩
                          rw [F_ref]
                          rw [if_neg hc1]
                          rw [if_neg hc2]
                          rw [if_neg hc3]
                          rw [if_neg hc4]
                          rw [if_neg hc5]
                          rw [if_neg hc6]
                          rw [if_neg hc7]
                          rw [if_neg hc8]
                          rw [if_pos hc15]
                          rw [if_pos hc16]
                          rw [if_neg hc17]
                          rw [if_neg hc18]
                    · skip
                      refine OGo.go (U' := T0.setTop (mkF m 66 #[.val (.int x1)] [])) (fun _ k => XS.icmpNo X0.here hx rfl (hb hby d_ref_63) rfl (flt hc16).1 k) ?_
                      refine OGo.go (U' := T0.setTop (mkF m 67 #[.val (.int x1)] [(.int x1)])) (fun _ k => XS.iloadN X0.here hx rfl (hb hby d_ref_66) rfl k) ?_
                      refine OGo.go (U' := T0.setTop (mkF m 69 #[.val (.int x1)] [(.int (93 : Int32)), (.int x1)])) (fun _ k => XS.bipush X0.here hx rfl (hb hby d_ref_67) k) ?_
                      by_cases hc19 : (93 : Int32) < x1
                      · skip
                        refine OGo.go (U' := T0.setTop (mkF m 74 #[.val (.int x1)] [])) (fun _ k => XS.icmpYes X0.here hx rfl (pc0 := 69) (pc' := 74) rfl (hb hby d_ref_69) rfl (tlt hc19).2.2.1 (by decide) (by decide) k) ?_
                        refine OGo.go (U' := T0.setTop (mkF m 75 #[.val (.int x1)] [(.int x1)])) (fun _ k => XS.iloadN X0.here hx rfl (hb hby d_ref_74) rfl k) ?_
                        refine OGo.go (U' := T0.setTop (mkF m 77 #[.val (.int x1)] [(.int (123 : Int32)), (.int x1)])) (fun _ k => XS.bipush X0.here hx rfl (hb hby d_ref_75) k) ?_
                        by_cases hc20 : x1 = (123 : Int32)
                        · skip
                          refine OGo.go (U' := T0.setTop (mkF m 86 #[.val (.int x1)] [])) (fun _ k => XS.icmpYes X0.here hx rfl (pc0 := 77) (pc' := 86) rfl (hb hby d_ref_77) rfl (teq hc20).1 (by decide) (by decide) k) ?_
                          refine OGo.go (U' := T0.setTop (mkF m 87 #[.val (.int x1)] [(.int (0 : Int32))])) (fun _ k => XS.iconst X0.here hx rfl (hb hby d_ref_86) k) ?_
                          refine OGo.retN X0 hx (t := .boolean) hret hlk (by simp) (hb hby d_ref_87) ?_ (by decide) (by decide)
                          refine ⟨?_, e0, rfl⟩
                          rw [F_ref]
                          rw [if_neg hc1]
                          rw [if_neg hc2]
                          rw [if_neg hc3]
                          rw [if_neg hc4]
                          rw [if_neg hc5]
                          rw [if_neg hc6]
                          rw [if_neg hc7]
                          rw [if_neg hc8]
                          rw [if_pos hc15]
                          rw [if_neg hc16]
                          rw [if_pos hc19]
                          rw [if_pos hc20]
                        · skip
                          refine OGo.go (U' := T0.setTop (mkF m 80 #[.val (.int x1)] [])) (fun _ k => XS.icmpNo X0.here hx rfl (hb hby d_ref_77) rfl (feq hc20).1 k) ?_
                          refine OGo.go (U' := T0.setTop (mkF m 81 #[.val (.int x1)] [(.int x1)])) (fun _ k => XS.iloadN X0.here hx rfl (hb hby d_ref_80) rfl k) ?_
                          refine OGo.go (U' := T0.setTop (mkF m 83 #[.val (.int x1)] [(.int (125 : Int32)), (.int x1)])) (fun _ k => XS.bipush X0.here hx rfl (hb hby d_ref_81) k) ?_
                          by_cases hc21 : x1 = (125 : Int32)
                          · skip
                            refine OGo.go (U' := T0.setTop (mkF m 86 #[.val (.int x1)] [])) (fun _ k => XS.icmpNo X0.here hx rfl (hb hby d_ref_83) rfl (teq hc21).2 k) ?_
                            refine OGo.go (U' := T0.setTop (mkF m 87 #[.val (.int x1)] [(.int (0 : Int32))])) (fun _ k => XS.iconst X0.here hx rfl (hb hby d_ref_86) k) ?_
                            refine OGo.retN X0 hx (t := .boolean) hret hlk (by simp) (hb hby d_ref_87) ?_ (by decide) (by decide)
                            refine ⟨?_, e0, rfl⟩
                            rw [F_ref]
                            rw [if_neg hc1]
                            rw [if_neg hc2]
                            rw [if_neg hc3]
                            rw [if_neg hc4]
                            rw [if_neg hc5]
                            rw [if_neg hc6]
                            rw [if_neg hc7]
                            rw [if_neg hc8]
                            rw [if_pos hc15]
                            rw [if_neg hc16]
                            rw [if_pos hc19]
                            rw [if_neg hc20]
                            rw [if_pos hc21]
                          · skip
                            refine OGo.go (U' := T0.setTop (mkF m 88 #[.val (.int x1)] [])) (fun _ k => XS.icmpYes X0.here hx rfl (pc0 := 83) (pc' := 88) rfl (hb hby d_ref_83) rfl (feq hc21).2 (by decide) (by decide) k) ?_
                            refine OGo.go (U' := T0.setTop (mkF m 89 #[.val (.int x1)] [(.int (1 : Int32))])) (fun _ k => XS.iconst X0.here hx rfl (hb hby d_ref_88) k) ?_
                            refine OGo.retN X0 hx (t := .boolean) hret hlk (by simp) (hb hby d_ref_89) ?_ (by decide) (by decide)
                            refine ⟨?_, e0, rfl⟩
                            rw [F_ref]
                            rw [if_neg hc1]
                            rw [if_neg hc2]
                            rw [if_neg hc3]
                            rw [if_neg hc4]
                            rw [if_neg hc5]
                            rw [if_neg hc6]
                            rw [if_neg hc7]
                            rw [if_neg hc8]
                            rw [if_pos hc15]
                            rw [if_neg hc16]
                            rw [if_pos hc19]
                            rw [if_neg hc20]
                            rw [if_neg hc21]
                      · skip
                        refine OGo.go (U' := T0.setTop (mkF m 72 #[.val (.int x1)] [])) (fun _ k => XS.icmpNo X0.here hx rfl (hb hby d_ref_69) rfl (flt hc19).2.2.1 k) ?_
                        refine OGo.go (U' := T0.setTop (mkF m 73 #[.val (.int x1)] [(.int (0 : Int32))])) (fun _ k => XS.iconst X0.here hx rfl (hb hby d_ref_72) k) ?_
                        refine OGo.retN X0 hx (t := .boolean) hret hlk (by simp) (hb hby d_ref_73) ?_ (by decide) (by decide)
                        refine ⟨?_, e0, rfl⟩
                        rw [F_ref]
                        rw [if_neg hc1]
                        rw [if_neg hc2]
                        rw [if_neg hc3]
                        rw [if_neg hc4]
                        rw [if_neg hc5]
                        rw [if_neg hc6]
                        rw [if_neg hc7]
                        rw [if_neg hc8]
                        rw [if_pos hc15]
                        rw [if_neg hc16]
                        rw [if_neg hc19]
                  · skip
                    refine OGo.go (U' := T0.setTop (mkF m 58 #[.val (.int x1)] [])) (fun _ k => XS.icmpNo X0.here hx rfl (hb hby d_ref_55) rfl (flt hc15).2.2.1 k) ?_
                    refine OGo.go (U' := T0.setTop (mkF m 59 #[.val (.int x1)] [(.int (0 : Int32))])) (fun _ k => XS.iconst X0.here hx rfl (hb hby d_ref_58) k) ?_
                    refine OGo.retN X0 hx (t := .boolean) hret hlk (by simp) (hb hby d_ref_59) ?_ (by decide) (by decide)
                    refine ⟨?_, e0, rfl⟩
                    rw [F_ref]
                    rw [if_neg hc1]
                    rw [if_neg hc2]
                    rw [if_neg hc3]
                    rw [if_neg hc4]
                    rw [if_neg hc5]
                    rw [if_neg hc6]
                    rw [if_neg hc7]
                    rw [if_neg hc8]
                    rw [if_neg hc15]
theorem d_max_0 : decode jdk_29_method_65_code 0 = .ok (.iload_n 0, 1) := by decide +kernel
theorem d_max_1 : decode jdk_29_method_65_code 1 = .ok (.iload_n 1, 1) := by decide +kernel
theorem d_max_2 : decode jdk_29_method_65_code 2 = .ok (.if_icmp .lt 7, 3) := by decide +kernel
theorem d_max_5 : decode jdk_29_method_65_code 5 = .ok (.iload_n 0, 1) := by decide +kernel
theorem d_max_6 : decode jdk_29_method_65_code 6 = .ok (.goto 4, 3) := by decide +kernel
theorem d_max_10 : decode jdk_29_method_65_code 10 = .ok (.ireturn, 1) := by decide +kernel
theorem ef_max (m : MethodId)  : entryFrame m #[(.int (0 : Int32)), (.int (0 : Int32))] 2 = mkF m 0 #[.val (.int (0 : Int32)), .val (.int (0 : Int32))] [] := by first | (simp [entryFrame, mkF, argsToLocals, Value.category]; done) | rfl
theorem pn_max : plainFor (⟨"java/lang/Math", "max", "(II)I"⟩ : MethodName) = true := by first | exact plainFor_of_name (by first | (simp [plainName, overriddenIn]; done) | decide +kernel) | decide +kernel
set_option maxRecDepth 65536 in
set_option maxHeartbeats 40000000 in
theorem rm_max (l : Launch) (Z : State) (a0 : Array Value) (hw : ∀ d ∈ tables_1, d.before a0 Z = true)   (h0 : Heap)  :
    OMet l Z (⟨"java/lang/Math", "max", "(II)I"⟩ : MethodName) jdk_29_method_65_code 2 (some .int) [] ({ frames := 0, cells := 0, slots := 0, locals := 0 } : Room) #[(.int (0 : Int32)), (.int (0 : Int32))] h0 (OPure (some (.int 0)) h0) := by
  refine OMet.of pn_max ?_
  intro p e s m below meth c T0 X0 hx hby hml hown0 hnm hret hlk hZ e0
  have hown : s.vm.findClass "java/lang/Math" = some m.cls := hown0
  refine OGo.go (fun t k => castTop (ef_max m ) k) ?_
  refine OGo.go (U' := T0.setTop (mkF m 1 #[.val (.int (0 : Int32)), .val (.int (0 : Int32))] [(.int (0 : Int32))])) (fun _ k => XS.iloadN X0.here hx rfl (hb hby d_max_0) rfl k) ?_
  refine OGo.go (U' := T0.setTop (mkF m 2 #[.val (.int (0 : Int32)), .val (.int (0 : Int32))] [(.int (0 : Int32)), (.int (0 : Int32))])) (fun _ k => XS.iloadN X0.here hx rfl (hb hby d_max_1) rfl k) ?_
  refine OGo.go (U' := T0.setTop (mkF m 5 #[.val (.int (0 : Int32)), .val (.int (0 : Int32))] [])) (fun _ k => XS.icmpNo X0.here hx rfl (hb hby d_max_2) rfl (flt (by decide)).1 k) ?_
  refine OGo.go (U' := T0.setTop (mkF m 6 #[.val (.int (0 : Int32)), .val (.int (0 : Int32))] [(.int (0 : Int32))])) (fun _ k => XS.iloadN X0.here hx rfl (hb hby d_max_5) rfl k) ?_
  refine OGo.go (U' := T0.setTop (mkF m 10 #[.val (.int (0 : Int32)), .val (.int (0 : Int32))] [(.int (0 : Int32))])) (fun _ k => XS.goto X0.here hx rfl (pc0 := 6) (pc' := 10) rfl (hb hby d_max_6) (by decide) (by decide) k) ?_
  refine OGo.retI X0 hx hret hlk (hb hby d_max_10) ?_ (by decide) (by decide)
  exact ⟨congrArg (fun z => some (Value.int z)) (rfl), e0, rfl⟩
theorem d_min_0 : decode jdk_29_method_69_code 0 = .ok (.iload_n 0, 1) := by decide +kernel
theorem d_min_1 : decode jdk_29_method_69_code 1 = .ok (.iload_n 1, 1) := by decide +kernel
theorem d_min_2 : decode jdk_29_method_69_code 2 = .ok (.if_icmp .gt 7, 3) := by decide +kernel
theorem d_min_5 : decode jdk_29_method_69_code 5 = .ok (.iload_n 0, 1) := by decide +kernel
theorem d_min_6 : decode jdk_29_method_69_code 6 = .ok (.goto 4, 3) := by decide +kernel
theorem d_min_10 : decode jdk_29_method_69_code 10 = .ok (.ireturn, 1) := by decide +kernel
theorem ef_min (m : MethodId)  : entryFrame m #[(.int (15 : Int32)), (.int (15 : Int32))] 2 = mkF m 0 #[.val (.int (15 : Int32)), .val (.int (15 : Int32))] [] := by first | (simp [entryFrame, mkF, argsToLocals, Value.category]; done) | rfl
theorem pn_min : plainFor (⟨"java/lang/Math", "min", "(II)I"⟩ : MethodName) = true := by first | exact plainFor_of_name (by first | (simp [plainName, overriddenIn]; done) | decide +kernel) | decide +kernel
set_option maxRecDepth 65536 in
set_option maxHeartbeats 40000000 in
theorem rm_min (l : Launch) (Z : State) (a0 : Array Value) (hw : ∀ d ∈ tables_1, d.before a0 Z = true)   (h0 : Heap)  :
    OMet l Z (⟨"java/lang/Math", "min", "(II)I"⟩ : MethodName) jdk_29_method_69_code 2 (some .int) [] ({ frames := 0, cells := 0, slots := 0, locals := 0 } : Room) #[(.int (15 : Int32)), (.int (15 : Int32))] h0 (OPure (some (.int 15)) h0) := by
  refine OMet.of pn_min ?_
  intro p e s m below meth c T0 X0 hx hby hml hown0 hnm hret hlk hZ e0
  have hown : s.vm.findClass "java/lang/Math" = some m.cls := hown0
  refine OGo.go (fun t k => castTop (ef_min m ) k) ?_
  refine OGo.go (U' := T0.setTop (mkF m 1 #[.val (.int (15 : Int32)), .val (.int (15 : Int32))] [(.int (15 : Int32))])) (fun _ k => XS.iloadN X0.here hx rfl (hb hby d_min_0) rfl k) ?_
  refine OGo.go (U' := T0.setTop (mkF m 2 #[.val (.int (15 : Int32)), .val (.int (15 : Int32))] [(.int (15 : Int32)), (.int (15 : Int32))])) (fun _ k => XS.iloadN X0.here hx rfl (hb hby d_min_1) rfl k) ?_
  refine OGo.go (U' := T0.setTop (mkF m 5 #[.val (.int (15 : Int32)), .val (.int (15 : Int32))] [])) (fun _ k => XS.icmpNo X0.here hx rfl (hb hby d_min_2) rfl (flt (by decide)).2.2.1 k) ?_
  refine OGo.go (U' := T0.setTop (mkF m 6 #[.val (.int (15 : Int32)), .val (.int (15 : Int32))] [(.int (15 : Int32))])) (fun _ k => XS.iloadN X0.here hx rfl (hb hby d_min_5) rfl k) ?_
  refine OGo.go (U' := T0.setTop (mkF m 10 #[.val (.int (15 : Int32)), .val (.int (15 : Int32))] [(.int (15 : Int32))])) (fun _ k => XS.goto X0.here hx rfl (pc0 := 6) (pc' := 10) rfl (hb hby d_min_6) (by decide) (by decide) k) ?_
  refine OGo.retI X0 hx hret hlk (hb hby d_min_10) ?_ (by decide) (by decide)
  exact ⟨congrArg (fun z => some (Value.int z)) (rfl), e0, rfl⟩
def F_ixc (x1 : Int32) : Int32 := (if (33 : Int32) = (x1.toInt8.toInt32) then (0 : Int32) else (if (35 : Int32) = (x1.toInt8.toInt32) then (1 : Int32) else (if (36 : Int32) = (x1.toInt8.toInt32) then (2 : Int32) else (if (37 : Int32) = (x1.toInt8.toInt32) then (3 : Int32) else (if (38 : Int32) = (x1.toInt8.toInt32) then (4 : Int32) else (if (39 : Int32) = (x1.toInt8.toInt32) then (5 : Int32) else (if (42 : Int32) = (x1.toInt8.toInt32) then (6 : Int32) else (if (43 : Int32) = (x1.toInt8.toInt32) then (7 : Int32) else (if (45 : Int32) = (x1.toInt8.toInt32) then (8 : Int32) else (if (46 : Int32) = (x1.toInt8.toInt32) then (9 : Int32) else (if (94 : Int32) = (x1.toInt8.toInt32) then (10 : Int32) else (if (95 : Int32) = (x1.toInt8.toInt32) then (11 : Int32) else (if (96 : Int32) = (x1.toInt8.toInt32) then (12 : Int32) else (if (124 : Int32) = (x1.toInt8.toInt32) then (13 : Int32) else (if (126 : Int32) = (x1.toInt8.toInt32) then (14 : Int32) else (-1 : Int32))))))))))))))))
theorem d_ixc_0 : decode jdk_43_method_23_code 0 = .ok (.iload_n 1, 1) := by decide +kernel
theorem d_ixc_1 : decode jdk_43_method_23_code 1 = .ok (.i2b, 1) := by decide +kernel
theorem d_ixc_2 : decode jdk_43_method_23_code 2 = .ok (.istore 4, 2) := by decide +kernel
theorem d_ixc_4 : decode jdk_43_method_23_code 4 = .ok (.iload_n 2, 1) := by decide +kernel
theorem d_ixc_5 : decode jdk_43_method_23_code 5 = .ok (.istore 5, 2) := by decide +kernel
theorem d_ixc_7 : decode jdk_43_method_23_code 7 = .ok (.iload 5, 2) := by decide +kernel
theorem d_ixc_9 : decode jdk_43_method_23_code 9 = .ok (.iload_n 3, 1) := by decide +kernel
theorem d_ixc_10 : decode jdk_43_method_23_code 10 = .ok (.if_icmp .ge 21, 3) := by decide +kernel
theorem d_ixc_13 : decode jdk_43_method_23_code 13 = .ok (.aload_n 0, 1) := by decide +kernel
theorem d_ixc_14 : decode jdk_43_method_23_code 14 = .ok (.iload 5, 2) := by decide +kernel
theorem d_ixc_16 : decode jdk_43_method_23_code 16 = .ok (.baload, 1) := by decide +kernel
theorem d_ixc_17 : decode jdk_43_method_23_code 17 = .ok (.iload 4, 2) := by decide +kernel
theorem d_ixc_19 : decode jdk_43_method_23_code 19 = .ok (.if_icmp .ne 6, 3) := by decide +kernel
theorem d_ixc_22 : decode jdk_43_method_23_code 22 = .ok (.iload 5, 2) := by decide +kernel
theorem d_ixc_24 : decode jdk_43_method_23_code 24 = .ok (.ireturn, 1) := by decide +kernel
theorem d_ixc_25 : decode jdk_43_method_23_code 25 = .ok (.iinc 5 1, 3) := by decide +kernel
theorem d_ixc_28 : decode jdk_43_method_23_code 28 = .ok (.goto (-21), 3) := by decide +kernel
theorem d_ixc_31 : decode jdk_43_method_23_code 31 = .ok (.iconst (-1), 1) := by decide +kernel
theorem d_ixc_32 : decode jdk_43_method_23_code 32 = .ok (.ireturn, 1) := by decide +kernel
theorem ef_ixc (m : MethodId) (b1 : Addr) (x1 : Int32) : entryFrame m #[(.ref b1), (.int x1), (.int (0 : Int32)), (.int (15 : Int32))] 6 = mkF m 0 #[.val (.ref b1), .val (.int x1), .val (.int (0 : Int32)), .val (.int (15 : Int32)), .unset, .unset] [] := by first | (simp [entryFrame, mkF, argsToLocals, Value.category]; done) | rfl
theorem pn_ixc : plainFor (⟨"java/lang/StringLatin1", "indexOfChar", "([BIII)I"⟩ : MethodName) = true := by first | exact plainFor_of_name (by first | (simp [plainName, overriddenIn]; done) | decide +kernel) | decide +kernel
set_option maxRecDepth 65536 in
set_option maxHeartbeats 40000000 in
theorem rm_ixc (l : Launch) (Z : State) (a0 : Array Value) (hw : ∀ d ∈ tables_1, d.before a0 Z = true) (b1 : Addr) (x1 : Int32) (k1 : ClassId) (h0 : Heap) (A1 : Arv Z h0 b1 k1 .byte 15 [.int 33, .int 35, .int 36, .int 37, .int 38, .int 39, .int 42, .int 43, .int 45, .int 46, .int 94, .int 95, .int 96, .int 124, .int 126] (.int 0)) :
    OMet l Z (⟨"java/lang/StringLatin1", "indexOfChar", "([BIII)I"⟩ : MethodName) jdk_43_method_23_code 6 (some .int) [] ({ frames := 0, cells := 0, slots := 0, locals := 0 } : Room) #[(.ref b1), (.int x1), (.int (0 : Int32)), (.int (15 : Int32))] h0 (OPure (some (.int (F_ixc x1))) h0) := by
  refine OMet.of pn_ixc ?_
  intro p e s m below meth c T0 X0 hx hby hml hown0 hnm hret hlk hZ e0
  have hown : s.vm.findClass "java/lang/StringLatin1" = some m.cls := hown0
  refine OGo.go (fun t k => castTop (ef_ixc m b1 x1) k) ?_
  refine OGo.go (U' := T0.setTop (mkF m 1 #[.val (.ref b1), .val (.int x1), .val (.int (0 : Int32)), .val (.int (15 : Int32)), .unset, .unset] [(.int x1)])) (fun _ k => XS.iloadN X0.here hx rfl (hb hby d_ixc_0) rfl k) ?_
  refine OGo.go (U' := T0.setTop (mkF m 2 #[.val (.ref b1), .val (.int x1), .val (.int (0 : Int32)), .val (.int (15 : Int32)), .unset, .unset] [(.int (x1.toInt8.toInt32))])) (fun _ k => XS.i2b X0.here hx rfl (hb hby d_ixc_1) rfl k) ?_
  refine OGo.go (U' := T0.setTop (mkF m 4 #[.val (.ref b1), .val (.int x1), .val (.int (0 : Int32)), .val (.int (15 : Int32)), .val (.int (x1.toInt8.toInt32)), .unset] [])) (fun _ k => XS.istore X0.here hx rfl (hb hby d_ixc_2) rfl (l' := #[.val (.ref b1), .val (.int x1), .val (.int (0 : Int32)), .val (.int (15 : Int32)), .val (.int (x1.toInt8.toInt32)), .unset]) rfl k) ?_
  refine OGo.go (U' := T0.setTop (mkF m 5 #[.val (.ref b1), .val (.int x1), .val (.int (0 : Int32)), .val (.int (15 : Int32)), .val (.int (x1.toInt8.toInt32)), .unset] [(.int (0 : Int32))])) (fun _ k => XS.iloadN X0.here hx rfl (hb hby d_ixc_4) rfl k) ?_
  refine OGo.go (U' := T0.setTop (mkF m 7 #[.val (.ref b1), .val (.int x1), .val (.int (0 : Int32)), .val (.int (15 : Int32)), .val (.int (x1.toInt8.toInt32)), .val (.int (0 : Int32))] [])) (fun _ k => XS.istore X0.here hx rfl (hb hby d_ixc_5) rfl (l' := #[.val (.ref b1), .val (.int x1), .val (.int (0 : Int32)), .val (.int (15 : Int32)), .val (.int (x1.toInt8.toInt32)), .val (.int (0 : Int32))]) rfl k) ?_
  refine OGo.go (U' := T0.setTop (mkF m 9 #[.val (.ref b1), .val (.int x1), .val (.int (0 : Int32)), .val (.int (15 : Int32)), .val (.int (x1.toInt8.toInt32)), .val (.int (0 : Int32))] [(.int (0 : Int32))])) (fun _ k => XS.iload X0.here hx rfl (hb hby d_ixc_7) rfl k) ?_
  refine OGo.go (U' := T0.setTop (mkF m 10 #[.val (.ref b1), .val (.int x1), .val (.int (0 : Int32)), .val (.int (15 : Int32)), .val (.int (x1.toInt8.toInt32)), .val (.int (0 : Int32))] [(.int (15 : Int32)), (.int (0 : Int32))])) (fun _ k => XS.iloadN X0.here hx rfl (hb hby d_ixc_9) rfl k) ?_
  refine OGo.go (U' := T0.setTop (mkF m 13 #[.val (.ref b1), .val (.int x1), .val (.int (0 : Int32)), .val (.int (15 : Int32)), .val (.int (x1.toInt8.toInt32)), .val (.int (0 : Int32))] [])) (fun _ k => XS.icmpNo X0.here hx rfl (hb hby d_ixc_10) rfl (tlt (by decide)).2.1 k) ?_
  refine OGo.go (U' := T0.setTop (mkF m 14 #[.val (.ref b1), .val (.int x1), .val (.int (0 : Int32)), .val (.int (15 : Int32)), .val (.int (x1.toInt8.toInt32)), .val (.int (0 : Int32))] [(.ref b1)])) (fun _ k => XS.aloadN X0.here hx rfl (hb hby d_ixc_13) rfl rfl k) ?_
  refine OGo.go (U' := T0.setTop (mkF m 16 #[.val (.ref b1), .val (.int x1), .val (.int (0 : Int32)), .val (.int (15 : Int32)), .val (.int (x1.toInt8.toInt32)), .val (.int (0 : Int32))] [(.int (0 : Int32)), (.ref b1)])) (fun _ k => XS.iload X0.here hx rfl (hb hby d_ixc_14) rfl k) ?_
  refine OGo.go (U' := T0.setTop (mkF m 17 #[.val (.ref b1), .val (.int x1), .val (.int (0 : Int32)), .val (.int (15 : Int32)), .val (.int (x1.toInt8.toInt32)), .val (.int (0 : Int32))] [(.int (33 : Int32))])) (fun _ k => Arv.ldB X0 hx hZ e0 A1 (j := 0) ⟨by decide, by decide⟩ (v := (.int (33 : Int32))) rfl (g := (mkF m 16 #[.val (.ref b1), .val (.int x1), .val (.int (0 : Int32)), .val (.int (15 : Int32)), .val (.int (x1.toInt8.toInt32)), .val (.int (0 : Int32))] [(.int (0 : Int32)), (.ref b1)])) rfl rfl (hb hby d_ixc_16) _ k) ?_
  refine OGo.go (U' := T0.setTop (mkF m 19 #[.val (.ref b1), .val (.int x1), .val (.int (0 : Int32)), .val (.int (15 : Int32)), .val (.int (x1.toInt8.toInt32)), .val (.int (0 : Int32))] [(.int (x1.toInt8.toInt32)), (.int (33 : Int32))])) (fun _ k => XS.iload X0.here hx rfl (hb hby d_ixc_17) rfl k) ?_
  by_cases hc2 : (33 : Int32) = (x1.toInt8.toInt32)
  · skip
    refine OGo.go (U' := T0.setTop (mkF m 22 #[.val (.ref b1), .val (.int x1), .val (.int (0 : Int32)), .val (.int (15 : Int32)), .val (.int (x1.toInt8.toInt32)), .val (.int (0 : Int32))] [])) (fun _ k => XS.icmpNo X0.here hx rfl (hb hby d_ixc_19) rfl (teq hc2).2 k) ?_
    refine OGo.go (U' := T0.setTop (mkF m 24 #[.val (.ref b1), .val (.int x1), .val (.int (0 : Int32)), .val (.int (15 : Int32)), .val (.int (x1.toInt8.toInt32)), .val (.int (0 : Int32))] [(.int (0 : Int32))])) (fun _ k => XS.iload X0.here hx rfl (hb hby d_ixc_22) rfl k) ?_
    refine OGo.retI X0 hx hret hlk (hb hby d_ixc_24) ?_ (by decide) (by decide)
    refine ⟨?_, e0, rfl⟩
    rw [F_ixc]
    rw [if_pos hc2]
  · skip
    refine OGo.go (U' := T0.setTop (mkF m 25 #[.val (.ref b1), .val (.int x1), .val (.int (0 : Int32)), .val (.int (15 : Int32)), .val (.int (x1.toInt8.toInt32)), .val (.int (0 : Int32))] [])) (fun _ k => XS.icmpYes X0.here hx rfl (pc0 := 19) (pc' := 25) rfl (hb hby d_ixc_19) rfl (feq hc2).2 (by decide) (by decide) k) ?_
    refine OGo.go (U' := T0.setTop (mkF m 28 #[.val (.ref b1), .val (.int x1), .val (.int (0 : Int32)), .val (.int (15 : Int32)), .val (.int (x1.toInt8.toInt32)), .val (.int (1 : Int32))] [])) (fun _ k => XS.iinc X0.here hx rfl (hb hby d_ixc_25) rfl (l' := #[.val (.ref b1), .val (.int x1), .val (.int (0 : Int32)), .val (.int (15 : Int32)), .val (.int (x1.toInt8.toInt32)), .val (.int (1 : Int32))]) rfl k) ?_
    refine OGo.go (U' := T0.setTop (mkF m 7 #[.val (.ref b1), .val (.int x1), .val (.int (0 : Int32)), .val (.int (15 : Int32)), .val (.int (x1.toInt8.toInt32)), .val (.int (1 : Int32))] [])) (fun _ k => XS.goto X0.here hx rfl (pc0 := 28) (pc' := 7) rfl (hb hby d_ixc_28) (by decide) (by decide) k) ?_
    refine OGo.go (U' := T0.setTop (mkF m 9 #[.val (.ref b1), .val (.int x1), .val (.int (0 : Int32)), .val (.int (15 : Int32)), .val (.int (x1.toInt8.toInt32)), .val (.int (1 : Int32))] [(.int (1 : Int32))])) (fun _ k => XS.iload X0.here hx rfl (hb hby d_ixc_7) rfl k) ?_
    refine OGo.go (U' := T0.setTop (mkF m 10 #[.val (.ref b1), .val (.int x1), .val (.int (0 : Int32)), .val (.int (15 : Int32)), .val (.int (x1.toInt8.toInt32)), .val (.int (1 : Int32))] [(.int (15 : Int32)), (.int (1 : Int32))])) (fun _ k => XS.iloadN X0.here hx rfl (hb hby d_ixc_9) rfl k) ?_
    refine OGo.go (U' := T0.setTop (mkF m 13 #[.val (.ref b1), .val (.int x1), .val (.int (0 : Int32)), .val (.int (15 : Int32)), .val (.int (x1.toInt8.toInt32)), .val (.int (1 : Int32))] [])) (fun _ k => XS.icmpNo X0.here hx rfl (hb hby d_ixc_10) rfl (tlt (by decide)).2.1 k) ?_
    refine OGo.go (U' := T0.setTop (mkF m 14 #[.val (.ref b1), .val (.int x1), .val (.int (0 : Int32)), .val (.int (15 : Int32)), .val (.int (x1.toInt8.toInt32)), .val (.int (1 : Int32))] [(.ref b1)])) (fun _ k => XS.aloadN X0.here hx rfl (hb hby d_ixc_13) rfl rfl k) ?_
    refine OGo.go (U' := T0.setTop (mkF m 16 #[.val (.ref b1), .val (.int x1), .val (.int (0 : Int32)), .val (.int (15 : Int32)), .val (.int (x1.toInt8.toInt32)), .val (.int (1 : Int32))] [(.int (1 : Int32)), (.ref b1)])) (fun _ k => XS.iload X0.here hx rfl (hb hby d_ixc_14) rfl k) ?_
    refine OGo.go (U' := T0.setTop (mkF m 17 #[.val (.ref b1), .val (.int x1), .val (.int (0 : Int32)), .val (.int (15 : Int32)), .val (.int (x1.toInt8.toInt32)), .val (.int (1 : Int32))] [(.int (35 : Int32))])) (fun _ k => Arv.ldB X0 hx hZ e0 A1 (j := 1) ⟨by decide, by decide⟩ (v := (.int (35 : Int32))) rfl (g := (mkF m 16 #[.val (.ref b1), .val (.int x1), .val (.int (0 : Int32)), .val (.int (15 : Int32)), .val (.int (x1.toInt8.toInt32)), .val (.int (1 : Int32))] [(.int (1 : Int32)), (.ref b1)])) rfl rfl (hb hby d_ixc_16) _ k) ?_
    refine OGo.go (U' := T0.setTop (mkF m 19 #[.val (.ref b1), .val (.int x1), .val (.int (0 : Int32)), .val (.int (15 : Int32)), .val (.int (x1.toInt8.toInt32)), .val (.int (1 : Int32))] [(.int (x1.toInt8.toInt32)), (.int (35 : Int32))])) (fun _ k => XS.iload X0.here hx rfl (hb hby d_ixc_17) rfl k) ?_
    by_cases hc4 : (35 : Int32) = (x1.toInt8.toInt32)
    · skip
      refine OGo.go (U' := T0.setTop (mkF m 22 #[.val (.ref b1), .val (.int x1), .val (.int (0 : Int32)), .val (.int (15 : Int32)), .val (.int (x1.toInt8.toInt32)), .val (.int (1 : Int32))] [])) (fun _ k => XS.icmpNo X0.here hx rfl (hb hby d_ixc_19) rfl (teq hc4).2 k) ?_
      refine OGo.go (U' := T0.setTop (mkF m 24 #[.val (.ref b1), .val (.int x1), .val (.int (0 : Int32)), .val (.int (15 : Int32)), .val (.int (x1.toInt8.toInt32)), .val (.int (1 : Int32))] [(.int (1 : Int32))])) (fun _ k => XS.iload X0.here hx rfl (hb hby d_ixc_22) rfl k) ?_
      refine OGo.retI X0 hx hret hlk (hb hby d_ixc_24) ?_ (by decide) (by decide)
      refine ⟨?_, e0, rfl⟩
      rw [F_ixc]
      rw [if_neg hc2]
      rw [if_pos hc4]
    · skip
      refine OGo.go (U' := T0.setTop (mkF m 25 #[.val (.ref b1), .val (.int x1), .val (.int (0 : Int32)), .val (.int (15 : Int32)), .val (.int (x1.toInt8.toInt32)), .val (.int (1 : Int32))] [])) (fun _ k => XS.icmpYes X0.here hx rfl (pc0 := 19) (pc' := 25) rfl (hb hby d_ixc_19) rfl (feq hc4).2 (by decide) (by decide) k) ?_
      refine OGo.go (U' := T0.setTop (mkF m 28 #[.val (.ref b1), .val (.int x1), .val (.int (0 : Int32)), .val (.int (15 : Int32)), .val (.int (x1.toInt8.toInt32)), .val (.int (2 : Int32))] [])) (fun _ k => XS.iinc X0.here hx rfl (hb hby d_ixc_25) rfl (l' := #[.val (.ref b1), .val (.int x1), .val (.int (0 : Int32)), .val (.int (15 : Int32)), .val (.int (x1.toInt8.toInt32)), .val (.int (2 : Int32))]) rfl k) ?_
      refine OGo.go (U' := T0.setTop (mkF m 7 #[.val (.ref b1), .val (.int x1), .val (.int (0 : Int32)), .val (.int (15 : Int32)), .val (.int (x1.toInt8.toInt32)), .val (.int (2 : Int32))] [])) (fun _ k => XS.goto X0.here hx rfl (pc0 := 28) (pc' := 7) rfl (hb hby d_ixc_28) (by decide) (by decide) k) ?_
      refine OGo.go (U' := T0.setTop (mkF m 9 #[.val (.ref b1), .val (.int x1), .val (.int (0 : Int32)), .val (.int (15 : Int32)), .val (.int (x1.toInt8.toInt32)), .val (.int (2 : Int32))] [(.int (2 : Int32))])) (fun _ k => XS.iload X0.here hx rfl (hb hby d_ixc_7) rfl k) ?_
      refine OGo.go (U' := T0.setTop (mkF m 10 #[.val (.ref b1), .val (.int x1), .val (.int (0 : Int32)), .val (.int (15 : Int32)), .val (.int (x1.toInt8.toInt32)), .val (.int (2 : Int32))] [(.int (15 : Int32)), (.int (2 : Int32))])) (fun _ k => XS.iloadN X0.here hx rfl (hb hby d_ixc_9) rfl k) ?_
      refine OGo.go (U' := T0.setTop (mkF m 13 #[.val (.ref b1), .val (.int x1), .val (.int (0 : Int32)), .val (.int (15 : Int32)), .val (.int (x1.toInt8.toInt32)), .val (.int (2 : Int32))] [])) (fun _ k => XS.icmpNo X0.here hx rfl (hb hby d_ixc_10) rfl (tlt (by decide)).2.1 k) ?_
      refine OGo.go (U' := T0.setTop (mkF m 14 #[.val (.ref b1), .val (.int x1), .val (.int (0 : Int32)), .val (.int (15 : Int32)), .val (.int (x1.toInt8.toInt32)), .val (.int (2 : Int32))] [(.ref b1)])) (fun _ k => XS.aloadN X0.here hx rfl (hb hby d_ixc_13) rfl rfl k) ?_
      refine OGo.go (U' := T0.setTop (mkF m 16 #[.val (.ref b1), .val (.int x1), .val (.int (0 : Int32)), .val (.int (15 : Int32)), .val (.int (x1.toInt8.toInt32)), .val (.int (2 : Int32))] [(.int (2 : Int32)), (.ref b1)])) (fun _ k => XS.iload X0.here hx rfl (hb hby d_ixc_14) rfl k) ?_
      refine OGo.go (U' := T0.setTop (mkF m 17 #[.val (.ref b1), .val (.int x1), .val (.int (0 : Int32)), .val (.int (15 : Int32)), .val (.int (x1.toInt8.toInt32)), .val (.int (2 : Int32))] [(.int (36 : Int32))])) (fun _ k => Arv.ldB X0 hx hZ e0 A1 (j := 2) ⟨by decide, by decide⟩ (v := (.int (36 : Int32))) rfl (g := (mkF m 16 #[.val (.ref b1), .val (.int x1), .val (.int (0 : Int32)), .val (.int (15 : Int32)), .val (.int (x1.toInt8.toInt32)), .val (.int (2 : Int32))] [(.int (2 : Int32)), (.ref b1)])) rfl rfl (hb hby d_ixc_16) _ k) ?_
      refine OGo.go (U' := T0.setTop (mkF m 19 #[.val (.ref b1), .val (.int x1), .val (.int (0 : Int32)), .val (.int (15 : Int32)), .val (.int (x1.toInt8.toInt32)), .val (.int (2 : Int32))] [(.int (x1.toInt8.toInt32)), (.int (36 : Int32))])) (fun _ k => XS.iload X0.here hx rfl (hb hby d_ixc_17) rfl k) ?_
      by_cases hc6 : (36 : Int32) = (x1.toInt8.toInt32)
      · skip
        refine OGo.go (U' := T0.setTop (mkF m 22 #[.val (.ref b1), .val (.int x1), .val (.int (0 : Int32)), .val (.int (15 : Int32)), .val (.int (x1.toInt8.toInt32)), .val (.int (2 : Int32))] [])) (fun _ k => XS.icmpNo X0.here hx rfl (hb hby d_ixc_19) rfl (teq hc6).2 k) ?_
        refine OGo.go (U' := T0.setTop (mkF m 24 #[.val (.ref b1), .val (.int x1), .val (.int (0 : Int32)), .val (.int (15 : Int32)), .val (.int (x1.toInt8.toInt32)), .val (.int (2 : Int32))] [(.int (2 : Int32))])) (fun _ k => XS.iload X0.here hx rfl (hb hby d_ixc_22) rfl k) ?_
        refine OGo.retI X0 hx hret hlk (hb hby d_ixc_24) ?_ (by decide) (by decide)
        refine ⟨?_, e0, rfl⟩
        rw [F_ixc]
        rw [if_neg hc2]
        rw [if_neg hc4]
        rw [if_pos hc6]
      · skip
        refine OGo.go (U' := T0.setTop (mkF m 25 #[.val (.ref b1), .val (.int x1), .val (.int (0 : Int32)), .val (.int (15 : Int32)), .val (.int (x1.toInt8.toInt32)), .val (.int (2 : Int32))] [])) (fun _ k => XS.icmpYes X0.here hx rfl (pc0 := 19) (pc' := 25) rfl (hb hby d_ixc_19) rfl (feq hc6).2 (by decide) (by decide) k) ?_
        refine OGo.go (U' := T0.setTop (mkF m 28 #[.val (.ref b1), .val (.int x1), .val (.int (0 : Int32)), .val (.int (15 : Int32)), .val (.int (x1.toInt8.toInt32)), .val (.int (3 : Int32))] [])) (fun _ k => XS.iinc X0.here hx rfl (hb hby d_ixc_25) rfl (l' := #[.val (.ref b1), .val (.int x1), .val (.int (0 : Int32)), .val (.int (15 : Int32)), .val (.int (x1.toInt8.toInt32)), .val (.int (3 : Int32))]) rfl k) ?_
        refine OGo.go (U' := T0.setTop (mkF m 7 #[.val (.ref b1), .val (.int x1), .val (.int (0 : Int32)), .val (.int (15 : Int32)), .val (.int (x1.toInt8.toInt32)), .val (.int (3 : Int32))] [])) (fun _ k => XS.goto X0.here hx rfl (pc0 := 28) (pc' := 7) rfl (hb hby d_ixc_28) (by decide) (by decide) k) ?_
        refine OGo.go (U' := T0.setTop (mkF m 9 #[.val (.ref b1), .val (.int x1), .val (.int (0 : Int32)), .val (.int (15 : Int32)), .val (.int (x1.toInt8.toInt32)), .val (.int (3 : Int32))] [(.int (3 : Int32))])) (fun _ k => XS.iload X0.here hx rfl (hb hby d_ixc_7) rfl k) ?_
        refine OGo.go (U' := T0.setTop (mkF m 10 #[.val (.ref b1), .val (.int x1), .val (.int (0 : Int32)), .val (.int (15 : Int32)), .val (.int (x1.toInt8.toInt32)), .val (.int (3 : Int32))] [(.int (15 : Int32)), (.int (3 : Int32))])) (fun _ k => XS.iloadN X0.here hx rfl (hb hby d_ixc_9) rfl k) ?_
        refine OGo.go (U' := T0.setTop (mkF m 13 #[.val (.ref b1), .val (.int x1), .val (.int (0 : Int32)), .val (.int (15 : Int32)), .val (.int (x1.toInt8.toInt32)), .val (.int (3 : Int32))] [])) (fun _ k => XS.icmpNo X0.here hx rfl (hb hby d_ixc_10) rfl (tlt (by decide)).2.1 k) ?_
        refine OGo.go (U' := T0.setTop (mkF m 14 #[.val (.ref b1), .val (.int x1), .val (.int (0 : Int32)), .val (.int (15 : Int32)), .val (.int (x1.toInt8.toInt32)), .val (.int (3 : Int32))] [(.ref b1)])) (fun _ k => XS.aloadN X0.here hx rfl (hb hby d_ixc_13) rfl rfl k) ?_
        refine OGo.go (U' := T0.setTop (mkF m 16 #[.val (.ref b1), .val (.int x1), .val (.int (0 : Int32)), .val (.int (15 : Int32)), .val (.int (x1.toInt8.toInt32)), .val (.int (3 : Int32))] [(.int (3 : Int32)), (.ref b1)])) (fun _ k => XS.iload X0.here hx rfl (hb hby d_ixc_14) rfl k) ?_
        refine OGo.go (U' := T0.setTop (mkF m 17 #[.val (.ref b1), .val (.int x1), .val (.int (0 : Int32)), .val (.int (15 : Int32)), .val (.int (x1.toInt8.toInt32)), .val (.int (3 : Int32))] [(.int (37 : Int32))])) (fun _ k => Arv.ldB X0 hx hZ e0 A1 (j := 3) ⟨by decide, by decide⟩ (v := (.int (37 : Int32))) rfl (g := (mkF m 16 #[.val (.ref b1), .val (.int x1), .val (.int (0 : Int32)), .val (.int (15 : Int32)), .val (.int (x1.toInt8.toInt32)), .val (.int (3 : Int32))] [(.int (3 : Int32)), (.ref b1)])) rfl rfl (hb hby d_ixc_16) _ k) ?_
        refine OGo.go (U' := T0.setTop (mkF m 19 #[.val (.ref b1), .val (.int x1), .val (.int (0 : Int32)), .val (.int (15 : Int32)), .val (.int (x1.toInt8.toInt32)), .val (.int (3 : Int32))] [(.int (x1.toInt8.toInt32)), (.int (37 : Int32))])) (fun _ k => XS.iload X0.here hx rfl (hb hby d_ixc_17) rfl k) ?_
        by_cases hc8 : (37 : Int32) = (x1.toInt8.toInt32)
        · skip
          refine OGo.go (U' := T0.setTop (mkF m 22 #[.val (.ref b1), .val (.int x1), .val (.int (0 : Int32)), .val (.int (15 : Int32)), .val (.int (x1.toInt8.toInt32)), .val (.int (3 : Int32))] [])) (fun _ k => XS.icmpNo X0.here hx rfl (hb hby d_ixc_19) rfl (teq hc8).2 k) ?_
          refine OGo.go (U' := T0.setTop (mkF m 24 #[.val (.ref b1), .val (.int x1), .val (.int (0 : Int32)), .val (.int (15 : Int32)), .val (.int (x1.toInt8.toInt32)), .val (.int (3 : Int32))] [(.int (3 : Int32))])) (fun _ k => XS.iload X0.here hx rfl (hb hby d_ixc_22) rfl k) ?_
          refine OGo.retI X0 hx hret hlk (hb hby d_ixc_24) ?_ (by decide) (by decide)
          refine ⟨?_, e0, rfl⟩
          rw [F_ixc]
          rw [if_neg hc2]
          rw [if_neg hc4]
          rw [if_neg hc6]
          rw [if_pos hc8]
        · skip
          refine OGo.go (U' := T0.setTop (mkF m 25 #[.val (.ref b1), .val (.int x1), .val (.int (0 : Int32)), .val (.int (15 : Int32)), .val (.int (x1.toInt8.toInt32)), .val (.int (3 : Int32))] [])) (fun _ k => XS.icmpYes X0.here hx rfl (pc0 := 19) (pc' := 25) rfl (hb hby d_ixc_19) rfl (feq hc8).2 (by decide) (by decide) k) ?_
          refine OGo.go (U' := T0.setTop (mkF m 28 #[.val (.ref b1), .val (.int x1), .val (.int (0 : Int32)), .val (.int (15 : Int32)), .val (.int (x1.toInt8.toInt32)), .val (.int (4 : Int32))] [])) (fun _ k => XS.iinc X0.here hx rfl (hb hby d_ixc_25) rfl (l' := #[.val (.ref b1), .val (.int x1), .val (.int (0 : Int32)), .val (.int (15 : Int32)), .val (.int (x1.toInt8.toInt32)), .val (.int (4 : Int32))]) rfl k) ?_
          refine OGo.go (U' := T0.setTop (mkF m 7 #[.val (.ref b1), .val (.int x1), .val (.int (0 : Int32)), .val (.int (15 : Int32)), .val (.int (x1.toInt8.toInt32)), .val (.int (4 : Int32))] [])) (fun _ k => XS.goto X0.here hx rfl (pc0 := 28) (pc' := 7) rfl (hb hby d_ixc_28) (by decide) (by decide) k) ?_
          refine OGo.go (U' := T0.setTop (mkF m 9 #[.val (.ref b1), .val (.int x1), .val (.int (0 : Int32)), .val (.int (15 : Int32)), .val (.int (x1.toInt8.toInt32)), .val (.int (4 : Int32))] [(.int (4 : Int32))])) (fun _ k => XS.iload X0.here hx rfl (hb hby d_ixc_7) rfl k) ?_
          refine OGo.go (U' := T0.setTop (mkF m 10 #[.val (.ref b1), .val (.int x1), .val (.int (0 : Int32)), .val (.int (15 : Int32)), .val (.int (x1.toInt8.toInt32)), .val (.int (4 : Int32))] [(.int (15 : Int32)), (.int (4 : Int32))])) (fun _ k => XS.iloadN X0.here hx rfl (hb hby d_ixc_9) rfl k) ?_
          refine OGo.go (U' := T0.setTop (mkF m 13 #[.val (.ref b1), .val (.int x1), .val (.int (0 : Int32)), .val (.int (15 : Int32)), .val (.int (x1.toInt8.toInt32)), .val (.int (4 : Int32))] [])) (fun _ k => XS.icmpNo X0.here hx rfl (hb hby d_ixc_10) rfl (tlt (by decide)).2.1 k) ?_
          refine OGo.go (U' := T0.setTop (mkF m 14 #[.val (.ref b1), .val (.int x1), .val (.int (0 : Int32)), .val (.int (15 : Int32)), .val (.int (x1.toInt8.toInt32)), .val (.int (4 : Int32))] [(.ref b1)])) (fun _ k => XS.aloadN X0.here hx rfl (hb hby d_ixc_13) rfl rfl k) ?_
          refine OGo.go (U' := T0.setTop (mkF m 16 #[.val (.ref b1), .val (.int x1), .val (.int (0 : Int32)), .val (.int (15 : Int32)), .val (.int (x1.toInt8.toInt32)), .val (.int (4 : Int32))] [(.int (4 : Int32)), (.ref b1)])) (fun _ k => XS.iload X0.here hx rfl (hb hby d_ixc_14) rfl k) ?_
          refine OGo.go (U' := T0.setTop (mkF m 17 #[.val (.ref b1), .val (.int x1), .val (.int (0 : Int32)), .val (.int (15 : Int32)), .val (.int (x1.toInt8.toInt32)), .val (.int (4 : Int32))] [(.int (38 : Int32))])) (fun _ k => Arv.ldB X0 hx hZ e0 A1 (j := 4) ⟨by decide, by decide⟩ (v := (.int (38 : Int32))) rfl (g := (mkF m 16 #[.val (.ref b1), .val (.int x1), .val (.int (0 : Int32)), .val (.int (15 : Int32)), .val (.int (x1.toInt8.toInt32)), .val (.int (4 : Int32))] [(.int (4 : Int32)), (.ref b1)])) rfl rfl (hb hby d_ixc_16) _ k) ?_
          refine OGo.go (U' := T0.setTop (mkF m 19 #[.val (.ref b1), .val (.int x1), .val (.int (0 : Int32)), .val (.int (15 : Int32)), .val (.int (x1.toInt8.toInt32)), .val (.int (4 : Int32))] [(.int (x1.toInt8.toInt32)), (.int (38 : Int32))])) (fun _ k => XS.iload X0.here hx rfl (hb hby d_ixc_17) rfl k) ?_
          by_cases hc10 : (38 : Int32) = (x1.toInt8.toInt32)
          · skip
            refine OGo.go (U' := T0.setTop (mkF m 22 #[.val (.ref b1), .val (.int x1), .val (.int (0 : Int32)), .val (.int (15 : Int32)), .val (.int (x1.toInt8.toInt32)), .val (.int (4 : Int32))] [])) (fun _ k => XS.icmpNo X0.here hx rfl (hb hby d_ixc_19) rfl (teq hc10).2 k) ?_
            refine OGo.go (U' := T0.setTop (mkF m 24 #[.val (.ref b1), .val (.int x1), .val (.int (0 : Int32)), .val (.int (15 : Int32)), .val (.int (x1.toInt8.toInt32)), .val (.int (4 : Int32))] [(.int (4 : Int32))])) (fun _ k => XS.iload X0.here hx rfl (hb hby d_ixc_22) rfl k) ?_
            refine OGo.retI X0 hx hret hlk (hb hby d_ixc_24) ?_ (by decide) (by decide)
            refine ⟨?_, e0, rfl⟩
            rw [F_ixc]
            rw [if_neg hc2]
            rw [if_neg hc4]
            rw [if_neg hc6]
            rw [if_neg hc8]
            rw [if_pos hc10]
          · skip
            refine OGo.go (U' := T0.setTop (mkF m 25 #[.val (.ref b1), .val (.int x1), .val (.int (0 : Int32)), .val (.int (15 : Int32)), .val (.int (x1.toInt8.toInt32)), .val (.int (4 : Int32))] [])) (fun _ k => XS.icmpYes X0.here hx rfl (pc0 := 19) (pc' := 25) rfl (hb hby d_ixc_19) rfl (feq hc10).2 (by decide) (by decide) k) ?_
            refine OGo.go (U' := T0.setTop (mkF m 28 #[.val (.ref b1), .val (.int x1), .val (.int (0 : Int32)), .val (.int (15 : Int32)), .val (.int (x1.toInt8.toInt32)), .val (.int (5 : Int32))] [])) (fun _ k => XS.iinc X0.here hx rfl (hb hby d_ixc_25) rfl (l' := #[.val (.ref b1), .val (.int x1), .val (.int (0 : Int32)), .val (.int (15 : Int32)), .val (.int (x1.toInt8.toInt32)), .val (.int (5 : Int32))]) rfl k) ?_
            refine OGo.go (U' := T0.setTop (mkF m 7 #[.val (.ref b1), .val (.int x1), .val (.int (0 : Int32)), .val (.int (15 : Int32)), .val (.int (x1.toInt8.toInt32)), .val (.int (5 : Int32))] [])) (fun _ k => XS.goto X0.here hx rfl (pc0 := 28) (pc' := 7) rfl (hb hby d_ixc_28) (by decide) (by decide) k) ?_
            refine OGo.go (U' := T0.setTop (mkF m 9 #[.val (.ref b1), .val (.int x1), .val (.int (0 : Int32)), .val (.int (15 : Int32)), .val (.int (x1.toInt8.toInt32)), .val (.int (5 : Int32))] [(.int (5 : Int32))])) (fun _ k => XS.iload X0.here hx rfl (hb hby d_ixc_7) rfl k) ?_
            refine OGo.go (U' := T0.setTop (mkF m 10 #[.val (.ref b1), .val (.int x1), .val (.int (0 : Int32)), .val (.int (15 : Int32)), .val (.int (x1.toInt8.toInt32)), .val (.int (5 : Int32))] [(.int (15 : Int32)), (.int (5 : Int32))])) (fun _ k => XS.iloadN X0.here hx rfl (hb hby d_ixc_9) rfl k) ?_
            refine OGo.go (U' := T0.setTop (mkF m 13 #[.val (.ref b1), .val (.int x1), .val (.int (0 : Int32)), .val (.int (15 : Int32)), .val (.int (x1.toInt8.toInt32)), .val (.int (5 : Int32))] [])) (fun _ k => XS.icmpNo X0.here hx rfl (hb hby d_ixc_10) rfl (tlt (by decide)).2.1 k) ?_
            refine OGo.go (U' := T0.setTop (mkF m 14 #[.val (.ref b1), .val (.int x1), .val (.int (0 : Int32)), .val (.int (15 : Int32)), .val (.int (x1.toInt8.toInt32)), .val (.int (5 : Int32))] [(.ref b1)])) (fun _ k => XS.aloadN X0.here hx rfl (hb hby d_ixc_13) rfl rfl k) ?_
            refine OGo.go (U' := T0.setTop (mkF m 16 #[.val (.ref b1), .val (.int x1), .val (.int (0 : Int32)), .val (.int (15 : Int32)), .val (.int (x1.toInt8.toInt32)), .val (.int (5 : Int32))] [(.int (5 : Int32)), (.ref b1)])) (fun _ k => XS.iload X0.here hx rfl (hb hby d_ixc_14) rfl k) ?_
            refine OGo.go (U' := T0.setTop (mkF m 17 #[.val (.ref b1), .val (.int x1), .val (.int (0 : Int32)), .val (.int (15 : Int32)), .val (.int (x1.toInt8.toInt32)), .val (.int (5 : Int32))] [(.int (39 : Int32))])) (fun _ k => Arv.ldB X0 hx hZ e0 A1 (j := 5) ⟨by decide, by decide⟩ (v := (.int (39 : Int32))) rfl (g := (mkF m 16 #[.val (.ref b1), .val (.int x1), .val (.int (0 : Int32)), .val (.int (15 : Int32)), .val (.int (x1.toInt8.toInt32)), .val (.int (5 : Int32))] [(.int (5 : Int32)), (.ref b1)])) rfl rfl (hb hby d_ixc_16) _ k) ?_
            refine OGo.go (U' := T0.setTop (mkF m 19 #[.val (.ref b1), .val (.int x1), .val (.int (0 : Int32)), .val (.int (15 : Int32)), .val (.int (x1.toInt8.toInt32)), .val (.int (5 : Int32))] [(.int (x1.toInt8.toInt32)), (.int (39 : Int32))])) (fun _ k => XS.iload X0.here hx rfl (hb hby d_ixc_17) rfl k) ?_
            by_cases hc12 : (39 : Int32) = (x1.toInt8.toInt32)
            · skip
              refine OGo.go (U' := T0.setTop (mkF m 22 #[.val (.ref b1), .val (.int x1), .val (.int (0 : Int32)), .val (.int (15 : Int32)), .val (.int (x1.toInt8.toInt32)), .val (.int (5 : Int32))] [])) (fun _ k => XS.icmpNo X0.here hx rfl (hb hby d_ixc_19) rfl (teq hc12).2 k) ?_
              refine OGo.go (U' := T0.setTop (mkF m 24 #[.val (.ref b1), .val (.int x1), .val (.int (0 : Int32)), .val (.int (15 : Int32)), .val (.int (x1.toInt8.toInt32)), .val (.int (5 : Int32))] [(.int (5 : Int32))])) (fun _ k => XS.iload X0.here hx rfl (hb hby d_ixc_22) rfl k) ?_
              refine OGo.retI X0 hx hret hlk (hb hby d_ixc_24) ?_ (by decide) (by decide)
              refine ⟨?_, e0, rfl⟩
              rw [F_ixc]
              rw [if_neg hc2]
              rw [if_neg hc4]
              rw [if_neg hc6]
              rw [if_neg hc8]
              rw [if_neg hc10]
              rw [if_pos hc12]
            · skip
              refine OGo.go (U' := T0.setTop (mkF m 25 #[.val (.ref b1), .val (.int x1), .val (.int (0 : Int32)), .val (.int (15 : Int32)), .val (.int (x1.toInt8.toInt32)), .val (.int (5 : Int32))] [])) (fun _ k => XS.icmpYes X0.here hx rfl (pc0 := 19) (pc' := 25) rfl (hb hby d_ixc_19) rfl (feq hc12).2 (by decide) (by decide) k) ?_
              refine OGo.go (U' := T0.setTop (mkF m 28 #[.val (.ref b1), .val (.int x1), .val (.int (0 : Int32)), .val (.int (15 : Int32)), .val (.int (x1.toInt8.toInt32)), .val (.int (6 : Int32))] [])) (fun _ k => XS.iinc X0.here hx rfl (hb hby d_ixc_25) rfl (l' := #[.val (.ref b1), .val (.int x1), .val (.int (0 : Int32)), .val (.int (15 : Int32)), .val (.int (x1.toInt8.toInt32)), .val (.int (6 : Int32))]) rfl k) ?_
              refine OGo.go (U' := T0.setTop (mkF m 7 #[.val (.ref b1), .val (.int x1), .val (.int (0 : Int32)), .val (.int (15 : Int32)), .val (.int (x1.toInt8.toInt32)), .val (.int (6 : Int32))] [])) (fun _ k => XS.goto X0.here hx rfl (pc0 := 28) (pc' := 7) rfl (hb hby d_ixc_28) (by decide) (by decide) k) ?_
              refine OGo.go (U' := T0.setTop (mkF m 9 #[.val (.ref b1), .val (.int x1), .val (.int (0 : Int32)), .val (.int (15 : Int32)), .val (.int (x1.toInt8.toInt32)), .val (.int (6 : Int32))] [(.int (6 : Int32))])) (fun _ k => XS.iload X0.here hx rfl (hb hby d_ixc_7) rfl k) ?_
              refine OGo.go (U' := T0.setTop (mkF m 10 #[.val (.ref b1), .val (.int x1), .val (.int (0 : Int32)), .val (.int (15 : Int32)), .val (.int (x1.toInt8.toInt32)), .val (.int (6 : Int32))] [(.int (15 : Int32)), (.int (6 : Int32))])) (fun _ k => XS.iloadN X0.here hx rfl (hb hby d_ixc_9) rfl k) ?_
              refine OGo.go (U' := T0.setTop (mkF m 13 #[.val (.ref b1), .val (.int x1), .val (.int (0 : Int32)), .val (.int (15 : Int32)), .val (.int (x1.toInt8.toInt32)), .val (.int (6 : Int32))] [])) (fun _ k => XS.icmpNo X0.here hx rfl (hb hby d_ixc_10) rfl (tlt (by decide)).2.1 k) ?_
              refine OGo.go (U' := T0.setTop (mkF m 14 #[.val (.ref b1), .val (.int x1), .val (.int (0 : Int32)), .val (.int (15 : Int32)), .val (.int (x1.toInt8.toInt32)), .val (.int (6 : Int32))] [(.ref b1)])) (fun _ k => XS.aloadN X0.here hx rfl (hb hby d_ixc_13) rfl rfl k) ?_
              refine OGo.go (U' := T0.setTop (mkF m 16 #[.val (.ref b1), .val (.int x1), .val (.int (0 : Int32)), .val (.int (15 : Int32)), .val (.int (x1.toInt8.toInt32)), .val (.int (6 : Int32))] [(.int (6 : Int32)), (.ref b1)])) (fun _ k => XS.iload X0.here hx rfl (hb hby d_ixc_14) rfl k) ?_
              refine OGo.go (U' := T0.setTop (mkF m 17 #[.val (.ref b1), .val (.int x1), .val (.int (0 : Int32)), .val (.int (15 : Int32)), .val (.int (x1.toInt8.toInt32)), .val (.int (6 : Int32))] [(.int (42 : Int32))])) (fun _ k => Arv.ldB X0 hx hZ e0 A1 (j := 6) ⟨by decide, by decide⟩ (v := (.int (42 : Int32))) rfl (g := (mkF m 16 #[.val (.ref b1), .val (.int x1), .val (.int (0 : Int32)), .val (.int (15 : Int32)), .val (.int (x1.toInt8.toInt32)), .val (.int (6 : Int32))] [(.int (6 : Int32)), (.ref b1)])) rfl rfl (hb hby d_ixc_16) _ k) ?_
              refine OGo.go (U' := T0.setTop (mkF m 19 #[.val (.ref b1), .val (.int x1), .val (.int (0 : Int32)), .val (.int (15 : Int32)), .val (.int (x1.toInt8.toInt32)), .val (.int (6 : Int32))] [(.int (x1.toInt8.toInt32)), (.int (42 : Int32))])) (fun _ k => XS.iload X0.here hx rfl (hb hby d_ixc_17) rfl k) ?_
              by_cases hc14 : (42 : Int32) = (x1.toInt8.toInt32)
              · skip
                refine OGo.go (U' := T0.setTop (mkF m 22 #[.val (.ref b1), .val (.int x1), .val (.int (0 : Int32)), .val (.int (15 : Int32)), .val (.int (x1.toInt8.toInt32)), .val (.int (6 : Int32))] [])) (fun _ k => XS.icmpNo X0.here hx rfl (hb hby d_ixc_19) rfl (teq hc14).2 k) ?_
                refine OGo.go (U' := T0.setTop (mkF m 24 #[.val (.ref b1), .val (.int x1), .val (.int (0 : Int32)), .val (.int (15 : Int32)), .val (.int (x1.toInt8.toInt32)), .val (.int (6 : Int32))] [(.int (6 : Int32))])) (fun _ k => XS.iload X0.here hx rfl (hb hby d_ixc_22) rfl k) ?_
                refine OGo.retI X0 hx hret hlk (hb hby d_ixc_24) ?_ (by decide) (by decide)
                refine ⟨?_, e0, rfl⟩
                rw [F_ixc]
                rw [if_neg hc2]
                rw [if_neg hc4]
                rw [if_neg hc6]
                rw [if_neg hc8]
                rw [if_neg hc10]
                rw [if_neg hc12]
                rw [if_pos hc14]
              · skip
                refine OGo.go (U' := T0.setTop (mkF m 25 #[.val (.ref b1), .val (.int x1), .val (.int (0 : Int32)), .val (.int (15 : Int32)), .val (.int (x1.toInt8.toInt32)), .val (.int (6 : Int32))] [])) (fun _ k => XS.icmpYes X0.here hx rfl (pc0 := 19) (pc' := 25) rfl (hb hby d_ixc_19) rfl (feq hc14).2 (by decide) (by decide) k) ?_
                refine OGo.go (U' := T0.setTop (mkF m 28 #[.val (.ref b1), .val (.int x1), .val (.int (0 : Int32)), .val (.int (15 : Int32)), .val (.int (x1.toInt8.toInt32)), .val (.int (7 : Int32))] [])) (fun _ k => XS.iinc X0.here hx rfl (hb hby d_ixc_25) rfl (l' := #[.val (.ref b1), .val (.int x1), .val (.int (0 : Int32)), .val (.int (15 : Int32)), .val (.int (x1.toInt8.toInt32)), .val (.int (7 : Int32))]) rfl k) ?_
                refine OGo.go (U' := T0.setTop (mkF m 7 #[.val (.ref b1), .val (.int x1), .val (.int (0 : Int32)), .val (.int (15 : Int32)), .val (.int (x1.toInt8.toInt32)), .val (.int (7 : Int32))] [])) (fun _ k => XS.goto X0.here hx rfl (pc0 := 28) (pc' := 7) rfl (hb hby d_ixc_28) (by decide) (by decide) k) ?_
                refine OGo.go (U' := T0.setTop (mkF m 9 #[.val (.ref b1), .val (.int x1), .val (.int (0 : Int32)), .val (.int (15 : Int32)), .val (.int (x1.toInt8.toInt32)), .val (.int (7 : Int32))] [(.int (7 : Int32))])) (fun _ k => XS.iload X0.here hx rfl (hb hby d_ixc_7) rfl k) ?_
                refine OGo.go (U' := T0.setTop (mkF m 10 #[.val (.ref b1), .val (.int x1), .val (.int (0 : Int32)), .val (.int (15 : Int32)), .val (.int (x1.toInt8.toInt32)), .val (.int (7 : Int32))] [(.int (15 : Int32)), (.int (7 : Int32))])) (fun _ k => XS.iloadN X0.here hx rfl (hb hby d_ixc_9) rfl k) ?_
                refine OGo.go (U' := T0.setTop (mkF m 13 #[.val (.ref b1), .val (.int x1), .val (.int (0 : Int32)), .val (.int (15 : Int32)), .val (.int (x1.toInt8.toInt32)), .val (.int (7 : Int32))] [])) (fun _ k => XS.icmpNo X0.here hx rfl (hb hby d_ixc_10) rfl (tlt (by decide)).2.1 k) ?_
                refine OGo.go (U' := T0.setTop (mkF m 14 #[.val (.ref b1), .val (.int x1), .val (.int (0 : Int32)), .val (.int (15 : Int32)), .val (.int (x1.toInt8.toInt32)), .val (.int (7 : Int32))] [(.ref b1)])) (fun _ k => XS.aloadN X0.here hx rfl (hb hby d_ixc_13) rfl rfl k) ?_
                refine OGo.go (U' := T0.setTop (mkF m 16 #[.val (.ref b1), .val (.int x1), .val (.int (0 : Int32)), .val (.int (15 : Int32)), .val (.int (x1.toInt8.toInt32)), .val (.int (7 : Int32))] [(.int (7 : Int32)), (.ref b1)])) (fun _ k => XS.iload X0.here hx rfl (hb hby d_ixc_14) rfl k) ?_
                refine OGo.go (U' := T0.setTop (mkF m 17 #[.val (.ref b1), .val (.int x1), .val (.int (0 : Int32)), .val (.int (15 : Int32)), .val (.int (x1.toInt8.toInt32)), .val (.int (7 : Int32))] [(.int (43 : Int32))])) (fun _ k => Arv.ldB X0 hx hZ e0 A1 (j := 7) ⟨by decide, by decide⟩ (v := (.int (43 : Int32))) rfl (g := (mkF m 16 #[.val (.ref b1), .val (.int x1), .val (.int (0 : Int32)), .val (.int (15 : Int32)), .val (.int (x1.toInt8.toInt32)), .val (.int (7 : Int32))] [(.int (7 : Int32)), (.ref b1)])) rfl rfl (hb hby d_ixc_16) _ k) ?_
                refine OGo.go (U' := T0.setTop (mkF m 19 #[.val (.ref b1), .val (.int x1), .val (.int (0 : Int32)), .val (.int (15 : Int32)), .val (.int (x1.toInt8.toInt32)), .val (.int (7 : Int32))] [(.int (x1.toInt8.toInt32)), (.int (43 : Int32))])) (fun _ k => XS.iload X0.here hx rfl (hb hby d_ixc_17) rfl k) ?_
                by_cases hc16 : (43 : Int32) = (x1.toInt8.toInt32)
                · skip
                  refine OGo.go (U' := T0.setTop (mkF m 22 #[.val (.ref b1), .val (.int x1), .val (.int (0 : Int32)), .val (.int (15 : Int32)), .val (.int (x1.toInt8.toInt32)), .val (.int (7 : Int32))] [])) (fun _ k => XS.icmpNo X0.here hx rfl (hb hby d_ixc_19) rfl (teq hc16).2 k) ?_
                  refine OGo.go (U' := T0.setTop (mkF m 24 #[.val (.ref b1), .val (.int x1), .val (.int (0 : Int32)), .val (.int (15 : Int32)), .val (.int (x1.toInt8.toInt32)), .val (.int (7 : Int32))] [(.int (7 : Int32))])) (fun _ k => XS.iload X0.here hx rfl (hb hby d_ixc_22) rfl k) ?_
                  refine OGo.retI X0 hx hret hlk (hb hby d_ixc_24) ?_ (by decide) (by decide)
                  refine ⟨?_, e0, rfl⟩
                  rw [F_ixc]
                  rw [if_neg hc2]
                  rw [if_neg hc4]
                  rw [if_neg hc6]
                  rw [if_neg hc8]
                  rw [if_neg hc10]
                  rw [if_neg hc12]
                  rw [if_neg hc14]
                  rw [if_pos hc16]
                · skip
                  refine OGo.go (U' := T0.setTop (mkF m 25 #[.val (.ref b1), .val (.int x1), .val (.int (0 : Int32)), .val (.int (15 : Int32)), .val (.int (x1.toInt8.toInt32)), .val (.int (7 : Int32))] [])) (fun _ k => XS.icmpYes X0.here hx rfl (pc0 := 19) (pc' := 25) rfl (hb hby d_ixc_19) rfl (feq hc16).2 (by decide) (by decide) k) ?_
                  refine OGo.go (U' := T0.setTop (mkF m 28 #[.val (.ref b1), .val (.int x1), .val (.int (0 : Int32)), .val (.int (15 : Int32)), .val (.int (x1.toInt8.toInt32)), .val (.int (8 : Int32))] [])) (fun _ k => XS.iinc X0.here hx rfl (hb hby d_ixc_25) rfl (l' := #[.val (.ref b1), .val (.int x1), .val (.int (0 : Int32)), .val (.int (15 : Int32)), .val (.int (x1.toInt8.toInt32)), .val (.int (8 : Int32))]) rfl k) ?_
                  refine OGo.go (U' := T0.setTop (mkF m 7 #[.val (.ref b1), .val (.int x1), .val (.int (0 : Int32)), .val (.int (15 : Int32)), .val (.int (x1.toInt8.toInt32)), .val (.int (8 : Int32))] [])) (fun _ k => XS.goto X0.here hx rfl (pc0 := 28) (pc' := 7) rfl (hb hby d_ixc_28) (by decide) (by decide) k) ?_
                  refine OGo.go (U' := T0.setTop (mkF m 9 #[.val (.ref b1), .val (.int x1), .val (.int (0 : Int32)), .val (.int (15 : Int32)), .val (.int (x1.toInt8.toInt32)), .val (.int (8 : Int32))] [(.int (8 : Int32))])) (fun _ k => XS.iload X0.here hx rfl (hb hby d_ixc_7) rfl k) ?_
                  refine OGo.go (U' := T0.setTop (mkF m 10 #[.val (.ref b1), .val (.int x1), .val (.int (0 : Int32)), .val (.int (15 : Int32)), .val (.int (x1.toInt8.toInt32)), .val (.int (8 : Int32))] [(.int (15 : Int32)), (.int (8 : Int32))])) (fun _ k => XS.iloadN X0.here hx rfl (hb hby d_ixc_9) rfl k) ?_
                  refine OGo.go (U' := T0.setTop (mkF m 13 #[.val (.ref b1), .val (.int x1), .val (.int (0 : Int32)), .val (.int (15 : Int32)), .val (.int (x1.toInt8.toInt32)), .val (.int (8 : Int32))] [])) (fun _ k => XS.icmpNo X0.here hx rfl (hb hby d_ixc_10) rfl (tlt (by decide)).2.1 k) ?_
                  refine OGo.go (U' := T0.setTop (mkF m 14 #[.val (.ref b1), .val (.int x1), .val (.int (0 : Int32)), .val (.int (15 : Int32)), .val (.int (x1.toInt8.toInt32)), .val (.int (8 : Int32))] [(.ref b1)])) (fun _ k => XS.aloadN X0.here hx rfl (hb hby d_ixc_13) rfl rfl k) ?_
                  refine OGo.go (U' := T0.setTop (mkF m 16 #[.val (.ref b1), .val (.int x1), .val (.int (0 : Int32)), .val (.int (15 : Int32)), .val (.int (x1.toInt8.toInt32)), .val (.int (8 : Int32))] [(.int (8 : Int32)), (.ref b1)])) (fun _ k => XS.iload X0.here hx rfl (hb hby d_ixc_14) rfl k) ?_
                  refine OGo.go (U' := T0.setTop (mkF m 17 #[.val (.ref b1), .val (.int x1), .val (.int (0 : Int32)), .val (.int (15 : Int32)), .val (.int (x1.toInt8.toInt32)), .val (.int (8 : Int32))] [(.int (45 : Int32))])) (fun _ k => Arv.ldB X0 hx hZ e0 A1 (j := 8) ⟨by decide, by decide⟩ (v := (.int (45 : Int32))) rfl (g := (mkF m 16 #[.val (.ref b1), .val (.int x1), .val (.int (0 : Int32)), .val (.int (15 : Int32)), .val (.int (x1.toInt8.toInt32)), .val (.int (8 : Int32))] [(.int (8 : Int32)), (.ref b1)])) rfl rfl (hb hby d_ixc_16) _ k) ?_
                  refine OGo.go (U' := T0.setTop (mkF m 19 #[.val (.ref b1), .val (.int x1), .val (.int (0 : Int32)), .val (.int (15 : Int32)), .val (.int (x1.toInt8.toInt32)), .val (.int (8 : Int32))] [(.int (x1.toInt8.toInt32)), (.int (45 : Int32))])) (fun _ k => XS.iload X0.here hx rfl (hb hby d_ixc_17) rfl k) ?_
                  by_cases hc18 : (45 : Int32) = (x1.toInt8.toInt32)
                  · skip
                    refine OGo.go (U' := T0.setTop (mkF m 22 #[.val (.ref b1), .val (.int x1), .val (.int (0 : Int32)), .val (.int (15 : Int32)), .val (.int (x1.toInt8.toInt32)), .val (.int (8 : Int32))] [])) (fun _ k => XS.icmpNo X0.here hx rfl (hb hby d_ixc_19) rfl (teq hc18).2 k) ?_
                    refine OGo.go (U' := T0.setTop (mkF m 24 #[.val (.ref b1), .val (.int x1), .val (.int (0 : Int32)), .val (.int (15 : Int32)), .val (.int (x1.toInt8.toInt32)), .val (.int (8 : Int32))] [(.int (8 : Int32))])) (fun _ k => XS.iload X0.here hx rfl (hb hby d_ixc_22) rfl k) ?_
                    refine OGo.retI X0 hx hret hlk (hb hby d_ixc_24) ?_ (by decide) (by decide)
                    refine ⟨?_, e0, rfl⟩
                    rw [F_ixc]
                    rw [if_neg hc2]
                    rw [if_neg hc4]
                    rw [if_neg hc6]
                    rw [if_neg hc8]
                    rw [if_neg hc10]
                    rw [if_neg hc12]
                    rw [if_neg hc14]
                    rw [if_neg hc16]
                    rw [if_pos hc18]
                  · skip
                    refine OGo.go (U' := T0.setTop (mkF m 25 #[.val (.ref b1), .val (.int x1), .val (.int (0 : Int32)), .val (.int (15 : Int32)), .val (.int (x1.toInt8.toInt32)), .val (.int (8 : Int32))] [])) (fun _ k => XS.icmpYes X0.here hx rfl (pc0 := 19) (pc' := 25) rfl (hb hby d_ixc_19) rfl (feq hc18).2 (by decide) (by decide) k) ?_
                    refine OGo.go (U' := T0.setTop (mkF m 28 #[.val (.ref b1), .val (.int x1), .val (.int (0 : Int32)), .val (.int (15 : Int32)), .val (.int (x1.toInt8.toInt32)), .val (.int (9 : Int32))] [])) (fun _ k => XS.iinc X0.here hx rfl (hb hby d_ixc_25) rfl (l' := #[.val (.ref b1), .val (.int x1), .val (.int (0 : Int32)), .val (.int (15 : Int32)), .val (.int (x1.toInt8.toInt32)), .val (.int (9 : Int32))]) rfl k) ?_
                    refine OGo.go (U' := T0.setTop (mkF m 7 #[.val (.ref b1), .val (.int x1), .val (.int (0 : Int32)), .val (.int (15 : Int32)), .val (.int (x1.toInt8.toInt32)), .val (.int (9 : Int32))] [])) (fun _ k => XS.goto X0.here hx rfl (pc0 := 28) (pc' := 7) rfl (hb hby d_ixc_28) (by decide) (by decide) k) ?_
                    refine OGo.go (U' := T0.setTop (mkF m 9 #[.val (.ref b1), .val (.int x1), .val (.int (0 : Int32)), .val (.int (15 : Int32)), .val (.int (x1.toInt8.toInt32)), .val (.int (9 : Int32))] [(.int (9 : Int32))])) (fun _ k => XS.iload X0.here hx rfl (hb hby d_ixc_7) rfl k) ?_
                    refine OGo.go (U' := T0.setTop (mkF m 10 #[.val (.ref b1), .val (.int x1), .val (.int (0 : Int32)), .val (.int (15 : Int32)), .val (.int (x1.toInt8.toInt32)), .val (.int (9 : Int32))] [(.int (15 : Int32)), (.int (9 : Int32))])) (fun _ k => XS.iloadN X0.here hx rfl (hb hby d_ixc_9) rfl k) ?_
                    refine OGo.go (U' := T0.setTop (mkF m 13 #[.val (.ref b1), .val (.int x1), .val (.int (0 : Int32)), .val (.int (15 : Int32)), .val (.int (x1.toInt8.toInt32)), .val (.int (9 : Int32))] [])) (fun _ k => XS.icmpNo X0.here hx rfl (hb hby d_ixc_10) rfl (tlt (by decide)).2.1 k) ?_
                    refine OGo.go (U' := T0.setTop (mkF m 14 #[.val (.ref b1), .val (.int x1), .val (.int (0 : Int32)), .val (.int (15 : Int32)), .val (.int (x1.toInt8.toInt32)), .val (.int (9 : Int32))] [(.ref b1)])) (fun _ k => XS.aloadN X0.here hx rfl (hb hby d_ixc_13) rfl rfl k) ?_
                    refine OGo.go (U' := T0.setTop (mkF m 16 #[.val (.ref b1), .val (.int x1), .val (.int (0 : Int32)), .val (.int (15 : Int32)), .val (.int (x1.toInt8.toInt32)), .val (.int (9 : Int32))] [(.int (9 : Int32)), (.ref b1)])) (fun _ k => XS.iload X0.here hx rfl (hb hby d_ixc_14) rfl k) ?_
                    refine OGo.go (U' := T0.setTop (mkF m 17 #[.val (.ref b1), .val (.int x1), .val (.int (0 : Int32)), .val (.int (15 : Int32)), .val (.int (x1.toInt8.toInt32)), .val (.int (9 : Int32))] [(.int (46 : Int32))])) (fun _ k => Arv.ldB X0 hx hZ e0 A1 (j := 9) ⟨by decide, by decide⟩ (v := (.int (46 : Int32))) rfl (g := (mkF m 16 #[.val (.ref b1), .val (.int x1), .val (.int (0 : Int32)), .val (.int (15 : Int32)), .val (.int (x1.toInt8.toInt32)), .val (.int (9 : Int32))] [(.int (9 : Int32)), (.ref b1)])) rfl rfl (hb hby d_ixc_16) _ k) ?_
                    refine OGo.go (U' := T0.setTop (mkF m 19 #[.val (.ref b1), .val (.int x1), .val (.int (0 : Int32)), .val (.int (15 : Int32)), .val (.int (x1.toInt8.toInt32)), .val (.int (9 : Int32))] [(.int (x1.toInt8.toInt32)), (.int (46 : Int32))])) (fun _ k => XS.iload X0.here hx rfl (hb hby d_ixc_17) rfl k) ?_
                    by_cases hc20 : (46 : Int32) = (x1.toInt8.toInt32)
                    · skip
                      refine OGo.go (U' := T0.setTop (mkF m 22 #[.val (.ref b1), .val (.int x1), .val (.int (0 : Int32)), .val (.int (15 : Int32)), .val (.int (x1.toInt8.toInt32)), .val (.int (9 : Int32))] [])) (fun _ k => XS.icmpNo X0.here hx rfl (hb hby d_ixc_19) rfl (teq hc20).2 k) ?_
                      refine OGo.go (U' := T0.setTop (mkF m 24 #[.val (.ref b1), .val (.int x1), .val (.int (0 : Int32)), .val (.int (15 : Int32)), .val (.int (x1.toInt8.toInt32)), .val (.int (9 : Int32))] [(.int (9 : Int32))])) (fun _ k => XS.iload X0.here hx rfl (hb hby d_ixc_22) rfl k) ?_
                      refine OGo.retI X0 hx hret hlk (hb hby d_ixc_24) ?_ (by decide) (by decide)
                      refine ⟨?_, e0, rfl⟩
                      rw [F_ixc]
                      rw [if_neg hc2]
                      rw [if_neg hc4]
                      rw [if_neg hc6]
                      rw [if_neg hc8]
                      rw [if_neg hc10]
                      rw [if_neg hc12]
                      rw [if_neg hc14]
                      rw [if_neg hc16]
                      rw [if_neg hc18]
                      rw [if_pos hc20]
                    · skip
                      refine OGo.go (U' := T0.setTop (mkF m 25 #[.val (.ref b1), .val (.int x1), .val (.int (0 : Int32)), .val (.int (15 : Int32)), .val (.int (x1.toInt8.toInt32)), .val (.int (9 : Int32))] [])) (fun _ k => XS.icmpYes X0.here hx rfl (pc0 := 19) (pc' := 25) rfl (hb hby d_ixc_19) rfl (feq hc20).2 (by decide) (by decide) k) ?_
                      refine OGo.go (U' := T0.setTop (mkF m 28 #[.val (.ref b1), .val (.int x1), .val (.int (0 : Int32)), .val (.int (15 : Int32)), .val (.int (x1.toInt8.toInt32)), .val (.int (10 : Int32))] [])) (fun _ k => XS.iinc X0.here hx rfl (hb hby d_ixc_25) rfl (l' := #[.val (.ref b1), .val (.int x1), .val (.int (0 : Int32)), .val (.int (15 : Int32)), .val (.int (x1.toInt8.toInt32)), .val (.int (10 : Int32))]) rfl k) ?_
                      refine OGo.go (U' := T0.setTop (mkF m 7 #[.val (.ref b1), .val (.int x1), .val (.int (0 : Int32)), .val (.int (15 : Int32)), .val (.int (x1.toInt8.toInt32)), .val (.int (10 : Int32))] [])) (fun _ k => XS.goto X0.here hx rfl (pc0 := 28) (pc' := 7) rfl (hb hby d_ixc_28) (by decide) (by decide) k) ?_
                      refine OGo.go (U' := T0.setTop (mkF m 9 #[.val (.ref b1), .val (.int x1), .val (.int (0 : Int32)), .val (.int (15 : Int32)), .val (.int (x1.toInt8.toInt32)), .val (.int (10 : Int32))] [(.int (10 : Int32))])) (fun _ k => XS.iload X0.here hx rfl (hb hby d_ixc_7) rfl k) ?_
                      refine OGo.go (U' := T0.setTop (mkF m 10 #[.val (.ref b1), .val (.int x1), .val (.int (0 : Int32)), .val (.int (15 : Int32)), .val (.int (x1.toInt8.toInt32)), .val (.int (10 : Int32))] [(.int (15 : Int32)), (.int (10 : Int32))])) (fun _ k => XS.iloadN X0.here hx rfl (hb hby d_ixc_9) rfl k) ?_
                      refine OGo.go (U' := T0.setTop (mkF m 13 #[.val (.ref b1), .val (.int x1), .val (.int (0 : Int32)), .val (.int (15 : Int32)), .val (.int (x1.toInt8.toInt32)), .val (.int (10 : Int32))] [])) (fun _ k => XS.icmpNo X0.here hx rfl (hb hby d_ixc_10) rfl (tlt (by decide)).2.1 k) ?_
                      refine OGo.go (U' := T0.setTop (mkF m 14 #[.val (.ref b1), .val (.int x1), .val (.int (0 : Int32)), .val (.int (15 : Int32)), .val (.int (x1.toInt8.toInt32)), .val (.int (10 : Int32))] [(.ref b1)])) (fun _ k => XS.aloadN X0.here hx rfl (hb hby d_ixc_13) rfl rfl k) ?_
                      refine OGo.go (U' := T0.setTop (mkF m 16 #[.val (.ref b1), .val (.int x1), .val (.int (0 : Int32)), .val (.int (15 : Int32)), .val (.int (x1.toInt8.toInt32)), .val (.int (10 : Int32))] [(.int (10 : Int32)), (.ref b1)])) (fun _ k => XS.iload X0.here hx rfl (hb hby d_ixc_14) rfl k) ?_
                      refine OGo.go (U' := T0.setTop (mkF m 17 #[.val (.ref b1), .val (.int x1), .val (.int (0 : Int32)), .val (.int (15 : Int32)), .val (.int (x1.toInt8.toInt32)), .val (.int (10 : Int32))] [(.int (94 : Int32))])) (fun _ k => Arv.ldB X0 hx hZ e0 A1 (j := 10) ⟨by decide, by decide⟩ (v := (.int (94 : Int32))) rfl (g := (mkF m 16 #[.val (.ref b1), .val (.int x1), .val (.int (0 : Int32)), .val (.int (15 : Int32)), .val (.int (x1.toInt8.toInt32)), .val (.int (10 : Int32))] [(.int (10 : Int32)), (.ref b1)])) rfl rfl (hb hby d_ixc_16) _ k) ?_
                      refine OGo.go (U' := T0.setTop (mkF m 19 #[.val (.ref b1), .val (.int x1), .val (.int (0 : Int32)), .val (.int (15 : Int32)), .val (.int (x1.toInt8.toInt32)), .val (.int (10 : Int32))] [(.int (x1.toInt8.toInt32)), (.int (94 : Int32))])) (fun _ k => XS.iload X0.here hx rfl (hb hby d_ixc_17) rfl k) ?_
                      by_cases hc22 : (94 : Int32) = (x1.toInt8.toInt32)
                      · skip
                        refine OGo.go (U' := T0.setTop (mkF m 22 #[.val (.ref b1), .val (.int x1), .val (.int (0 : Int32)), .val (.int (15 : Int32)), .val (.int (x1.toInt8.toInt32)), .val (.int (10 : Int32))] [])) (fun _ k => XS.icmpNo X0.here hx rfl (hb hby d_ixc_19) rfl (teq hc22).2 k) ?_
                        refine OGo.go (U' := T0.setTop (mkF m 24 #[.val (.ref b1), .val (.int x1), .val (.int (0 : Int32)), .val (.int (15 : Int32)), .val (.int (x1.toInt8.toInt32)), .val (.int (10 : Int32))] [(.int (10 : Int32))])) (fun _ k => XS.iload X0.here hx rfl (hb hby d_ixc_22) rfl k) ?_
                        refine OGo.retI X0 hx hret hlk (hb hby d_ixc_24) ?_ (by decide) (by decide)
                        refine ⟨?_, e0, rfl⟩
                        rw [F_ixc]
                        rw [if_neg hc2]
                        rw [if_neg hc4]
                        rw [if_neg hc6]
                        rw [if_neg hc8]
                        rw [if_neg hc10]
                        rw [if_neg hc12]
                        rw [if_neg hc14]
                        rw [if_neg hc16]
                        rw [if_neg hc18]
                        rw [if_neg hc20]
                        rw [if_pos hc22]
                      · skip
                        refine OGo.go (U' := T0.setTop (mkF m 25 #[.val (.ref b1), .val (.int x1), .val (.int (0 : Int32)), .val (.int (15 : Int32)), .val (.int (x1.toInt8.toInt32)), .val (.int (10 : Int32))] [])) (fun _ k => XS.icmpYes X0.here hx rfl (pc0 := 19) (pc' := 25) rfl (hb hby d_ixc_19) rfl (feq hc22).2 (by decide) (by decide) k) ?_
                        refine OGo.go (U' := T0.setTop (mkF m 28 #[.val (.ref b1), .val (.int x1), .val (.int (0 : Int32)), .val (.int (15 : Int32)), .val (.int (x1.toInt8.toInt32)), .val (.int (11 : Int32))] [])) (fun _ k => XS.iinc X0.here hx rfl (hb hby d_ixc_25) rfl (l' := #[.val (.ref b1), .val (.int x1), .val (.int (0 : Int32)), .val (.int (15 : Int32)), .val (.int (x1.toInt8.toInt32)), .val (.int (11 : Int32))]) rfl k) ?_
                        refine OGo.go (U' := T0.setTop (mkF m 7 #[.val (.ref b1), .val (.int x1), .val (.int (0 : Int32)), .val (.int (15 : Int32)), .val (.int (x1.toInt8.toInt32)), .val (.int (11 : Int32))] [])) (fun _ k => XS.goto X0.here hx rfl (pc0 := 28) (pc' := 7) rfl (hb hby d_ixc_28) (by decide) (by decide) k) ?_
                        refine OGo.go (U' := T0.setTop (mkF m 9 #[.val (.ref b1), .val (.int x1), .val (.int (0 : Int32)), .val (.int (15 : Int32)), .val (.int (x1.toInt8.toInt32)), .val (.int (11 : Int32))] [(.int (11 : Int32))])) (fun _ k => XS.iload X0.here hx rfl (hb hby d_ixc_7) rfl k) ?_
                        refine OGo.go (U' := T0.setTop (mkF m 10 #[.val (.ref b1), .val (.int x1), .val (.int (0 : Int32)), .val (.int (15 : Int32)), .val (.int (x1.toInt8.toInt32)), .val (.int (11 : Int32))] [(.int (15 : Int32)), (.int (11 : Int32))])) (fun _ k => XS.iloadN X0.here hx rfl (hb hby d_ixc_9) rfl k) ?_
                        refine OGo.go (U' := T0.setTop (mkF m 13 #[.val (.ref b1), .val (.int x1), .val (.int (0 : Int32)), .val (.int (15 : Int32)), .val (.int (x1.toInt8.toInt32)), .val (.int (11 : Int32))] [])) (fun _ k => XS.icmpNo X0.here hx rfl (hb hby d_ixc_10) rfl (tlt (by decide)).2.1 k) ?_
                        refine OGo.go (U' := T0.setTop (mkF m 14 #[.val (.ref b1), .val (.int x1), .val (.int (0 : Int32)), .val (.int (15 : Int32)), .val (.int (x1.toInt8.toInt32)), .val (.int (11 : Int32))] [(.ref b1)])) (fun _ k => XS.aloadN X0.here hx rfl (hb hby d_ixc_13) rfl rfl k) ?_
                        refine OGo.go (U' := T0.setTop (mkF m 16 #[.val (.ref b1), .val (.int x1), .val (.int (0 : Int32)), .val (.int (15 : Int32)), .val (.int (x1.toInt8.toInt32)), .val (.int (11 : Int32))] [(.int (11 : Int32)), (.ref b1)])) (fun _ k => XS.iload X0.here hx rfl (hb hby d_ixc_14) rfl k) ?_
                        refine OGo.go (U' := T0.setTop (mkF m 17 #[.val (.ref b1), .val (.int x1), .val (.int (0 : Int32)), .val (.int (15 : Int32)), .val (.int (x1.toInt8.toInt32)), .val (.int (11 : Int32))] [(.int (95 : Int32))])) (fun _ k => Arv.ldB X0 hx hZ e0 A1 (j := 11) ⟨by decide, by decide⟩ (v := (.int (95 : Int32))) rfl (g := (mkF m 16 #[.val (.ref b1), .val (.int x1), .val (.int (0 : Int32)), .val (.int (15 : Int32)), .val (.int (x1.toInt8.toInt32)), .val (.int (11 : Int32))] [(.int (11 : Int32)), (.ref b1)])) rfl rfl (hb hby d_ixc_16) _ k) ?_
                        refine OGo.go (U' := T0.setTop (mkF m 19 #[.val (.ref b1), .val (.int x1), .val (.int (0 : Int32)), .val (.int (15 : Int32)), .val (.int (x1.toInt8.toInt32)), .val (.int (11 : Int32))] [(.int (x1.toInt8.toInt32)), (.int (95 : Int32))])) (fun _ k => XS.iload X0.here hx rfl (hb hby d_ixc_17) rfl k) ?_
                        by_cases hc24 : (95 : Int32) = (x1.toInt8.toInt32)
                        · skip
                          refine OGo.go (U' := T0.setTop (mkF m 22 #[.val (.ref b1), .val (.int x1), .val (.int (0 : Int32)), .val (.int (15 : Int32)), .val (.int (x1.toInt8.toInt32)), .val (.int (11 : Int32))] [])) (fun _ k => XS.icmpNo X0.here hx rfl (hb hby d_ixc_19) rfl (teq hc24).2 k) ?_
                          refine OGo.go (U' := T0.setTop (mkF m 24 #[.val (.ref b1), .val (.int x1), .val (.int (0 : Int32)), .val (.int (15 : Int32)), .val (.int (x1.toInt8.toInt32)), .val (.int (11 : Int32))] [(.int (11 : Int32))])) (fun _ k => XS.iload X0.here hx rfl (hb hby d_ixc_22) rfl k) ?_
                          refine OGo.retI X0 hx hret hlk (hb hby d_ixc_24) ?_ (by decide) (by decide)
                          refine ⟨?_, e0, rfl⟩
                          rw [F_ixc]
                          rw [if_neg hc2]
                          rw [if_neg hc4]
                          rw [if_neg hc6]
                          rw [if_neg hc8]
                          rw [if_neg hc10]
                          rw [if_neg hc12]
                          rw [if_neg hc14]
                          rw [if_neg hc16]
                          rw [if_neg hc18]
                          rw [if_neg hc20]
                          rw [if_neg hc22]
                          rw [if_pos hc24]
                        · skip
                          refine OGo.go (U' := T0.setTop (mkF m 25 #[.val (.ref b1), .val (.int x1), .val (.int (0 : Int32)), .val (.int (15 : Int32)), .val (.int (x1.toInt8.toInt32)), .val (.int (11 : Int32))] [])) (fun _ k => XS.icmpYes X0.here hx rfl (pc0 := 19) (pc' := 25) rfl (hb hby d_ixc_19) rfl (feq hc24).2 (by decide) (by decide) k) ?_
                          refine OGo.go (U' := T0.setTop (mkF m 28 #[.val (.ref b1), .val (.int x1), .val (.int (0 : Int32)), .val (.int (15 : Int32)), .val (.int (x1.toInt8.toInt32)), .val (.int (12 : Int32))] [])) (fun _ k => XS.iinc X0.here hx rfl (hb hby d_ixc_25) rfl (l' := #[.val (.ref b1), .val (.int x1), .val (.int (0 : Int32)), .val (.int (15 : Int32)), .val (.int (x1.toInt8.toInt32)), .val (.int (12 : Int32))]) rfl k) ?_
                          refine OGo.go (U' := T0.setTop (mkF m 7 #[.val (.ref b1), .val (.int x1), .val (.int (0 : Int32)), .val (.int (15 : Int32)), .val (.int (x1.toInt8.toInt32)), .val (.int (12 : Int32))] [])) (fun _ k => XS.goto X0.here hx rfl (pc0 := 28) (pc' := 7) rfl (hb hby d_ixc_28) (by decide) (by decide) k) ?_
                          refine OGo.go (U' := T0.setTop (mkF m 9 #[.val (.ref b1), .val (.int x1), .val (.int (0 : Int32)), .val (.int (15 : Int32)), .val (.int (x1.toInt8.toInt32)), .val (.int (12 : Int32))] [(.int (12 : Int32))])) (fun _ k => XS.iload X0.here hx rfl (hb hby d_ixc_7) rfl k) ?_
                          refine OGo.go (U' := T0.setTop (mkF m 10 #[.val (.ref b1), .val (.int x1), .val (.int (0 : Int32)), .val (.int (15 : Int32)), .val (.int (x1.toInt8.toInt32)), .val (.int (12 : Int32))] [(.int (15 : Int32)), (.int (12 : Int32))])) (fun _ k => XS.iloadN X0.here hx rfl (hb hby d_ixc_9) rfl k) ?_
                          refine OGo.go (U' := T0.setTop (mkF m 13 #[.val (.ref b1), .val (.int x1), .val (.int (0 : Int32)), .val (.int (15 : Int32)), .val (.int (x1.toInt8.toInt32)), .val (.int (12 : Int32))] [])) (fun _ k => XS.icmpNo X0.here hx rfl (hb hby d_ixc_10) rfl (tlt (by decide)).2.1 k) ?_
                          refine OGo.go (U' := T0.setTop (mkF m 14 #[.val (.ref b1), .val (.int x1), .val (.int (0 : Int32)), .val (.int (15 : Int32)), .val (.int (x1.toInt8.toInt32)), .val (.int (12 : Int32))] [(.ref b1)])) (fun _ k => XS.aloadN X0.here hx rfl (hb hby d_ixc_13) rfl rfl k) ?_
                          refine OGo.go (U' := T0.setTop (mkF m 16 #[.val (.ref b1), .val (.int x1), .val (.int (0 : Int32)), .val (.int (15 : Int32)), .val (.int (x1.toInt8.toInt32)), .val (.int (12 : Int32))] [(.int (12 : Int32)), (.ref b1)])) (fun _ k => XS.iload X0.here hx rfl (hb hby d_ixc_14) rfl k) ?_
                          refine OGo.go (U' := T0.setTop (mkF m 17 #[.val (.ref b1), .val (.int x1), .val (.int (0 : Int32)), .val (.int (15 : Int32)), .val (.int (x1.toInt8.toInt32)), .val (.int (12 : Int32))] [(.int (96 : Int32))])) (fun _ k => Arv.ldB X0 hx hZ e0 A1 (j := 12) ⟨by decide, by decide⟩ (v := (.int (96 : Int32))) rfl (g := (mkF m 16 #[.val (.ref b1), .val (.int x1), .val (.int (0 : Int32)), .val (.int (15 : Int32)), .val (.int (x1.toInt8.toInt32)), .val (.int (12 : Int32))] [(.int (12 : Int32)), (.ref b1)])) rfl rfl (hb hby d_ixc_16) _ k) ?_
                          refine OGo.go (U' := T0.setTop (mkF m 19 #[.val (.ref b1), .val (.int x1), .val (.int (0 : Int32)), .val (.int (15 : Int32)), .val (.int (x1.toInt8.toInt32)), .val (.int (12 : Int32))] [(.int (x1.toInt8.toInt32)), (.int (96 : Int32))])) (fun _ k => XS.iload X0.here hx rfl (hb hby d_ixc_17) rfl k) ?_
                          by_cases hc26 : (96 : Int32) = (x1.toInt8.toInt32)
                          · skip
                            refine OGo.go (U' := T0.setTop (mkF m 22 #[.val (.ref b1), .val (.int x1), .val (.int (0 : Int32)), .val (.int (15 : Int32)), .val (.int (x1.toInt8.toInt32)), .val (.int (12 : Int32))] [])) (fun _ k => XS.icmpNo X0.here hx rfl (hb hby d_ixc_19) rfl (teq hc26).2 k) ?_
                            refine OGo.go (U' := T0.setTop (mkF m 24 #[.val (.ref b1), .val (.int x1), .val (.int (0 : Int32)), .val (.int (15 : Int32)), .val (.int (x1.toInt8.toInt32)), .val (.int (12 : Int32))] [(.int (12 : Int32))])) (fun _ k => XS.iload X0.here hx rfl (hb hby d_ixc_22) rfl k) ?_
                            refine OGo.retI X0 hx hret hlk (hb hby d_ixc_24) ?_ (by decide) (by decide)
                            refine ⟨?_, e0, rfl⟩
                            rw [F_ixc]
                            rw [if_neg hc2]
                            rw [if_neg hc4]
                            rw [if_neg hc6]
                            rw [if_neg hc8]
                            rw [if_neg hc10]
                            rw [if_neg hc12]
                            rw [if_neg hc14]
                            rw [if_neg hc16]
                            rw [if_neg hc18]
                            rw [if_neg hc20]
                            rw [if_neg hc22]
                            rw [if_neg hc24]
                            rw [if_pos hc26]
                          · skip
                            refine OGo.go (U' := T0.setTop (mkF m 25 #[.val (.ref b1), .val (.int x1), .val (.int (0 : Int32)), .val (.int (15 : Int32)), .val (.int (x1.toInt8.toInt32)), .val (.int (12 : Int32))] [])) (fun _ k => XS.icmpYes X0.here hx rfl (pc0 := 19) (pc' := 25) rfl (hb hby d_ixc_19) rfl (feq hc26).2 (by decide) (by decide) k) ?_
                            refine OGo.go (U' := T0.setTop (mkF m 28 #[.val (.ref b1), .val (.int x1), .val (.int (0 : Int32)), .val (.int (15 : Int32)), .val (.int (x1.toInt8.toInt32)), .val (.int (13 : Int32))] [])) (fun _ k => XS.iinc X0.here hx rfl (hb hby d_ixc_25) rfl (l' := #[.val (.ref b1), .val (.int x1), .val (.int (0 : Int32)), .val (.int (15 : Int32)), .val (.int (x1.toInt8.toInt32)), .val (.int (13 : Int32))]) rfl k) ?_
                            refine OGo.go (U' := T0.setTop (mkF m 7 #[.val (.ref b1), .val (.int x1), .val (.int (0 : Int32)), .val (.int (15 : Int32)), .val (.int (x1.toInt8.toInt32)), .val (.int (13 : Int32))] [])) (fun _ k => XS.goto X0.here hx rfl (pc0 := 28) (pc' := 7) rfl (hb hby d_ixc_28) (by decide) (by decide) k) ?_
                            refine OGo.go (U' := T0.setTop (mkF m 9 #[.val (.ref b1), .val (.int x1), .val (.int (0 : Int32)), .val (.int (15 : Int32)), .val (.int (x1.toInt8.toInt32)), .val (.int (13 : Int32))] [(.int (13 : Int32))])) (fun _ k => XS.iload X0.here hx rfl (hb hby d_ixc_7) rfl k) ?_
                            refine OGo.go (U' := T0.setTop (mkF m 10 #[.val (.ref b1), .val (.int x1), .val (.int (0 : Int32)), .val (.int (15 : Int32)), .val (.int (x1.toInt8.toInt32)), .val (.int (13 : Int32))] [(.int (15 : Int32)), (.int (13 : Int32))])) (fun _ k => XS.iloadN X0.here hx rfl (hb hby d_ixc_9) rfl k) ?_
                            refine OGo.go (U' := T0.setTop (mkF m 13 #[.val (.ref b1), .val (.int x1), .val (.int (0 : Int32)), .val (.int (15 : Int32)), .val (.int (x1.toInt8.toInt32)), .val (.int (13 : Int32))] [])) (fun _ k => XS.icmpNo X0.here hx rfl (hb hby d_ixc_10) rfl (tlt (by decide)).2.1 k) ?_
                            refine OGo.go (U' := T0.setTop (mkF m 14 #[.val (.ref b1), .val (.int x1), .val (.int (0 : Int32)), .val (.int (15 : Int32)), .val (.int (x1.toInt8.toInt32)), .val (.int (13 : Int32))] [(.ref b1)])) (fun _ k => XS.aloadN X0.here hx rfl (hb hby d_ixc_13) rfl rfl k) ?_
                            refine OGo.go (U' := T0.setTop (mkF m 16 #[.val (.ref b1), .val (.int x1), .val (.int (0 : Int32)), .val (.int (15 : Int32)), .val (.int (x1.toInt8.toInt32)), .val (.int (13 : Int32))] [(.int (13 : Int32)), (.ref b1)])) (fun _ k => XS.iload X0.here hx rfl (hb hby d_ixc_14) rfl k) ?_
                            refine OGo.go (U' := T0.setTop (mkF m 17 #[.val (.ref b1), .val (.int x1), .val (.int (0 : Int32)), .val (.int (15 : Int32)), .val (.int (x1.toInt8.toInt32)), .val (.int (13 : Int32))] [(.int (124 : Int32))])) (fun _ k => Arv.ldB X0 hx hZ e0 A1 (j := 13) ⟨by decide, by decide⟩ (v := (.int (124 : Int32))) rfl (g := (mkF m 16 #[.val (.ref b1), .val (.int x1), .val (.int (0 : Int32)), .val (.int (15 : Int32)), .val (.int (x1.toInt8.toInt32)), .val (.int (13 : Int32))] [(.int (13 : Int32)), (.ref b1)])) rfl rfl (hb hby d_ixc_16) _ k) ?_
                            refine OGo.go (U' := T0.setTop (mkF m 19 #[.val (.ref b1), .val (.int x1), .val (.int (0 : Int32)), .val (.int (15 : Int32)), .val (.int (x1.toInt8.toInt32)), .val (.int (13 : Int32))] [(.int (x1.toInt8.toInt32)), (.int (124 : Int32))])) (fun _ k => XS.iload X0.here hx rfl (hb hby d_ixc_17) rfl k) ?_
                            by_cases hc28 : (124 : Int32) = (x1.toInt8.toInt32)
                            · skip
                              refine OGo.go (U' := T0.setTop (mkF m 22 #[.val (.ref b1), .val (.int x1), .val (.int (0 : Int32)), .val (.int (15 : Int32)), .val (.int (x1.toInt8.toInt32)), .val (.int (13 : Int32))] [])) (fun _ k => XS.icmpNo X0.here hx rfl (hb hby d_ixc_19) rfl (teq hc28).2 k) ?_
                              refine OGo.go (U' := T0.setTop (mkF m 24 #[.val (.ref b1), .val (.int x1), .val (.int (0 : Int32)), .val (.int (15 : Int32)), .val (.int (x1.toInt8.toInt32)), .val (.int (13 : Int32))] [(.int (13 : Int32))])) (fun _ k => XS.iload X0.here hx rfl (hb hby d_ixc_22) rfl k) ?_
                              refine OGo.retI X0 hx hret hlk (hb hby d_ixc_24) ?_ (by decide) (by decide)
                              refine ⟨?_, e0, rfl⟩
                              rw [F_ixc]
                              rw [if_neg hc2]
                              rw [if_neg hc4]
                              rw [if_neg hc6]
                              rw [if_neg hc8]
                              rw [if_neg hc10]
                              rw [if_neg hc12]
                              rw [if_neg hc14]
                              rw [if_neg hc16]
                              rw [if_neg hc18]
                              rw [if_neg hc20]
                              rw [if_neg hc22]
                              rw [if_neg hc24]
                              rw [if_neg hc26]
                              rw [if_pos hc28]
                            · skip
                              refine OGo.go (U' := T0.setTop (mkF m 25 #[.val (.ref b1), .val (.int x1), .val (.int (0 : Int32)), .val (.int (15 : Int32)), .val (.int (x1.toInt8.toInt32)), .val (.int (13 : Int32))] [])) (fun _ k => XS.icmpYes X0.here hx rfl (pc0 := 19) (pc' := 25) rfl (hb hby d_ixc_19) rfl (feq hc28).2 (by decide) (by decide) k) ?_
                              refine OGo.go (U' := T0.setTop (mkF m 28 #[.val (.ref b1), .val (.int x1), .val (.int (0 : Int32)), .val (.int (15 : Int32)), .val (.int (x1.toInt8.toInt32)), .val (.int (14 : Int32))] [])) (fun _ k => XS.iinc X0.here hx rfl (hb hby d_ixc_25) rfl (l' := #[.val (.ref b1), .val (.int x1), .val (.int (0 : Int32)), .val (.int (15 : Int32)), .val (.int (x1.toInt8.toInt32)), .val (.int (14 : Int32))]) rfl k) ?_
                              refine OGo.go (U' := T0.setTop (mkF m 7 #[.val (.ref b1), .val (.int x1), .val (.int (0 : Int32)), .val (.int (15 : Int32)), .val (.int (x1.toInt8.toInt32)), .val (.int (14 : Int32))] [])) (fun _ k => XS.goto X0.here hx rfl (pc0 := 28) (pc' := 7) rfl (hb hby d_ixc_28) (by decide) (by decide) k) ?_
                              refine OGo.go (U' := T0.setTop (mkF m 9 #[.val (.ref b1), .val (.int x1), .val (.int (0 : Int32)), .val (.int (15 : Int32)), .val (.int (x1.toInt8.toInt32)), .val (.int (14 : Int32))] [(.int (14 : Int32))])) (fun _ k => XS.iload X0.here hx rfl (hb hby d_ixc_7) rfl k) ?_
                              refine OGo.go (U' := T0.setTop (mkF m 10 #[.val (.ref b1), .val (.int x1), .val (.int (0 : Int32)), .val (.int (15 : Int32)), .val (.int (x1.toInt8.toInt32)), .val (.int (14 : Int32))] [(.int (15 : Int32)), (.int (14 : Int32))])) (fun _ k => XS.iloadN X0.here hx rfl (hb hby d_ixc_9) rfl k) ?_
                              refine OGo.go (U' := T0.setTop (mkF m 13 #[.val (.ref b1), .val (.int x1), .val (.int (0 : Int32)), .val (.int (15 : Int32)), .val (.int (x1.toInt8.toInt32)), .val (.int (14 : Int32))] [])) (fun _ k => XS.icmpNo X0.here hx rfl (hb hby d_ixc_10) rfl (tlt (by decide)).2.1 k) ?_
                              refine OGo.go (U' := T0.setTop (mkF m 14 #[.val (.ref b1), .val (.int x1), .val (.int (0 : Int32)), .val (.int (15 : Int32)), .val (.int (x1.toInt8.toInt32)), .val (.int (14 : Int32))] [(.ref b1)])) (fun _ k => XS.aloadN X0.here hx rfl (hb hby d_ixc_13) rfl rfl k) ?_
                              refine OGo.go (U' := T0.setTop (mkF m 16 #[.val (.ref b1), .val (.int x1), .val (.int (0 : Int32)), .val (.int (15 : Int32)), .val (.int (x1.toInt8.toInt32)), .val (.int (14 : Int32))] [(.int (14 : Int32)), (.ref b1)])) (fun _ k => XS.iload X0.here hx rfl (hb hby d_ixc_14) rfl k) ?_
                              refine OGo.go (U' := T0.setTop (mkF m 17 #[.val (.ref b1), .val (.int x1), .val (.int (0 : Int32)), .val (.int (15 : Int32)), .val (.int (x1.toInt8.toInt32)), .val (.int (14 : Int32))] [(.int (126 : Int32))])) (fun _ k => Arv.ldB X0 hx hZ e0 A1 (j := 14) ⟨by decide, by decide⟩ (v := (.int (126 : Int32))) rfl (g := (mkF m 16 #[.val (.ref b1), .val (.int x1), .val (.int (0 : Int32)), .val (.int (15 : Int32)), .val (.int (x1.toInt8.toInt32)), .val (.int (14 : Int32))] [(.int (14 : Int32)), (.ref b1)])) rfl rfl (hb hby d_ixc_16) _ k) ?_
                              refine OGo.go (U' := T0.setTop (mkF m 19 #[.val (.ref b1), .val (.int x1), .val (.int (0 : Int32)), .val (.int (15 : Int32)), .val (.int (x1.toInt8.toInt32)), .val (.int (14 : Int32))] [(.int (x1.toInt8.toInt32)), (.int (126 : Int32))])) (fun _ k => XS.iload X0.here hx rfl (hb hby d_ixc_17) rfl k) ?_
                              by_cases hc30 : (126 : Int32) = (x1.toInt8.toInt32)
                              · skip
                                refine OGo.go (U' := T0.setTop (mkF m 22 #[.val (.ref b1), .val (.int x1), .val (.int (0 : Int32)), .val (.int (15 : Int32)), .val (.int (x1.toInt8.toInt32)), .val (.int (14 : Int32))] [])) (fun _ k => XS.icmpNo X0.here hx rfl (hb hby d_ixc_19) rfl (teq hc30).2 k) ?_
                                refine OGo.go (U' := T0.setTop (mkF m 24 #[.val (.ref b1), .val (.int x1), .val (.int (0 : Int32)), .val (.int (15 : Int32)), .val (.int (x1.toInt8.toInt32)), .val (.int (14 : Int32))] [(.int (14 : Int32))])) (fun _ k => XS.iload X0.here hx rfl (hb hby d_ixc_22) rfl k) ?_
                                refine OGo.retI X0 hx hret hlk (hb hby d_ixc_24) ?_ (by decide) (by decide)
                                refine ⟨?_, e0, rfl⟩
                                rw [F_ixc]
                                rw [if_neg hc2]
                                rw [if_neg hc4]
                                rw [if_neg hc6]
                                rw [if_neg hc8]
                                rw [if_neg hc10]
                                rw [if_neg hc12]
                                rw [if_neg hc14]
                                rw [if_neg hc16]
                                rw [if_neg hc18]
                                rw [if_neg hc20]
                                rw [if_neg hc22]
                                rw [if_neg hc24]
                                rw [if_neg hc26]
                                rw [if_neg hc28]
                                rw [if_pos hc30]
                              · skip
                                refine OGo.go (U' := T0.setTop (mkF m 25 #[.val (.ref b1), .val (.int x1), .val (.int (0 : Int32)), .val (.int (15 : Int32)), .val (.int (x1.toInt8.toInt32)), .val (.int (14 : Int32))] [])) (fun _ k => XS.icmpYes X0.here hx rfl (pc0 := 19) (pc' := 25) rfl (hb hby d_ixc_19) rfl (feq hc30).2 (by decide) (by decide) k) ?_
                                refine OGo.go (U' := T0.setTop (mkF m 28 #[.val (.ref b1), .val (.int x1), .val (.int (0 : Int32)), .val (.int (15 : Int32)), .val (.int (x1.toInt8.toInt32)), .val (.int (15 : Int32))] [])) (fun _ k => XS.iinc X0.here hx rfl (hb hby d_ixc_25) rfl (l' := #[.val (.ref b1), .val (.int x1), .val (.int (0 : Int32)), .val (.int (15 : Int32)), .val (.int (x1.toInt8.toInt32)), .val (.int (15 : Int32))]) rfl k) ?_
                                refine OGo.go (U' := T0.setTop (mkF m 7 #[.val (.ref b1), .val (.int x1), .val (.int (0 : Int32)), .val (.int (15 : Int32)), .val (.int (x1.toInt8.toInt32)), .val (.int (15 : Int32))] [])) (fun _ k => XS.goto X0.here hx rfl (pc0 := 28) (pc' := 7) rfl (hb hby d_ixc_28) (by decide) (by decide) k) ?_
                                refine OGo.go (U' := T0.setTop (mkF m 9 #[.val (.ref b1), .val (.int x1), .val (.int (0 : Int32)), .val (.int (15 : Int32)), .val (.int (x1.toInt8.toInt32)), .val (.int (15 : Int32))] [(.int (15 : Int32))])) (fun _ k => XS.iload X0.here hx rfl (hb hby d_ixc_7) rfl k) ?_
                                refine OGo.go (U' := T0.setTop (mkF m 10 #[.val (.ref b1), .val (.int x1), .val (.int (0 : Int32)), .val (.int (15 : Int32)), .val (.int (x1.toInt8.toInt32)), .val (.int (15 : Int32))] [(.int (15 : Int32)), (.int (15 : Int32))])) (fun _ k => XS.iloadN X0.here hx rfl (hb hby d_ixc_9) rfl k) ?_
                                refine OGo.go (U' := T0.setTop (mkF m 31 #[.val (.ref b1), .val (.int x1), .val (.int (0 : Int32)), .val (.int (15 : Int32)), .val (.int (x1.toInt8.toInt32)), .val (.int (15 : Int32))] [])) (fun _ k => XS.icmpYes X0.here hx rfl (pc0 := 10) (pc' := 31) rfl (hb hby d_ixc_10) rfl (flt (by decide)).2.1 (by decide) (by decide) k) ?_
                                refine OGo.go (U' := T0.setTop (mkF m 32 #[.val (.ref b1), .val (.int x1), .val (.int (0 : Int32)), .val (.int (15 : Int32)), .val (.int (x1.toInt8.toInt32)), .val (.int (15 : Int32))] [(.int (-1 : Int32))])) (fun _ k => XS.iconst X0.here hx rfl (hb hby d_ixc_31) k) ?_
                                refine OGo.retI X0 hx hret hlk (hb hby d_ixc_32) ?_ (by decide) (by decide)
                                refine ⟨?_, e0, rfl⟩
                                rw [F_ixc]
                                rw [if_neg hc2]
                                rw [if_neg hc4]
                                rw [if_neg hc6]
                                rw [if_neg hc8]
                                rw [if_neg hc10]
                                rw [if_neg hc12]
                                rw [if_neg hc14]
                                rw [if_neg hc16]
                                rw [if_neg hc18]
                                rw [if_neg hc20]
                                rw [if_neg hc22]
                                rw [if_neg hc24]
                                rw [if_neg hc26]
                                rw [if_neg hc28]
                                rw [if_neg hc30]
def F_ixL (x1 : Int32) : Int32 := (if (F_can x1) = (0 : Int32) then (-1 : Int32) else (F_ixc x1))
theorem d_ixL_0 : decode jdk_43_method_22_code 0 = .ok (.iload_n 1, 1) := by decide +kernel
theorem d_ixL_1 : decode jdk_43_method_22_code 1 = .ok (.invokestatic 88, 3) := by decide +kernel
theorem d_ixL_4 : decode jdk_43_method_22_code 4 = .ok (.ifCond .ne 5, 3) := by decide +kernel
theorem d_ixL_7 : decode jdk_43_method_22_code 7 = .ok (.iconst (-1), 1) := by decide +kernel
theorem d_ixL_8 : decode jdk_43_method_22_code 8 = .ok (.ireturn, 1) := by decide +kernel
theorem d_ixL_9 : decode jdk_43_method_22_code 9 = .ok (.iload_n 2, 1) := by decide +kernel
theorem d_ixL_10 : decode jdk_43_method_22_code 10 = .ok (.iconst 0, 1) := by decide +kernel
theorem d_ixL_11 : decode jdk_43_method_22_code 11 = .ok (.invokestatic 92, 3) := by decide +kernel
theorem d_ixL_14 : decode jdk_43_method_22_code 14 = .ok (.istore_n 2, 1) := by decide +kernel
theorem d_ixL_15 : decode jdk_43_method_22_code 15 = .ok (.iload_n 3, 1) := by decide +kernel
theorem d_ixL_16 : decode jdk_43_method_22_code 16 = .ok (.aload_n 0, 1) := by decide +kernel
theorem d_ixL_17 : decode jdk_43_method_22_code 17 = .ok (.arraylength, 1) := by decide +kernel
theorem d_ixL_18 : decode jdk_43_method_22_code 18 = .ok (.invokestatic 38, 3) := by decide +kernel
theorem d_ixL_21 : decode jdk_43_method_22_code 21 = .ok (.istore_n 3, 1) := by decide +kernel
theorem d_ixL_22 : decode jdk_43_method_22_code 22 = .ok (.iload_n 2, 1) := by decide +kernel
theorem d_ixL_23 : decode jdk_43_method_22_code 23 = .ok (.iload_n 3, 1) := by decide +kernel
theorem d_ixL_24 : decode jdk_43_method_22_code 24 = .ok (.if_icmp .lt 5, 3) := by decide +kernel
theorem d_ixL_29 : decode jdk_43_method_22_code 29 = .ok (.aload_n 0, 1) := by decide +kernel
theorem d_ixL_30 : decode jdk_43_method_22_code 30 = .ok (.iload_n 1, 1) := by decide +kernel
theorem d_ixL_31 : decode jdk_43_method_22_code 31 = .ok (.iload_n 2, 1) := by decide +kernel
theorem d_ixL_32 : decode jdk_43_method_22_code 32 = .ok (.iload_n 3, 1) := by decide +kernel
theorem d_ixL_33 : decode jdk_43_method_22_code 33 = .ok (.invokestatic 95, 3) := by decide +kernel
theorem d_ixL_36 : decode jdk_43_method_22_code 36 = .ok (.ireturn, 1) := by decide +kernel
theorem ef_ixL (m : MethodId) (b1 : Addr) (x1 : Int32) : entryFrame m #[(.ref b1), (.int x1), (.int (0 : Int32)), (.int (15 : Int32))] 4 = mkF m 0 #[.val (.ref b1), .val (.int x1), .val (.int (0 : Int32)), .val (.int (15 : Int32))] [] := by first | (simp [entryFrame, mkF, argsToLocals, Value.category]; done) | rfl
theorem pn_ixL : plainFor (⟨"java/lang/StringLatin1", "indexOf", "([BIII)I"⟩ : MethodName) = true := by first | exact plainFor_of_name (by first | (simp [plainName, overriddenIn]; done) | decide +kernel) | decide +kernel
set_option maxRecDepth 65536 in
set_option maxHeartbeats 40000000 in
theorem rm_ixL (l : Launch) (Z : State) (a0 : Array Value) (hw : ∀ d ∈ tables_1, d.before a0 Z = true) (b1 : Addr) (x1 : Int32) (k1 : ClassId) (h0 : Heap) (A1 : Arv Z h0 b1 k1 .byte 15 [.int 33, .int 35, .int 36, .int 37, .int 38, .int 39, .int 42, .int 43, .int 45, .int 46, .int 94, .int 95, .int 96, .int 124, .int 126] (.int 0)) :
    OMet l Z (⟨"java/lang/StringLatin1", "indexOf", "([BIII)I"⟩ : MethodName) jdk_43_method_22_code 4 (some .int) [] ({ frames := 1, cells := 0, slots := 0, locals := 17 } : Room) #[(.ref b1), (.int x1), (.int (0 : Int32)), (.int (15 : Int32))] h0 (OPure (some (.int (F_ixL x1))) h0) := by
  refine OMet.of pn_ixL ?_
  intro p e s m below meth c T0 X0 hx hby hml hown0 hnm hret hlk hZ e0
  have hown : s.vm.findClass "java/lang/StringLatin1" = some m.cls := hown0
  refine OGo.go (fun t k => castTop (ef_ixL m b1 x1) k) ?_
  refine OGo.go (U' := T0.setTop (mkF m 1 #[.val (.ref b1), .val (.int x1), .val (.int (0 : Int32)), .val (.int (15 : Int32))] [(.int x1)])) (fun _ k => XS.iloadN X0.here hx rfl (hb hby d_ixL_0) rfl k) ?_
  refine OGo.callS X0 hx hZ (y := (⟨"java/lang/StringLatin1", "canEncode", "(I)Z"⟩ : MethodName)) hown (hw _ (List.mem_of_getElem? (i := 45) rfl)) (hw _ (List.mem_of_getElem? (i := 46) rfl)) (hw _ (List.mem_of_getElem? (i := 43) rfl)) (hw _ (List.mem_of_getElem? (i := 47) rfl)) (by decide) (g := (mkF m 1 #[.val (.ref b1), .val (.int x1), .val (.int (0 : Int32)), .val (.int (15 : Int32))] [(.int x1)])) (argsL := [(.int x1)]) (rest := []) e0 (rm_can l Z a0 hw x1 h0) rfl (by rw [hml]; rfl) (lenOf pd_1 rfl) rfl (W := 0) (by show 2 * 0 + _ ≤ _; exact Nat.le_of_eq rfl) (hb hby d_ixL_1) (by decide) (by decide) (by decide) (by decide) ?_
  rintro _ T1 _ X1 ⟨rfl, e1, rfl⟩
  rw [List.append_nil] at X1
  refine OGo.nm (fun (y2 : Int32) => T1.setTop (mkF m 4 #[.val (.ref b1), .val (.int x1), .val (.int (0 : Int32)), .val (.int (15 : Int32))] [(.int y2)])) (x := (F_can x1)) (fun y2 hy2 => ?_)
  by_cases hc3 : y2 = (0 : Int32)
  · skip
    refine OGo.go (U' := T1.setTop (mkF m 7 #[.val (.ref b1), .val (.int x1), .val (.int (0 : Int32)), .val (.int (15 : Int32))] [])) (fun _ k => XS.ifNo X1.here hx rfl (hb hby d_ixL_4) rfl ((if0 _ _).trans (teq hc3).2) k) ?_
    refine OGo.go (U' := T1.setTop (mkF m 8 #[.val (.ref b1), .val (.int x1), .val (.int (0 : Int32)), .val (.int (15 : Int32))] [(.int (-1 : Int32))])) (fun _ k => XS.iconst X1.here hx rfl (hb hby d_ixL_7) k) ?_
    refine OGo.retI X1 hx hret hlk (hb hby d_ixL_8) ?_ (by decide) (by decide)
    refine ⟨?_, e1, rfl⟩
    subst hy2
    rw [F_ixL]
    rw [if_pos hc3]
  · skip
    refine OGo.go (U' := T1.setTop (mkF m 9 #[.val (.ref b1), .val (.int x1), .val (.int (0 : Int32)), .val (.int (15 : Int32))] [])) (fun _ k => XS.ifYes X1.here hx rfl (pc0 := 4) (pc' := 9) rfl (hb hby d_ixL_4) rfl ((if0 _ _).trans (feq hc3).2) (by decide) (by decide) k) ?_
    refine OGo.go (U' := T1.setTop (mkF m 10 #[.val (.ref b1), .val (.int x1), .val (.int (0 : Int32)), .val (.int (15 : Int32))] [(.int (0 : Int32))])) (fun _ k => XS.iloadN X1.here hx rfl (hb hby d_ixL_9) rfl k) ?_
    refine OGo.go (U' := T1.setTop (mkF m 11 #[.val (.ref b1), .val (.int x1), .val (.int (0 : Int32)), .val (.int (15 : Int32))] [(.int (0 : Int32)), (.int (0 : Int32))])) (fun _ k => XS.iconst X1.here hx rfl (hb hby d_ixL_10) k) ?_
    refine OGo.callS X1 hx hZ (y := (⟨"java/lang/Math", "max", "(II)I"⟩ : MethodName)) hown (hw _ (List.mem_of_getElem? (i := 48) rfl)) (hw _ (List.mem_of_getElem? (i := 49) rfl)) (hw _ (List.mem_of_getElem? (i := 50) rfl)) (hw _ (List.mem_of_getElem? (i := 51) rfl)) (by decide) (g := (mkF m 11 #[.val (.ref b1), .val (.int x1), .val (.int (0 : Int32)), .val (.int (15 : Int32))] [(.int (0 : Int32)), (.int (0 : Int32))])) (argsL := [(.int (0 : Int32)), (.int (0 : Int32))]) (rest := []) e1 (rm_max l Z a0 hw h0) rfl (by rw [hml]; rfl) (lenOf pd_2 rfl) rfl (W := 0) (by show 2 * 0 + _ ≤ _; exact Nat.le_of_eq rfl) (hb hby d_ixL_11) (by decide) (by decide) (by decide) (by decide) ?_
    rintro _ T4 _ X4 ⟨rfl, e4, rfl⟩
    rw [List.append_nil] at X4
    show OGo p e below _ (T4.setTop (mkF m 14 #[.val (.ref b1), .val (.int x1), .val (.int (0 : Int32)), .val (.int (15 : Int32))] [(.int (0 : Int32))]))
    refine OGo.go (U' := T4.setTop (mkF m 15 #[.val (.ref b1), .val (.int x1), .val (.int (0 : Int32)), .val (.int (15 : Int32))] [])) (fun _ k => XS.istoreN X4.here hx rfl (hb hby d_ixL_14) rfl (l' := #[.val (.ref b1), .val (.int x1), .val (.int (0 : Int32)), .val (.int (15 : Int32))]) rfl k) ?_
    refine OGo.go (U' := T4.setTop (mkF m 16 #[.val (.ref b1), .val (.int x1), .val (.int (0 : Int32)), .val (.int (15 : Int32))] [(.int (15 : Int32))])) (fun _ k => XS.iloadN X4.here hx rfl (hb hby d_ixL_15) rfl k) ?_
    refine OGo.go (U' := T4.setTop (mkF m 17 #[.val (.ref b1), .val (.int x1), .val (.int (0 : Int32)), .val (.int (15 : Int32))] [(.ref b1), (.int (15 : Int32))])) (fun _ k => XS.aloadN X4.here hx rfl (hb hby d_ixL_16) rfl rfl k) ?_
    refine OGo.go (U' := T4.setTop (mkF m 18 #[.val (.ref b1), .val (.int x1), .val (.int (0 : Int32)), .val (.int (15 : Int32))] [(.int (15 : Int32)), (.int (15 : Int32))])) (fun _ k => Arv.len' X4 hx hZ e4 A1 (g := (mkF m 17 #[.val (.ref b1), .val (.int x1), .val (.int (0 : Int32)), .val (.int (15 : Int32))] [(.ref b1), (.int (15 : Int32))])) rfl rfl (hb hby d_ixL_17) _ k) ?_
    refine OGo.callS X4 hx hZ (y := (⟨"java/lang/Math", "min", "(II)I"⟩ : MethodName)) hown (hw _ (List.mem_of_getElem? (i := 52) rfl)) (hw _ (List.mem_of_getElem? (i := 53) rfl)) (hw _ (List.mem_of_getElem? (i := 50) rfl)) (hw _ (List.mem_of_getElem? (i := 54) rfl)) (by decide) (g := (mkF m 18 #[.val (.ref b1), .val (.int x1), .val (.int (0 : Int32)), .val (.int (15 : Int32))] [(.int (15 : Int32)), (.int (15 : Int32))])) (argsL := [(.int (15 : Int32)), (.int (15 : Int32))]) (rest := []) e4 (rm_min l Z a0 hw h0) rfl (by rw [hml]; rfl) (lenOf pd_2 rfl) rfl (W := 0) (by show 2 * 0 + _ ≤ _; exact Nat.le_of_eq rfl) (hb hby d_ixL_18) (by decide) (by decide) (by decide) (by decide) ?_
    rintro _ T6 _ X6 ⟨rfl, e6, rfl⟩
    rw [List.append_nil] at X6
    show OGo p e below _ (T6.setTop (mkF m 21 #[.val (.ref b1), .val (.int x1), .val (.int (0 : Int32)), .val (.int (15 : Int32))] [(.int (15 : Int32))]))
    refine OGo.go (U' := T6.setTop (mkF m 22 #[.val (.ref b1), .val (.int x1), .val (.int (0 : Int32)), .val (.int (15 : Int32))] [])) (fun _ k => XS.istoreN X6.here hx rfl (hb hby d_ixL_21) rfl (l' := #[.val (.ref b1), .val (.int x1), .val (.int (0 : Int32)), .val (.int (15 : Int32))]) rfl k) ?_
    refine OGo.go (U' := T6.setTop (mkF m 23 #[.val (.ref b1), .val (.int x1), .val (.int (0 : Int32)), .val (.int (15 : Int32))] [(.int (0 : Int32))])) (fun _ k => XS.iloadN X6.here hx rfl (hb hby d_ixL_22) rfl k) ?_
    refine OGo.go (U' := T6.setTop (mkF m 24 #[.val (.ref b1), .val (.int x1), .val (.int (0 : Int32)), .val (.int (15 : Int32))] [(.int (15 : Int32)), (.int (0 : Int32))])) (fun _ k => XS.iloadN X6.here hx rfl (hb hby d_ixL_23) rfl k) ?_
    refine OGo.go (U' := T6.setTop (mkF m 29 #[.val (.ref b1), .val (.int x1), .val (.int (0 : Int32)), .val (.int (15 : Int32))] [])) (fun _ k => XS.icmpYes X6.here hx rfl (pc0 := 24) (pc' := 29) rfl (hb hby d_ixL_24) rfl (tlt (by decide)).1 (by decide) (by decide) k) ?_
    refine OGo.go (U' := T6.setTop (mkF m 30 #[.val (.ref b1), .val (.int x1), .val (.int (0 : Int32)), .val (.int (15 : Int32))] [(.ref b1)])) (fun _ k => XS.aloadN X6.here hx rfl (hb hby d_ixL_29) rfl rfl k) ?_
    refine OGo.go (U' := T6.setTop (mkF m 31 #[.val (.ref b1), .val (.int x1), .val (.int (0 : Int32)), .val (.int (15 : Int32))] [(.int x1), (.ref b1)])) (fun _ k => XS.iloadN X6.here hx rfl (hb hby d_ixL_30) rfl k) ?_
    refine OGo.go (U' := T6.setTop (mkF m 32 #[.val (.ref b1), .val (.int x1), .val (.int (0 : Int32)), .val (.int (15 : Int32))] [(.int (0 : Int32)), (.int x1), (.ref b1)])) (fun _ k => XS.iloadN X6.here hx rfl (hb hby d_ixL_31) rfl k) ?_
    refine OGo.go (U' := T6.setTop (mkF m 33 #[.val (.ref b1), .val (.int x1), .val (.int (0 : Int32)), .val (.int (15 : Int32))] [(.int (15 : Int32)), (.int (0 : Int32)), (.int x1), (.ref b1)])) (fun _ k => XS.iloadN X6.here hx rfl (hb hby d_ixL_32) rfl k) ?_
    refine OGo.callS X6 hx hZ (y := (⟨"java/lang/StringLatin1", "indexOfChar", "([BIII)I"⟩ : MethodName)) hown (hw _ (List.mem_of_getElem? (i := 55) rfl)) (hw _ (List.mem_of_getElem? (i := 56) rfl)) (hw _ (List.mem_of_getElem? (i := 43) rfl)) (hw _ (List.mem_of_getElem? (i := 57) rfl)) (by decide) (g := (mkF m 33 #[.val (.ref b1), .val (.int x1), .val (.int (0 : Int32)), .val (.int (15 : Int32))] [(.int (15 : Int32)), (.int (0 : Int32)), (.int x1), (.ref b1)])) (argsL := [(.ref b1), (.int x1), (.int (0 : Int32)), (.int (15 : Int32))]) (rest := []) e6 (rm_ixc l Z a0 hw b1 x1 k1 h0 A1) rfl (by rw [hml]; rfl) (lenOf pd_3 rfl) rfl (W := 0) (by show 2 * 0 + _ ≤ _; exact Nat.le_of_eq rfl) (hb hby d_ixL_33) (by decide) (by decide) (by decide) (by decide) ?_
    rintro _ T7 _ X7 ⟨rfl, e7, rfl⟩
    rw [List.append_nil] at X7
    refine OGo.nm (fun (y8 : Int32) => T7.setTop (mkF m 36 #[.val (.ref b1), .val (.int x1), .val (.int (0 : Int32)), .val (.int (15 : Int32))] [(.int y8)])) (x := (F_ixc x1)) (fun y8 hy8 => ?_)
    refine OGo.retI X7 hx hret hlk (hb hby d_ixL_36) ?_ (by decide) (by decide)
    refine ⟨?_, e7, rfl⟩
    subst hy2
    subst hy8
    rw [F_ixL]
    rw [if_neg hc3]
theorem d_ix2_0 : decode jdk_42_method_80_code 0 = .ok (.aload_n 0, 1) := by decide +kernel
theorem d_ix2_1 : decode jdk_42_method_80_code 1 = .ok (.invokevirtual 492, 3) := by decide +kernel
theorem d_ix2_4 : decode jdk_42_method_80_code 4 = .ok (.ifCond .eq 19, 3) := by decide +kernel
theorem d_ix2_7 : decode jdk_42_method_80_code 7 = .ok (.aload_n 0, 1) := by decide +kernel
theorem d_ix2_8 : decode jdk_42_method_80_code 8 = .ok (.getfield 9, 3) := by decide +kernel
theorem d_ix2_11 : decode jdk_42_method_80_code 11 = .ok (.iload_n 1, 1) := by decide +kernel
theorem d_ix2_12 : decode jdk_42_method_80_code 12 = .ok (.iload_n 2, 1) := by decide +kernel
theorem d_ix2_13 : decode jdk_42_method_80_code 13 = .ok (.aload_n 0, 1) := by decide +kernel
theorem d_ix2_14 : decode jdk_42_method_80_code 14 = .ok (.invokevirtual 505, 3) := by decide +kernel
theorem d_ix2_17 : decode jdk_42_method_80_code 17 = .ok (.invokestatic 637, 3) := by decide +kernel
theorem d_ix2_20 : decode jdk_42_method_80_code 20 = .ok (.goto 16, 3) := by decide +kernel
theorem d_ix2_36 : decode jdk_42_method_80_code 36 = .ok (.ireturn, 1) := by decide +kernel
theorem ef_ix2 (m : MethodId) (a1 : Addr) (x1 : Int32) : entryFrame m #[(.ref a1), (.int x1), (.int (0 : Int32))] 3 = mkF m 0 #[.val (.ref a1), .val (.int x1), .val (.int (0 : Int32))] [] := by first | (simp [entryFrame, mkF, argsToLocals, Value.category]; done) | rfl
theorem pn_ix2 : plainFor (⟨"java/lang/String", "indexOf", "(II)I"⟩ : MethodName) = true := by first | exact plainFor_of_name (by first | (simp [plainName, overriddenIn]; done) | decide +kernel) | decide +kernel
set_option maxRecDepth 65536 in
set_option maxHeartbeats 40000000 in
theorem rm_ix2 (l : Launch) (Z : State) (a0 : Array Value) (hw : ∀ d ∈ tables_1, d.before a0 Z = true) (a1 : Addr) (x1 : Int32) (b1 : Addr) (k1 : ClassId) (cs : Int32) (h0 : Heap) (E1 : Exa Z h0 a1 "java/lang/String") (f1 : Fld Z h0 a1 "java/lang/String" "coder" "B" (.int 0)) (f2 : Fld Z h0 a1 "java/lang/String" "value" "[B" (.ref b1)) (A1 : Arv Z h0 b1 k1 .byte 15 [.int 33, .int 35, .int 36, .int 37, .int 38, .int 39, .int 42, .int 43, .int 45, .int 46, .int 94, .int 95, .int 96, .int 124, .int 126] (.int 0)) (S0 : Sta Z h0 "java/lang/String" "COMPACT_STRINGS" "Z" (.int cs)) (hcs : ¬ cs = 0) :
    OMet l Z (⟨"java/lang/String", "indexOf", "(II)I"⟩ : MethodName) jdk_42_method_80_code 3 (some .int) [] ({ frames := 2, cells := 0, slots := 0, locals := 32 } : Room) #[(.ref a1), (.int x1), (.int (0 : Int32))] h0 (OPure (some (.int (F_ixL x1))) h0) := by
  refine OMet.of pn_ix2 ?_
  intro p e s m below meth c T0 X0 hx hby hml hown0 hnm hret hlk hZ e0
  have hown : s.vm.findClass "java/lang/String" = some m.cls := hown0
  refine OGo.go (fun t k => castTop (ef_ix2 m a1 x1) k) ?_
  refine OGo.go (U' := T0.setTop (mkF m 1 #[.val (.ref a1), .val (.int x1), .val (.int (0 : Int32))] [(.ref a1)])) (fun _ k => XS.aloadN X0.here hx rfl (hb hby d_ix2_0) rfl rfl k) ?_
  refine OGo.callV X0 hx hZ (y := (⟨"java/lang/String", "isLatin1", "()Z"⟩ : MethodName)) (C := "java/lang/String") hown (hw _ (List.mem_of_getElem? (i := 23) rfl)) (hw _ (List.mem_of_getElem? (i := 24) rfl)) (hw _ (List.mem_of_getElem? (i := 26) rfl)) (hw _ (List.mem_of_getElem? (i := 25) rfl)) (hw _ (List.mem_of_getElem? (i := 6) rfl)) (hw _ (List.mem_of_getElem? (i := 27) rfl)) (by decide) (g := (mkF m 1 #[.val (.ref a1), .val (.int x1), .val (.int (0 : Int32))] [(.ref a1)])) (a := a1) (argsL := []) (rest := []) e0 E1 (rm_isL l Z a0 hw a1 b1 k1 cs h0 E1 f1 f2 A1 S0 hcs) rfl (by rw [hml]; rfl) (lenOf pd_4 rfl) rfl (W := 0) (by show 2 * 0 + _ ≤ _; exact Nat.le_of_eq rfl) (hb hby d_ix2_1) (by decide) (by decide) (by decide) (by decide) ?_
  rintro _ T1 _ X1 ⟨rfl, e1, rfl⟩
  rw [List.append_nil] at X1
  show OGo p e below _ (T1.setTop (mkF m 4 #[.val (.ref a1), .val (.int x1), .val (.int (0 : Int32))] [(.int (1 : Int32))]))
  refine OGo.go (U' := T1.setTop (mkF m 7 #[.val (.ref a1), .val (.int x1), .val (.int (0 : Int32))] [])) (fun _ k => XS.ifNo X1.here hx rfl (hb hby d_ix2_4) rfl ((if0 _ _).trans (feq (by decide)).1) k) ?_
  refine OGo.go (U' := T1.setTop (mkF m 8 #[.val (.ref a1), .val (.int x1), .val (.int (0 : Int32))] [(.ref a1)])) (fun _ k => XS.aloadN X1.here hx rfl (hb hby d_ix2_7) rfl rfl k) ?_
  obtain ⟨T2, X2, e2, st2⟩ := getF X1 hx hZ hown (host := "") (Or.inl (hw _ (List.mem_of_getElem? (i := 30) rfl))) Via.refl e1 f2 (g := (mkF m 8 #[.val (.ref a1), .val (.int x1), .val (.int (0 : Int32))] [(.ref a1)])) rfl rfl (hb hby d_ix2_8)
  refine OGo.go (U' := T2.setTop (mkF m 11 #[.val (.ref a1), .val (.int x1), .val (.int (0 : Int32))] [(.ref b1)])) st2 ?_
  refine OGo.go (U' := T2.setTop (mkF m 12 #[.val (.ref a1), .val (.int x1), .val (.int (0 : Int32))] [(.int x1), (.ref b1)])) (fun _ k => XS.iloadN X2.here hx rfl (hb hby d_ix2_11) rfl k) ?_
  refine OGo.go (U' := T2.setTop (mkF m 13 #[.val (.ref a1), .val (.int x1), .val (.int (0 : Int32))] [(.int (0 : Int32)), (.int x1), (.ref b1)])) (fun _ k => XS.iloadN X2.here hx rfl (hb hby d_ix2_12) rfl k) ?_
  refine OGo.go (U' := T2.setTop (mkF m 14 #[.val (.ref a1), .val (.int x1), .val (.int (0 : Int32))] [(.ref a1), (.int (0 : Int32)), (.int x1), (.ref b1)])) (fun _ k => XS.aloadN X2.here hx rfl (hb hby d_ix2_13) rfl rfl k) ?_
  refine OGo.callV X2 hx hZ (y := (⟨"java/lang/String", "length", "()I"⟩ : MethodName)) (C := "java/lang/String") hown (hw _ (List.mem_of_getElem? (i := 31) rfl)) (hw _ (List.mem_of_getElem? (i := 32) rfl)) (hw _ (List.mem_of_getElem? (i := 34) rfl)) (hw _ (List.mem_of_getElem? (i := 33) rfl)) (hw _ (List.mem_of_getElem? (i := 6) rfl)) (hw _ (List.mem_of_getElem? (i := 35) rfl)) (by decide) (g := (mkF m 14 #[.val (.ref a1), .val (.int x1), .val (.int (0 : Int32))] [(.ref a1), (.int (0 : Int32)), (.int x1), (.ref b1)])) (a := a1) (argsL := []) (rest := [(.int (0 : Int32)), (.int x1), (.ref b1)]) e2 E1 (rm_len l Z a0 hw a1 b1 k1 cs h0 E1 f1 f2 A1 S0 hcs) rfl (by rw [hml]; rfl) (lenOf pd_5 rfl) rfl (W := 3) (by show 2 * 0 + _ ≤ _; exact Nat.le_of_eq rfl) (hb hby d_ix2_14) (by decide) (by decide) (by decide) (by decide) ?_
  rintro _ T3 _ X3 ⟨rfl, e3, rfl⟩
  rw [List.append_nil] at X3
  show OGo p e below _ (T3.setTop (mkF m 17 #[.val (.ref a1), .val (.int x1), .val (.int (0 : Int32))] [(.int (15 : Int32)), (.int (0 : Int32)), (.int x1), (.ref b1)]))
  refine OGo.callS X3 hx hZ (y := (⟨"java/lang/StringLatin1", "indexOf", "([BIII)I"⟩ : MethodName)) hown (hw _ (List.mem_of_getElem? (i := 41) rfl)) (hw _ (List.mem_of_getElem? (i := 42) rfl)) (hw _ (List.mem_of_getElem? (i := 43) rfl)) (hw _ (List.mem_of_getElem? (i := 44) rfl)) (by decide) (g := (mkF m 17 #[.val (.ref a1), .val (.int x1), .val (.int (0 : Int32))] [(.int (15 : Int32)), (.int (0 : Int32)), (.int x1), (.ref b1)])) (argsL := [(.ref b1), (.int x1), (.int (0 : Int32)), (.int (15 : Int32))]) (rest := []) e3 (rm_ixL l Z a0 hw b1 x1 k1 h0 A1) rfl (by rw [hml]; rfl) (lenOf pd_3 rfl) rfl (W := 0) (by show 2 * 0 + _ ≤ _; exact Nat.le_of_eq rfl) (hb hby d_ix2_17) (by decide) (by decide) (by decide) (by decide) ?_
  rintro _ T4 _ X4 ⟨rfl, e4, rfl⟩
  rw [List.append_nil] at X4
  refine OGo.nm (fun (y5 : Int32) => T4.setTop (mkF m 20 #[.val (.ref a1), .val (.int x1), .val (.int (0 : Int32))] [(.int y5)])) (x := (F_ixL x1)) (fun y5 hy5 => ?_)
  refine OGo.go (U' := T4.setTop (mkF m 36 #[.val (.ref a1), .val (.int x1), .val (.int (0 : Int32))] [(.int y5)])) (fun _ k => XS.goto X4.here hx rfl (pc0 := 20) (pc' := 36) rfl (hb hby d_ix2_20) (by decide) (by decide) k) ?_
  refine OGo.retI X4 hx hret hlk (hb hby d_ix2_36) ?_ (by decide) (by decide)
  refine ⟨?_, e4, rfl⟩
  subst hy5
  rfl
theorem d_ix1_0 : decode jdk_42_method_79_code 0 = .ok (.aload_n 0, 1) := by decide +kernel
theorem d_ix1_1 : decode jdk_42_method_79_code 1 = .ok (.iload_n 1, 1) := by decide +kernel
theorem d_ix1_2 : decode jdk_42_method_79_code 2 = .ok (.iconst 0, 1) := by decide +kernel
theorem d_ix1_3 : decode jdk_42_method_79_code 3 = .ok (.invokevirtual 633, 3) := by decide +kernel
theorem d_ix1_6 : decode jdk_42_method_79_code 6 = .ok (.ireturn, 1) := by decide +kernel
theorem ef_ix1 (m : MethodId) (a1 : Addr) (x1 : Int32) : entryFrame m #[(.ref a1), (.int x1)] 2 = mkF m 0 #[.val (.ref a1), .val (.int x1)] [] := by first | (simp [entryFrame, mkF, argsToLocals, Value.category]; done) | rfl
theorem pn_ix1 : plainFor (⟨"java/lang/String", "indexOf", "(I)I"⟩ : MethodName) = true := by first | exact plainFor_of_name (by first | (simp [plainName, overriddenIn]; done) | decide +kernel) | decide +kernel
set_option maxRecDepth 65536 in
set_option maxHeartbeats 40000000 in
theorem rm_ix1 (l : Launch) (Z : State) (a0 : Array Value) (hw : ∀ d ∈ tables_1, d.before a0 Z = true) (a1 : Addr) (x1 : Int32) (b1 : Addr) (k1 : ClassId) (cs : Int32) (h0 : Heap) (E1 : Exa Z h0 a1 "java/lang/String") (f1 : Fld Z h0 a1 "java/lang/String" "coder" "B" (.int 0)) (f2 : Fld Z h0 a1 "java/lang/String" "value" "[B" (.ref b1)) (A1 : Arv Z h0 b1 k1 .byte 15 [.int 33, .int 35, .int 36, .int 37, .int 38, .int 39, .int 42, .int 43, .int 45, .int 46, .int 94, .int 95, .int 96, .int 124, .int 126] (.int 0)) (S0 : Sta Z h0 "java/lang/String" "COMPACT_STRINGS" "Z" (.int cs)) (hcs : ¬ cs = 0) :
    OMet l Z (⟨"java/lang/String", "indexOf", "(I)I"⟩ : MethodName) jdk_42_method_79_code 2 (some .int) [] ({ frames := 3, cells := 0, slots := 0, locals := 46 } : Room) #[(.ref a1), (.int x1)] h0 (OPure (some (.int (F_ixL x1))) h0) := by
  refine OMet.of pn_ix1 ?_
  intro p e s m below meth c T0 X0 hx hby hml hown0 hnm hret hlk hZ e0
  have hown : s.vm.findClass "java/lang/String" = some m.cls := hown0
  refine OGo.go (fun t k => castTop (ef_ix1 m a1 x1) k) ?_
  refine OGo.go (U' := T0.setTop (mkF m 1 #[.val (.ref a1), .val (.int x1)] [(.ref a1)])) (fun _ k => XS.aloadN X0.here hx rfl (hb hby d_ix1_0) rfl rfl k) ?_
  refine OGo.go (U' := T0.setTop (mkF m 2 #[.val (.ref a1), .val (.int x1)] [(.int x1), (.ref a1)])) (fun _ k => XS.iloadN X0.here hx rfl (hb hby d_ix1_1) rfl k) ?_
  refine OGo.go (U' := T0.setTop (mkF m 3 #[.val (.ref a1), .val (.int x1)] [(.int (0 : Int32)), (.int x1), (.ref a1)])) (fun _ k => XS.iconst X0.here hx rfl (hb hby d_ix1_2) k) ?_
  refine OGo.callV X0 hx hZ (y := (⟨"java/lang/String", "indexOf", "(II)I"⟩ : MethodName)) (C := "java/lang/String") hown (hw _ (List.mem_of_getElem? (i := 18) rfl)) (hw _ (List.mem_of_getElem? (i := 19) rfl)) (hw _ (List.mem_of_getElem? (i := 21) rfl)) (hw _ (List.mem_of_getElem? (i := 20) rfl)) (hw _ (List.mem_of_getElem? (i := 6) rfl)) (hw _ (List.mem_of_getElem? (i := 22) rfl)) (by decide) (g := (mkF m 3 #[.val (.ref a1), .val (.int x1)] [(.int (0 : Int32)), (.int x1), (.ref a1)])) (a := a1) (argsL := [(.int x1), (.int (0 : Int32))]) (rest := []) e0 E1 (rm_ix2 l Z a0 hw a1 x1 b1 k1 cs h0 E1 f1 f2 A1 S0 hcs) rfl (by rw [hml]; rfl) (lenOf pd_2 rfl) rfl (W := 0) (by show 2 * 0 + _ ≤ _; exact Nat.le_of_eq rfl) (hb hby d_ix1_3) (by decide) (by decide) (by decide) (by decide) ?_
  rintro _ T1 _ X1 ⟨rfl, e1, rfl⟩
  rw [List.append_nil] at X1
  refine OGo.nm (fun (y2 : Int32) => T1.setTop (mkF m 6 #[.val (.ref a1), .val (.int x1)] [(.int y2)])) (x := (F_ixL x1)) (fun y2 hy2 => ?_)
  refine OGo.retI X1 hx hret hlk (hb hby d_ix1_6) ?_ (by decide) (by decide)
  refine ⟨?_, e1, rfl⟩
  subst hy2
  rfl
abbrev own_EL : List (String × Nat) := [("com/example/loomwire/loomwire/http/FieldCursor", 13)]
def F_itc (x1 : Int32) : Int32 := (if x1 < (97 : Int32) then (if x1 < (65 : Int32) then (if x1 < (48 : Int32) then (nar .boolean (if (F_ixL x1) < (0 : Int32) then (0 : Int32) else (1 : Int32))) else (if (57 : Int32) < x1 then (nar .boolean (if (F_ixL x1) < (0 : Int32) then (0 : Int32) else (1 : Int32))) else (nar .boolean (1 : Int32)))) else (if (90 : Int32) < x1 then (if x1 < (48 : Int32) then (nar .boolean (if (F_ixL x1) < (0 : Int32) then (0 : Int32) else (1 : Int32))) else (if (57 : Int32) < x1 then (nar .boolean (if (F_ixL x1) < (0 : Int32) then (0 : Int32) else (1 : Int32))) else (nar .boolean (1 : Int32)))) else (nar .boolean (1 : Int32)))) else (if (122 : Int32) < x1 then (if x1 < (65 : Int32) then (if x1 < (48 : Int32) then (nar .boolean (if (F_ixL x1) < (0 : Int32) then (0 : Int32) else (1 : Int32))) else (if (57 : Int32) < x1 then (nar .boolean (if (F_ixL x1) < (0 : Int32) then (0 : Int32) else (1 : Int32))) else (nar .boolean (1 : Int32)))) else (if (90 : Int32) < x1 then (if x1 < (48 : Int32) then (nar .boolean (if (F_ixL x1) < (0 : Int32) then (0 : Int32) else (1 : Int32))) else (if (57 : Int32) < x1 then (nar .boolean (if (F_ixL x1) < (0 : Int32) then (0 : Int32) else (1 : Int32))) else (nar .boolean (1 : Int32)))) else (nar .boolean (1 : Int32)))) else (nar .boolean (1 : Int32))))
theorem d_itc_0 : decode prog_12_method_2_code 0 = .ok (.iload_n 0, 1) := by decide +kernel
theorem d_itc_1 : decode prog_12_method_2_code 1 = .ok (.bipush 97, 2) := by decide +kernel
theorem d_itc_3 : decode prog_12_method_2_code 3 = .ok (.if_icmp .lt 9, 3) := by decide +kernel
theorem d_itc_6 : decode prog_12_method_2_code 6 = .ok (.iload_n 0, 1) := by decide +kernel
theorem d_itc_7 : decode prog_12_method_2_code 7 = .ok (.bipush 122, 2) := by decide +kernel
theorem d_itc_9 : decode prog_12_method_2_code 9 = .ok (.if_icmp .le 36, 3) := by decide +kernel
theorem d_itc_12 : decode prog_12_method_2_code 12 = .ok (.iload_n 0, 1) := by decide +kernel
theorem d_itc_13 : decode prog_12_method_2_code 13 = .ok (.bipush 65, 2) := by decide +kernel
theorem d_itc_15 : decode prog_12_method_2_code 15 = .ok (.if_icmp .lt 9, 3) := by decide +kernel
theorem d_itc_18 : decode prog_12_method_2_code 18 = .ok (.iload_n 0, 1) := by decide +kernel
theorem d_itc_19 : decode prog_12_method_2_code 19 = .ok (.bipush 90, 2) := by decide +kernel
theorem d_itc_21 : decode prog_12_method_2_code 21 = .ok (.if_icmp .le 24, 3) := by decide +kernel
theorem d_itc_24 : decode prog_12_method_2_code 24 = .ok (.iload_n 0, 1) := by decide +kernel
theorem d_itc_25 : decode prog_12_method_2_code 25 = .ok (.bipush 48, 2) := by decide +kernel
theorem d_itc_27 : decode prog_12_method_2_code 27 = .ok (.if_icmp .lt 9, 3) := by decide +kernel
theorem d_itc_30 : decode prog_12_method_2_code 30 = .ok (.iload_n 0, 1) := by decide +kernel
theorem d_itc_31 : decode prog_12_method_2_code 31 = .ok (.bipush 57, 2) := by decide +kernel
theorem d_itc_33 : decode prog_12_method_2_code 33 = .ok (.if_icmp .le 12, 3) := by decide +kernel
theorem d_itc_36 : decode prog_12_method_2_code 36 = .ok (.ldc 13, 2) := by decide +kernel
theorem d_itc_38 : decode prog_12_method_2_code 38 = .ok (.iload_n 0, 1) := by decide +kernel
theorem d_itc_39 : decode prog_12_method_2_code 39 = .ok (.invokevirtual 15, 3) := by decide +kernel
theorem d_itc_42 : decode prog_12_method_2_code 42 = .ok (.ifCond .lt 7, 3) := by decide +kernel
theorem d_itc_45 : decode prog_12_method_2_code 45 = .ok (.iconst 1, 1) := by decide +kernel
theorem d_itc_46 : decode prog_12_method_2_code 46 = .ok (.goto 4, 3) := by decide +kernel
theorem d_itc_49 : decode prog_12_method_2_code 49 = .ok (.iconst 0, 1) := by decide +kernel
theorem d_itc_50 : decode prog_12_method_2_code 50 = .ok (.ireturn, 1) := by decide +kernel
theorem ef_itc (m : MethodId) (x1 : Int32) : entryFrame m #[(.int x1)] 1 = mkF m 0 #[.val (.int x1)] [] := by first | (simp [entryFrame, mkF, argsToLocals, Value.category]; done) | rfl
theorem pn_itc : plainFor (⟨"com/example/loomwire/loomwire/http/FieldCursor", "isTokenCharacter", "(I)Z"⟩ : MethodName) = true := by first | exact plainFor_of_name (by first | (simp [plainName, overriddenIn]; done) | decide +kernel) | decide +kernel
set_option maxRecDepth 65536 in
set_option maxHeartbeats 40000000 in
theorem rm_itc (l : Launch) (Z : State) (a0 : Array Value) (hw : ∀ d ∈ tables_1, d.before a0 Z = true) (x1 : Int32) (cs : Int32) (h0 : Heap) (S0 : Sta Z h0 "java/lang/String" "COMPACT_STRINGS" "Z" (.int cs)) (hcs : ¬ cs = 0) :
    OMetH l Z own_EL (⟨"com/example/loomwire/loomwire/http/FieldCursor", "isTokenCharacter", "(I)Z"⟩ : MethodName) prog_12_method_2_code 1 (some .boolean) [] ({ frames := 4, cells := 2, slots := 64, locals := 59 } : Room) #[(.int x1)] h0 (fun v h L => v = some (.int (F_itc x1)) ∧ Ext h0 h ∧ L = []) := by
  refine OMetH.of pn_itc ?_
  intro p e s m below meth c T0 X0 hx hby hml hown0 hnm hret hlk hZ e0 hs0 Cv0
  have C0 := CHr.refl Cv0
  have hown : s.vm.findClass "com/example/loomwire/loomwire/http/FieldCursor" = some m.cls := hown0
  refine OGo.go (fun t k => castTop (ef_itc m x1) k) ?_
  have wS : ∀ a ∈ Bundle.stringAtoms, a.before a0 Z = true := fun d hd => by
    simp only [Bundle.stringAtoms, List.mem_cons, List.not_mem_nil, or_false] at hd
    rcases hd with rfl | rfl | rfl | rfl | rfl | rfl | rfl
    all_goals first | exact hw _ (List.mem_of_getElem? (i := 6) rfl) | exact hw _ (List.mem_of_getElem? (i := 7) rfl) | exact hw _ (List.mem_of_getElem? (i := 8) rfl) | exact hw _ (List.mem_of_getElem? (i := 9) rfl) | exact hw _ (List.mem_of_getElem? (i := 10) rfl) | exact hw _ (List.mem_of_getElem? (i := 11) rfl) | exact hw _ (List.mem_of_getElem? (i := 12) rfl)
  have hEL : EW Z a0 own_EL := EW.cons (hw _ (List.mem_of_getElem? (i := 5) rfl)) (by decide +kernel) EW.nil
  refine OGo.go (U' := T0.setTop (mkF m 1 #[.val (.int x1)] [(.int x1)])) (fun _ k => XS.iloadN X0.here hx rfl (hb hby d_itc_0) rfl k) ?_
  refine OGo.go (U' := T0.setTop (mkF m 3 #[.val (.int x1)] [(.int (97 : Int32)), (.int x1)])) (fun _ k => XS.bipush X0.here hx rfl (hb hby d_itc_1) k) ?_
  by_cases hc1 : x1 < (97 : Int32)
  · skip
    refine OGo.go (U' := T0.setTop (mkF m 12 #[.val (.int x1)] [])) (fun _ k => XS.icmpYes X0.here hx rfl (pc0 := 3) (pc' := 12) rfl (hb hby d_itc_3) rfl (tlt hc1).1 (by decide) (by decide) k) ?_
    refine OGo.go (U' := T0.setTop (mkF m 13 #[.val (.int x1)] [(.int x1)])) (fun _ k => XS.iloadN X0.here hx rfl (hb hby d_itc_12) rfl k) ?_
    refine OGo.go (U' := T0.setTop (mkF m 15 #[.val (.int x1)] [(.int (65 : Int32)), (.int x1)])) (fun _ k => XS.bipush X0.here hx rfl (hb hby d_itc_13) k) ?_
    by_cases hc2 : x1 < (65 : Int32)
    · skip
      refine OGo.go (U' := T0.setTop (mkF m 24 #[.val (.int x1)] [])) (fun _ k => XS.icmpYes X0.here hx rfl (pc0 := 15) (pc' := 24) rfl (hb hby d_itc_15) rfl (tlt hc2).1 (by decide) (by decide) k) ?_
      refine OGo.go (U' := T0.setTop (mkF m 25 #[.val (.int x1)] [(.int x1)])) (fun _ k => XS.iloadN X0.here hx rfl (hb hby d_itc_24) rfl k) ?_
      refine OGo.go (U' := T0.setTop (mkF m 27 #[.val (.int x1)] [(.int (48 : Int32)), (.int x1)])) (fun _ k => XS.bipush X0.here hx rfl (hb hby d_itc_25) k) ?_
      by_cases hc3 : x1 < (48 : Int32)
      · skip
        refine OGo.go (U' := T0.setTop (mkF m 36 #[.val (.int x1)] [])) (fun _ k => XS.icmpYes X0.here hx rfl (pc0 := 27) (pc' := 36) rfl (hb hby d_itc_27) rfl (tlt hc3).1 (by decide) (by decide) k) ?_
        obtain ⟨a4, T4, h4, k4, d4, kk4, X4, e4, E4, hS4, hk4, hZ4, hown4, Ea4, Fc4, Fv4, Ab4, -, -, Ch4, -, -, st4⟩ := ldcCH (s := s) (vm0 := s.vm) X0 hx hZ hown (hw _ (List.mem_of_getElem? (i := 5) rfl)) wS e0 ((State.WarmedH.refl s).since 0) (Nat.zero_le _) hEL (by simp [own_EL]) C0.1 (vs := [.int 33, .int 35, .int 36, .int 37, .int 38, .int 39, .int 42, .int 43, .int 45, .int 46, .int 94, .int 95, .int 96, .int 124, .int 126]) (z := 15) ⟨by decide +kernel, by decide +kernel⟩ (by decide) (by decide) (g := (mkF m 36 #[.val (.int x1)] [])) rfl (hb hby d_itc_36) (n := 60) (by decide +kernel) (by decide) (by decide) (by decide)
        have f5 := S0.ext E4
        refine OGo.go (U' := T4.setTop (mkF m 38 #[.val (.int x1)] [(.ref a4)])) st4 ?_
        refine OGo.go (U' := T4.setTop (mkF m 39 #[.val (.int x1)] [(.int x1), (.ref a4)])) (fun _ k => XS.iloadN X4.here hx rfl (hb hby d_itc_38) rfl k) ?_
        refine OGo.callV X4 hx hZ4 (y := (⟨"java/lang/String", "indexOf", "(I)I"⟩ : MethodName)) (C := "java/lang/String") hown4 (hw _ (List.mem_of_getElem? (i := 13) rfl)) (hw _ (List.mem_of_getElem? (i := 14) rfl)) (hw _ (List.mem_of_getElem? (i := 16) rfl)) (hw _ (List.mem_of_getElem? (i := 15) rfl)) (hw _ (List.mem_of_getElem? (i := 6) rfl)) (hw _ (List.mem_of_getElem? (i := 17) rfl)) (by decide) (g := (mkF m 39 #[.val (.int x1)] [(.int x1), (.ref a4)])) (a := a4) (argsL := [(.int x1)]) (rest := []) e4 Ea4 (rm_ix1 l Z a0 hw a4 x1 d4 kk4 cs h4 Ea4 Fc4 Fv4 Ab4 f5 hcs) rfl (by rw [hml]; rfl) (lenOf pd_6 rfl) rfl (W := 0) (by show 2 * 0 + _ ≤ _; exact Nat.le_of_eq rfl) (hb hby d_itc_39) (by decide) (by decide) (by decide) (by decide) ?_
        rintro _ T6 _ X6 ⟨rfl, e6, rfl⟩
        rw [List.append_nil] at X6
        refine OGo.nm (fun (y7 : Int32) => T6.setTop (mkF m 42 #[.val (.int x1)] [(.int y7)])) (x := (F_ixL x1)) (fun y7 hy7 => ?_)
        refine OGo.ite1 (P := y7 < (0 : Int32)) (fun (z9 : Int32) => T6.setTop (mkF m 50 #[.val (.int x1)] [(.int z9)])) (x := (0 : Int32)) (y := (1 : Int32)) (fun hc8 k10 => ?_) (fun hc8 k10 => ?_) ?_
        · skip
          refine OGo.go (U' := T6.setTop (mkF m 49 #[.val (.int x1)] [])) (fun _ k => XS.ifYes X6.here hx rfl (pc0 := 42) (pc' := 49) rfl (hb hby d_itc_42) rfl ((if0 _ _).trans (tlt hc8).1) (by decide) (by decide) k) ?_
          refine OGo.go (U' := T6.setTop (mkF m 50 #[.val (.int x1)] [(.int (0 : Int32))])) (fun _ k => XS.iconst X6.here hx rfl (hb hby d_itc_49) k) ?_
          exact k10
        · skip
          refine OGo.go (U' := T6.setTop (mkF m 45 #[.val (.int x1)] [])) (fun _ k => XS.ifNo X6.here hx rfl (hb hby d_itc_42) rfl ((if0 _ _).trans (flt hc8).1) k) ?_
          refine OGo.go (U' := T6.setTop (mkF m 46 #[.val (.int x1)] [(.int (1 : Int32))])) (fun _ k => XS.iconst X6.here hx rfl (hb hby d_itc_45) k) ?_
          refine OGo.go (U' := T6.setTop (mkF m 50 #[.val (.int x1)] [(.int (1 : Int32))])) (fun _ k => XS.goto X6.here hx rfl (pc0 := 46) (pc' := 50) rfl (hb hby d_itc_46) (by decide) (by decide) k) ?_
          exact k10
        intro z9 hz9
        refine OGo.retNH (s := s) (vm₁ := T4.vm) X6 hS4 e6 hk4 hZ4 hEL hs0 (C0.trans Ch4) hx (t := .boolean) hret hlk (by simp) (hb hby d_itc_50) ?_ (by decide) (by decide)
        refine ⟨?_, E4, rfl⟩
        subst hy7
        subst hz9
        rw [F_itc]
        rw [if_pos hc1]
        rw [if_pos hc2]
        rw [if_pos hc3]
      · skip
        refine OGo.go (U' := T0.setTop (mkF m 30 #[.val (.int x1)] [])) (fun _ k => XS.icmpNo X0.here hx rfl (hb hby d_itc_27) rfl (flt hc3).1 k) ?_
        refine OGo.go (U' := T0.setTop (mkF m 31 #[.val (.int x1)] [(.int x1)])) (fun _ k => XS.iloadN X0.here hx rfl (hb hby d_itc_30) rfl k) ?_
        refine OGo.go (U' := T0.setTop (mkF m 33 #[.val (.int x1)] [(.int (57 : Int32)), (.int x1)])) (fun _ k => XS.bipush X0.here hx rfl (hb hby d_itc_31) k) ?_
        by_cases hc11 : (57 : Int32) < x1
        · skip
          refine OGo.go (U' := T0.setTop (mkF m 36 #[.val (.int x1)] [])) (fun _ k => XS.icmpNo X0.here hx rfl (hb hby d_itc_33) rfl (tlt hc11).2.2.2 k) ?_
          obtain ⟨a12, T12, h12, k12, d12, kk12, X12, e12, E12, hS12, hk12, hZ12, hown12, Ea12, Fc12, Fv12, Ab12, -, -, Ch12, -, -, st12⟩ := ldcCH (s := s) (vm0 := s.vm) X0 hx hZ hown (hw _ (List.mem_of_getElem? (i := 5) rfl)) wS e0 ((State.WarmedH.refl s).since 0) (Nat.zero_le _) hEL (by simp [own_EL]) C0.1 (vs := [.int 33, .int 35, .int 36, .int 37, .int 38, .int 39, .int 42, .int 43, .int 45, .int 46, .int 94, .int 95, .int 96, .int 124, .int 126]) (z := 15) ⟨by decide +kernel, by decide +kernel⟩ (by decide) (by decide) (g := (mkF m 36 #[.val (.int x1)] [])) rfl (hb hby d_itc_36) (n := 60) (by decide +kernel) (by decide) (by decide) (by decide)
          have f13 := S0.ext E12
          refine OGo.go (U' := T12.setTop (mkF m 38 #[.val (.int x1)] [(.ref a12)])) st12 ?_
          refine OGo.go (U' := T12.setTop (mkF m 39 #[.val (.int x1)] [(.int x1), (.ref a12)])) (fun _ k => XS.iloadN X12.here hx rfl (hb hby d_itc_38) rfl k) ?_
          refine OGo.callV X12 hx hZ12 (y := (⟨"java/lang/String", "indexOf", "(I)I"⟩ : MethodName)) (C := "java/lang/String") hown12 (hw _ (List.mem_of_getElem? (i := 13) rfl)) (hw _ (List.mem_of_getElem? (i := 14) rfl)) (hw _ (List.mem_of_getElem? (i := 16) rfl)) (hw _ (List.mem_of_getElem? (i := 15) rfl)) (hw _ (List.mem_of_getElem? (i := 6) rfl)) (hw _ (List.mem_of_getElem? (i := 17) rfl)) (by decide) (g := (mkF m 39 #[.val (.int x1)] [(.int x1), (.ref a12)])) (a := a12) (argsL := [(.int x1)]) (rest := []) e12 Ea12 (rm_ix1 l Z a0 hw a12 x1 d12 kk12 cs h12 Ea12 Fc12 Fv12 Ab12 f13 hcs) rfl (by rw [hml]; rfl) (lenOf pd_6 rfl) rfl (W := 0) (by show 2 * 0 + _ ≤ _; exact Nat.le_of_eq rfl) (hb hby d_itc_39) (by decide) (by decide) (by decide) (by decide) ?_
          rintro _ T14 _ X14 ⟨rfl, e14, rfl⟩
          rw [List.append_nil] at X14
          refine OGo.nm (fun (y15 : Int32) => T14.setTop (mkF m 42 #[.val (.int x1)] [(.int y15)])) (x := (F_ixL x1)) (fun y15 hy15 => ?_)
          refine OGo.ite1 (P := y15 < (0 : Int32)) (fun (z17 : Int32) => T14.setTop (mkF m 50 #[.val (.int x1)] [(.int z17)])) (x := (0 : Int32)) (y := (1 : Int32)) (fun hc16 k18 => ?_) (fun hc16 k18 => ?_) ?_
          · skip
            refine OGo.go (U' := T14.setTop (mkF m 49 #[.val (.int x1)] [])) (fun _ k => XS.ifYes X14.here hx rfl (pc0 := 42) (pc' := 49) rfl (hb hby d_itc_42) rfl ((if0 _ _).trans (tlt hc16).1) (by decide) (by decide) k) ?_
            refine OGo.go (U' := T14.setTop (mkF m 50 #[.val (.int x1)] [(.int (0 : Int32))])) (fun _ k => XS.iconst X14.here hx rfl (hb hby d_itc_49) k) ?_
            exact k18
          · skip
            refine OGo.go (U' := T14.setTop (mkF m 45 #[.val (.int x1)] [])) (fun _ k => XS.ifNo X14.here hx rfl (hb hby d_itc_42) rfl ((if0 _ _).trans (flt hc16).1) k) ?_
            refine OGo.go (U' := T14.setTop (mkF m 46 #[.val (.int x1)] [(.int (1 : Int32))])) (fun _ k => XS.iconst X14.here hx rfl (hb hby d_itc_45) k) ?_
            refine OGo.go (U' := T14.setTop (mkF m 50 #[.val (.int x1)] [(.int (1 : Int32))])) (fun _ k => XS.goto X14.here hx rfl (pc0 := 46) (pc' := 50) rfl (hb hby d_itc_46) (by decide) (by decide) k) ?_
            exact k18
          intro z17 hz17
          refine OGo.retNH (s := s) (vm₁ := T12.vm) X14 hS12 e14 hk12 hZ12 hEL hs0 (C0.trans Ch12) hx (t := .boolean) hret hlk (by simp) (hb hby d_itc_50) ?_ (by decide) (by decide)
          refine ⟨?_, E12, rfl⟩
          subst hy15
          subst hz17
          rw [F_itc]
          rw [if_pos hc1]
          rw [if_pos hc2]
          rw [if_neg hc3]
          rw [if_pos hc11]
        · skip
          refine OGo.go (U' := T0.setTop (mkF m 45 #[.val (.int x1)] [])) (fun _ k => XS.icmpYes X0.here hx rfl (pc0 := 33) (pc' := 45) rfl (hb hby d_itc_33) rfl (flt hc11).2.2.2 (by decide) (by decide) k) ?_
          refine OGo.go (U' := T0.setTop (mkF m 46 #[.val (.int x1)] [(.int (1 : Int32))])) (fun _ k => XS.iconst X0.here hx rfl (hb hby d_itc_45) k) ?_
          refine OGo.go (U' := T0.setTop (mkF m 50 #[.val (.int x1)] [(.int (1 : Int32))])) (fun _ k => XS.goto X0.here hx rfl (pc0 := 46) (pc' := 50) rfl (hb hby d_itc_46) (by decide) (by decide) k) ?_
          refine OGo.retNH (s := s) (vm₁ := s.vm) X0 ((State.WarmedH.refl s).since 0) e0 (Nat.zero_le _) hZ hEL hs0 C0 hx (t := .boolean) hret hlk (by simp) (hb hby d_itc_50) ?_ (by decide) (by decide)
          refine ⟨?_, ⟨Nat.le_refl _, fun _ _ q => q⟩, rfl⟩
          rw [F_itc]
          rw [if_pos hc1]
          rw [if_pos hc2]
          rw [if_neg hc3]
          rw [if_neg hc11]
    · skip
      refine OGo.go (U' := T0.setTop (mkF m 18 #[.val (.int x1)] [])) (fun _ k => XS.icmpNo X0.here hx rfl (hb hby d_itc_15) rfl (flt hc2).1 k) ?_
      refine OGo.go (U' := T0.setTop (mkF m 19 #[.val (.int x1)] [(.int x1)])) (fun _ k => XS.iloadN X0.here hx rfl (hb hby d_itc_18) rfl k) ?_
      refine OGo.go (U' := T0.setTop (mkF m 21 #[.val (.int x1)] [(.int (90 : Int32)), (.int x1)])) (fun _ k => XS.bipush X0.here hx rfl (hb hby d_itc_19) k) ?_
      by_cases hc19 : (90 : Int32) < x1
      · skip
        refine OGo.go (U' := T0.setTop (mkF m 24 #[.val (.int x1)] [])) (fun _ k => XS.icmpNo X0.here hx rfl (hb hby d_itc_21) rfl (tlt hc19).2.2.2 k) ?_
        refine OGo.go (U' := T0.setTop (mkF m 25 #[.val (.int x1)] [(.int x1)])) (fun _ k => XS.iloadN X0.here hx rfl (hb hby d_itc_24) rfl k) ?_
        refine OGo.go (U' := T0.setTop (mkF m 27 #[.val (.int x1)] [(.int (48 : Int32)), (.int x1)])) (fun _ k => XS.bipush X0.here hx rfl (hb hby d_itc_25) k) ?_
        by_cases hc20 : x1 < (48 : Int32)
        · skip
          refine OGo.go (U' := T0.setTop (mkF m 36 #[.val (.int x1)] [])) (fun _ k => XS.icmpYes X0.here hx rfl (pc0 := 27) (pc' := 36) rfl (hb hby d_itc_27) rfl (tlt hc20).1 (by decide) (by decide) k) ?_
          obtain ⟨a21, T21, h21, k21, d21, kk21, X21, e21, E21, hS21, hk21, hZ21, hown21, Ea21, Fc21, Fv21, Ab21, -, -, Ch21, -, -, st21⟩ := ldcCH (s := s) (vm0 := s.vm) X0 hx hZ hown (hw _ (List.mem_of_getElem? (i := 5) rfl)) wS e0 ((State.WarmedH.refl s).since 0) (Nat.zero_le _) hEL (by simp [own_EL]) C0.1 (vs := [.int 33, .int 35, .int 36, .int 37, .int 38, .int 39, .int 42, .int 43, .int 45, .int 46, .int 94, .int 95, .int 96, .int 124, .int 126]) (z := 15) ⟨by decide +kernel, by decide +kernel⟩ (by decide) (by decide) (g := (mkF m 36 #[.val (.int x1)] [])) rfl (hb hby d_itc_36) (n := 60) (by decide +kernel) (by decide) (by decide) (by decide)
          have f22 := S0.ext E21
          refine OGo.go (U' := T21.setTop (mkF m 38 #[.val (.int x1)] [(.ref a21)])) st21 ?_
          refine OGo.go (U' := T21.setTop (mkF m 39 #[.val (.int x1)] [(.int x1), (.ref a21)])) (fun _ k => XS.iloadN X21.here hx rfl (hb hby d_itc_38) rfl k) ?_
          refine OGo.callV X21 hx hZ21 (y := (⟨"java/lang/String", "indexOf", "(I)I"⟩ : MethodName)) (C := "java/lang/String") hown21 (hw _ (List.mem_of_getElem? (i := 13) rfl)) (hw _ (List.mem_of_getElem? (i := 14) rfl)) (hw _ (List.mem_of_getElem? (i := 16) rfl)) (hw _ (List.mem_of_getElem? (i := 15) rfl)) (hw _ (List.mem_of_getElem? (i := 6) rfl)) (hw _ (List.mem_of_getElem? (i := 17) rfl)) (by decide) (g := (mkF m 39 #[.val (.int x1)] [(.int x1), (.ref a21)])) (a := a21) (argsL := [(.int x1)]) (rest := []) e21 Ea21 (rm_ix1 l Z a0 hw a21 x1 d21 kk21 cs h21 Ea21 Fc21 Fv21 Ab21 f22 hcs) rfl (by rw [hml]; rfl) (lenOf pd_6 rfl) rfl (W := 0) (by show 2 * 0 + _ ≤ _; exact Nat.le_of_eq rfl) (hb hby d_itc_39) (by decide) (by decide) (by decide) (by decide) ?_
          rintro _ T23 _ X23 ⟨rfl, e23, rfl⟩
          rw [List.append_nil] at X23
          refine OGo.nm (fun (y24 : Int32) => T23.setTop (mkF m 42 #[.val (.int x1)] [(.int y24)])) (x := (F_ixL x1)) (fun y24 hy24 => ?_)
          refine OGo.ite1 (P := y24 < (0 : Int32)) (fun (z26 : Int32) => T23.setTop (mkF m 50 #[.val (.int x1)] [(.int z26)])) (x := (0 : Int32)) (y := (1 : Int32)) (fun hc25 k27 => ?_) (fun hc25 k27 => ?_) ?_
          · skip
            refine OGo.go (U' := T23.setTop (mkF m 49 #[.val (.int x1)] [])) (fun _ k => XS.ifYes X23.here hx rfl (pc0 := 42) (pc' := 49) rfl (hb hby d_itc_42) rfl ((if0 _ _).trans (tlt hc25).1) (by decide) (by decide) k) ?_
            refine OGo.go (U' := T23.setTop (mkF m 50 #[.val (.int x1)] [(.int (0 : Int32))])) (fun _ k => XS.iconst X23.here hx rfl (hb hby d_itc_49) k) ?_
            exact k27
          · skip
            refine OGo.go (U' := T23.setTop (mkF m 45 #[.val (.int x1)] [])) (fun _ k => XS.ifNo X23.here hx rfl (hb hby d_itc_42) rfl ((if0 _ _).trans (flt hc25).1) k) ?_
            refine OGo.go (U' := T23.setTop (mkF m 46 #[.val (.int x1)] [(.int (1 : Int32))])) (fun _ k => XS.iconst X23.here hx rfl (hb hby d_itc_45) k) ?_
            refine OGo.go (U' := T23.setTop (mkF m 50 #[.val (.int x1)] [(.int (1 : Int32))])) (fun _ k => XS.goto X23.here hx rfl (pc0 := 46) (pc' := 50) rfl (hb hby d_itc_46) (by decide) (by decide) k) ?_
            exact k27
          intro z26 hz26
          refine OGo.retNH (s := s) (vm₁ := T21.vm) X23 hS21 e23 hk21 hZ21 hEL hs0 (C0.trans Ch21) hx (t := .boolean) hret hlk (by simp) (hb hby d_itc_50) ?_ (by decide) (by decide)
          refine ⟨?_, E21, rfl⟩
          subst hy24
          subst hz26
          rw [F_itc]
          rw [if_pos hc1]
          rw [if_neg hc2]
          rw [if_pos hc19]
          rw [if_pos hc20]
        · skip
          refine OGo.go (U' := T0.setTop (mkF m 30 #[.val (.int x1)] [])) (fun _ k => XS.icmpNo X0.here hx rfl (hb hby d_itc_27) rfl (flt hc20).1 k) ?_
          refine OGo.go (U' := T0.setTop (mkF m 31 #[.val (.int x1)] [(.int x1)])) (fun _ k => XS.iloadN X0.here hx rfl (hb hby d_itc_30) rfl k) ?_
          refine OGo.go (U' := T0.setTop (mkF m 33 #[.val (.int x1)] [(.int (57 : Int32)), (.int x1)])) (fun _ k => XS.bipush X0.here hx rfl (hb hby d_itc_31) k) ?_
          by_cases hc28 : (57 : Int32) < x1
          · skip
            refine OGo.go (U' := T0.setTop (mkF m 36 #[.val (.int x1)] [])) (fun _ k => XS.icmpNo X0.here hx rfl (hb hby d_itc_33) rfl (tlt hc28).2.2.2 k) ?_
            obtain ⟨a29, T29, h29, k29, d29, kk29, X29, e29, E29, hS29, hk29, hZ29, hown29, Ea29, Fc29, Fv29, Ab29, -, -, Ch29, -, -, st29⟩ := ldcCH (s := s) (vm0 := s.vm) X0 hx hZ hown (hw _ (List.mem_of_getElem? (i := 5) rfl)) wS e0 ((State.WarmedH.refl s).since 0) (Nat.zero_le _) hEL (by simp [own_EL]) C0.1 (vs := [.int 33, .int 35, .int 36, .int 37, .int 38, .int 39, .int 42, .int 43, .int 45, .int 46, .int 94, .int 95, .int 96, .int 124, .int 126]) (z := 15) ⟨by decide +kernel, by decide +kernel⟩ (by decide) (by decide) (g := (mkF m 36 #[.val (.int x1)] [])) rfl (hb hby d_itc_36) (n := 60) (by decide +kernel) (by decide) (by decide) (by decide)
            have f30 := S0.ext E29
            refine OGo.go (U' := T29.setTop (mkF m 38 #[.val (.int x1)] [(.ref a29)])) st29 ?_
            refine OGo.go (U' := T29.setTop (mkF m 39 #[.val (.int x1)] [(.int x1), (.ref a29)])) (fun _ k => XS.iloadN X29.here hx rfl (hb hby d_itc_38) rfl k) ?_
            refine OGo.callV X29 hx hZ29 (y := (⟨"java/lang/String", "indexOf", "(I)I"⟩ : MethodName)) (C := "java/lang/String") hown29 (hw _ (List.mem_of_getElem? (i := 13) rfl)) (hw _ (List.mem_of_getElem? (i := 14) rfl)) (hw _ (List.mem_of_getElem? (i := 16) rfl)) (hw _ (List.mem_of_getElem? (i := 15) rfl)) (hw _ (List.mem_of_getElem? (i := 6) rfl)) (hw _ (List.mem_of_getElem? (i := 17) rfl)) (by decide) (g := (mkF m 39 #[.val (.int x1)] [(.int x1), (.ref a29)])) (a := a29) (argsL := [(.int x1)]) (rest := []) e29 Ea29 (rm_ix1 l Z a0 hw a29 x1 d29 kk29 cs h29 Ea29 Fc29 Fv29 Ab29 f30 hcs) rfl (by rw [hml]; rfl) (lenOf pd_6 rfl) rfl (W := 0) (by show 2 * 0 + _ ≤ _; exact Nat.le_of_eq rfl) (hb hby d_itc_39) (by decide) (by decide) (by decide) (by decide) ?_
            rintro _ T31 _ X31 ⟨rfl, e31, rfl⟩
            rw [List.append_nil] at X31
            refine OGo.nm (fun (y32 : Int32) => T31.setTop (mkF m 42 #[.val (.int x1)] [(.int y32)])) (x := (F_ixL x1)) (fun y32 hy32 => ?_)
            refine OGo.ite1 (P := y32 < (0 : Int32)) (fun (z34 : Int32) => T31.setTop (mkF m 50 #[.val (.int x1)] [(.int z34)])) (x := (0 : Int32)) (y := (1 : Int32)) (fun hc33 k35 => ?_) (fun hc33 k35 => ?_) ?_
            · skip
              refine OGo.go (U' := T31.setTop (mkF m 49 #[.val (.int x1)] [])) (fun _ k => XS.ifYes X31.here hx rfl (pc0 := 42) (pc' := 49) rfl (hb hby d_itc_42) rfl ((if0 _ _).trans (tlt hc33).1) (by decide) (by decide) k) ?_
              refine OGo.go (U' := T31.setTop (mkF m 50 #[.val (.int x1)] [(.int (0 : Int32))])) (fun _ k => XS.iconst X31.here hx rfl (hb hby d_itc_49) k) ?_
              exact k35
            · skip
              refine OGo.go (U' := T31.setTop (mkF m 45 #[.val (.int x1)] [])) (fun _ k => XS.ifNo X31.here hx rfl (hb hby d_itc_42) rfl ((if0 _ _).trans (flt hc33).1) k) ?_
              refine OGo.go (U' := T31.setTop (mkF m 46 #[.val (.int x1)] [(.int (1 : Int32))])) (fun _ k => XS.iconst X31.here hx rfl (hb hby d_itc_45) k) ?_
              refine OGo.go (U' := T31.setTop (mkF m 50 #[.val (.int x1)] [(.int (1 : Int32))])) (fun _ k => XS.goto X31.here hx rfl (pc0 := 46) (pc' := 50) rfl (hb hby d_itc_46) (by decide) (by decide) k) ?_
              exact k35
            intro z34 hz34
            refine OGo.retNH (s := s) (vm₁ := T29.vm) X31 hS29 e31 hk29 hZ29 hEL hs0 (C0.trans Ch29) hx (t := .boolean) hret hlk (by simp) (hb hby d_itc_50) ?_ (by decide) (by decide)
            refine ⟨?_, E29, rfl⟩
            subst hy32
            subst hz34
            rw [F_itc]
            rw [if_pos hc1]
            rw [if_neg hc2]
            rw [if_pos hc19]
            rw [if_neg hc20]
            rw [if_pos hc28]
          · skip
            refine OGo.go (U' := T0.setTop (mkF m 45 #[.val (.int x1)] [])) (fun _ k => XS.icmpYes X0.here hx rfl (pc0 := 33) (pc' := 45) rfl (hb hby d_itc_33) rfl (flt hc28).2.2.2 (by decide) (by decide) k) ?_
            refine OGo.go (U' := T0.setTop (mkF m 46 #[.val (.int x1)] [(.int (1 : Int32))])) (fun _ k => XS.iconst X0.here hx rfl (hb hby d_itc_45) k) ?_
            refine OGo.go (U' := T0.setTop (mkF m 50 #[.val (.int x1)] [(.int (1 : Int32))])) (fun _ k => XS.goto X0.here hx rfl (pc0 := 46) (pc' := 50) rfl (hb hby d_itc_46) (by decide) (by decide) k) ?_
            refine OGo.retNH (s := s) (vm₁ := s.vm) X0 ((State.WarmedH.refl s).since 0) e0 (Nat.zero_le _) hZ hEL hs0 C0 hx (t := .boolean) hret hlk (by simp) (hb hby d_itc_50) ?_ (by decide) (by decide)
            refine ⟨?_, ⟨Nat.le_refl _, fun _ _ q => q⟩, rfl⟩
            rw [F_itc]
            rw [if_pos hc1]
            rw [if_neg hc2]
            rw [if_pos hc19]
            rw [if_neg hc20]
            rw [if_neg hc28]
      · skip
        refine OGo.go (U' := T0.setTop (mkF m 45 #[.val (.int x1)] [])) (fun _ k => XS.icmpYes X0.here hx rfl (pc0 := 21) (pc' := 45) rfl (hb hby d_itc_21) rfl (flt hc19).2.2.2 (by decide) (by decide) k) ?_
        refine OGo.go (U' := T0.setTop (mkF m 46 #[.val (.int x1)] [(.int (1 : Int32))])) (fun _ k => XS.iconst X0.here hx rfl (hb hby d_itc_45) k) ?_
        refine OGo.go (U' := T0.setTop (mkF m 50 #[.val (.int x1)] [(.int (1 : Int32))])) (fun _ k => XS.goto X0.here hx rfl (pc0 := 46) (pc' := 50) rfl (hb hby d_itc_46) (by decide) (by decide) k) ?_
        refine OGo.retNH (s := s) (vm₁ := s.vm) X0 ((State.WarmedH.refl s).since 0) e0 (Nat.zero_le _) hZ hEL hs0 C0 hx (t := .boolean) hret hlk (by simp) (hb hby d_itc_50) ?_ (by decide) (by decide)
        refine ⟨?_, ⟨Nat.le_refl _, fun _ _ q => q⟩, rfl⟩
        rw [F_itc]
        rw [if_pos hc1]
        rw [if_neg hc2]
        rw [if_neg hc19]
  · skip
    refine OGo.go (U' := T0.setTop (mkF m 6 #[.val (.int x1)] [])) (fun _ k => XS.icmpNo X0.here hx rfl (hb hby d_itc_3) rfl (flt hc1).1 k) ?_
    refine OGo.go (U' := T0.setTop (mkF m 7 #[.val (.int x1)] [(.int x1)])) (fun _ k => XS.iloadN X0.here hx rfl (hb hby d_itc_6) rfl k) ?_
    refine OGo.go (U' := T0.setTop (mkF m 9 #[.val (.int x1)] [(.int (122 : Int32)), (.int x1)])) (fun _ k => XS.bipush X0.here hx rfl (hb hby d_itc_7) k) ?_
    by_cases hc36 : (122 : Int32) < x1
    · skip
      refine OGo.go (U' := T0.setTop (mkF m 12 #[.val (.int x1)] [])) (fun _ k => XS.icmpNo X0.here hx rfl (hb hby d_itc_9) rfl (tlt hc36).2.2.2 k) ?_
      refine OGo.go (U' := T0.setTop (mkF m 13 #[.val (.int x1)] [(.int x1)])) (fun _ k => XS.iloadN X0.here hx rfl (hb hby d_itc_12) rfl k) ?_
      refine OGo.go (U' := T0.setTop (mkF m 15 #[.val (.int x1)] [(.int (65 : Int32)), (.int x1)])) (fun _ k => XS.bipush X0.here hx rfl (hb hby d_itc_13) k) ?_
      by_cases hc37 : x1 < (65 : Int32)
      · skip
        refine OGo.go (U' := T0.setTop (mkF m 24 #[.val (.int x1)] [])) (fun _ k => XS.icmpYes X0.here hx rfl (pc0 := 15) (pc' := 24) rfl (hb hby d_itc_15) rfl (tlt hc37).1 (by decide) (by decide) k) ?_
        refine OGo.go (U' := T0.setTop (mkF m 25 #[.val (.int x1)] [(.int x1)])) (fun _ k => XS.iloadN X0.here hx rfl (hb hby d_itc_24) rfl k) ?_
        refine OGo.go (U' := T0.setTop (mkF m 27 #[.val (.int x1)] [(.int (48 : Int32)), (.int x1)])) (fun _ k => XS.bipush X0.here hx rfl (hb hby d_itc_25) k) ?_
        by_cases hc38 : x1 < (48 : Int32)
        · skip
          refine OGo.go (U' := T0.setTop (mkF m 36 #[.val (.int x1)] [])) (fun _ k => XS.icmpYes X0.here hx rfl (pc0 := 27) (pc' := 36) rfl (hb hby d_itc_27) rfl (tlt hc38).1 (by decide) (by decide) k) ?_
          obtain ⟨a39, T39, h39, k39, d39, kk39, X39, e39, E39, hS39, hk39, hZ39, hown39, Ea39, Fc39, Fv39, Ab39, -, -, Ch39, -, -, st39⟩ := ldcCH (s := s) (vm0 := s.vm) X0 hx hZ hown (hw _ (List.mem_of_getElem? (i := 5) rfl)) wS e0 ((State.WarmedH.refl s).since 0) (Nat.zero_le _) hEL (by simp [own_EL]) C0.1 (vs := [.int 33, .int 35, .int 36, .int 37, .int 38, .int 39, .int 42, .int 43, .int 45, .int 46, .int 94, .int 95, .int 96, .int 124, .int 126]) (z := 15) ⟨by decide +kernel, by decide +kernel⟩ (by decide) (by decide) (g := (mkF m 36 #[.val (.int x1)] [])) rfl (hb hby d_itc_36) (n := 60) (by decide +kernel) (by decide) (by decide) (by decide)
          have f40 := S0.ext E39
          refine OGo.go (U' := T39.setTop (mkF m 38 #[.val (.int x1)] [(.ref a39)])) st39 ?_
          refine OGo.go (U' := T39.setTop (mkF m 39 #[.val (.int x1)] [(.int x1), (.ref a39)])) (fun _ k => XS.iloadN X39.here hx rfl (hb hby d_itc_38) rfl k) ?_
          refine OGo.callV X39 hx hZ39 (y := (⟨"java/lang/String", "indexOf", "(I)I"⟩ : MethodName)) (C := "java/lang/String") hown39 (hw _ (List.mem_of_getElem? (i := 13) rfl)) (hw _ (List.mem_of_getElem? (i := 14) rfl)) (hw _ (List.mem_of_getElem? (i := 16) rfl)) (hw _ (List.mem_of_getElem? (i := 15) rfl)) (hw _ (List.mem_of_getElem? (i := 6) rfl)) (hw _ (List.mem_of_getElem? (i := 17) rfl)) (by decide) (g := (mkF m 39 #[.val (.int x1)] [(.int x1), (.ref a39)])) (a := a39) (argsL := [(.int x1)]) (rest := []) e39 Ea39 (rm_ix1 l Z a0 hw a39 x1 d39 kk39 cs h39 Ea39 Fc39 Fv39 Ab39 f40 hcs) rfl (by rw [hml]; rfl) (lenOf pd_6 rfl) rfl (W := 0) (by show 2 * 0 + _ ≤ _; exact Nat.le_of_eq rfl) (hb hby d_itc_39) (by decide) (by decide) (by decide) (by decide) ?_
          rintro _ T41 _ X41 ⟨rfl, e41, rfl⟩
          rw [List.append_nil] at X41
          refine OGo.nm (fun (y42 : Int32) => T41.setTop (mkF m 42 #[.val (.int x1)] [(.int y42)])) (x := (F_ixL x1)) (fun y42 hy42 => ?_)
          refine OGo.ite1 (P := y42 < (0 : Int32)) (fun (z44 : Int32) => T41.setTop (mkF m 50 #[.val (.int x1)] [(.int z44)])) (x := (0 : Int32)) (y := (1 : Int32)) (fun hc43 k45 => ?_) (fun hc43 k45 => ?_) ?_
          · skip
            refine OGo.go (U' := T41.setTop (mkF m 49 #[.val (.int x1)] [])) (fun _ k => XS.ifYes X41.here hx rfl (pc0 := 42) (pc' := 49) rfl (hb hby d_itc_42) rfl ((if0 _ _).trans (tlt hc43).1) (by decide) (by decide) k) ?_
            refine OGo.go (U' := T41.setTop (mkF m 50 #[.val (.int x1)] [(.int (0 : Int32))])) (fun _ k => XS.iconst X41.here hx rfl (hb hby d_itc_49) k) ?_
            exact k45
          · skip
            refine OGo.go (U' := T41.setTop (mkF m 45 #[.val (.int x1)] [])) (fun _ k => XS.ifNo X41.here hx rfl (hb hby d_itc_42) rfl ((if0 _ _).trans (flt hc43).1) k) ?_
            refine OGo.go (U' := T41.setTop (mkF m 46 #[.val (.int x1)] [(.int (1 : Int32))])) (fun _ k => XS.iconst X41.here hx rfl (hb hby d_itc_45) k) ?_
            refine OGo.go (U' := T41.setTop (mkF m 50 #[.val (.int x1)] [(.int (1 : Int32))])) (fun _ k => XS.goto X41.here hx rfl (pc0 := 46) (pc' := 50) rfl (hb hby d_itc_46) (by decide) (by decide) k) ?_
            exact k45
          intro z44 hz44
          refine OGo.retNH (s := s) (vm₁ := T39.vm) X41 hS39 e41 hk39 hZ39 hEL hs0 (C0.trans Ch39) hx (t := .boolean) hret hlk (by simp) (hb hby d_itc_50) ?_ (by decide) (by decide)
          refine ⟨?_, E39, rfl⟩
          subst hy42
          subst hz44
          rw [F_itc]
          rw [if_neg hc1]
          rw [if_pos hc36]
          rw [if_pos hc37]
          rw [if_pos hc38]
        · skip
          refine OGo.go (U' := T0.setTop (mkF m 30 #[.val (.int x1)] [])) (fun _ k => XS.icmpNo X0.here hx rfl (hb hby d_itc_27) rfl (flt hc38).1 k) ?_
          refine OGo.go (U' := T0.setTop (mkF m 31 #[.val (.int x1)] [(.int x1)])) (fun _ k => XS.iloadN X0.here hx rfl (hb hby d_itc_30) rfl k) ?_
          refine OGo.go (U' := T0.setTop (mkF m 33 #[.val (.int x1)] [(.int (57 : Int32)), (.int x1)])) (fun _ k => XS.bipush X0.here hx rfl (hb hby d_itc_31) k) ?_
          by_cases hc46 : (57 : Int32) < x1
          · skip
            refine OGo.go (U' := T0.setTop (mkF m 36 #[.val (.int x1)] [])) (fun _ k => XS.icmpNo X0.here hx rfl (hb hby d_itc_33) rfl (tlt hc46).2.2.2 k) ?_
            obtain ⟨a47, T47, h47, k47, d47, kk47, X47, e47, E47, hS47, hk47, hZ47, hown47, Ea47, Fc47, Fv47, Ab47, -, -, Ch47, -, -, st47⟩ := ldcCH (s := s) (vm0 := s.vm) X0 hx hZ hown (hw _ (List.mem_of_getElem? (i := 5) rfl)) wS e0 ((State.WarmedH.refl s).since 0) (Nat.zero_le _) hEL (by simp [own_EL]) C0.1 (vs := [.int 33, .int 35, .int 36, .int 37, .int 38, .int 39, .int 42, .int 43, .int 45, .int 46, .int 94, .int 95, .int 96, .int 124, .int 126]) (z := 15) ⟨by decide +kernel, by decide +kernel⟩ (by decide) (by decide) (g := (mkF m 36 #[.val (.int x1)] [])) rfl (hb hby d_itc_36) (n := 60) (by decide +kernel) (by decide) (by decide) (by decide)
            have f48 := S0.ext E47
            refine OGo.go (U' := T47.setTop (mkF m 38 #[.val (.int x1)] [(.ref a47)])) st47 ?_
            refine OGo.go (U' := T47.setTop (mkF m 39 #[.val (.int x1)] [(.int x1), (.ref a47)])) (fun _ k => XS.iloadN X47.here hx rfl (hb hby d_itc_38) rfl k) ?_
            refine OGo.callV X47 hx hZ47 (y := (⟨"java/lang/String", "indexOf", "(I)I"⟩ : MethodName)) (C := "java/lang/String") hown47 (hw _ (List.mem_of_getElem? (i := 13) rfl)) (hw _ (List.mem_of_getElem? (i := 14) rfl)) (hw _ (List.mem_of_getElem? (i := 16) rfl)) (hw _ (List.mem_of_getElem? (i := 15) rfl)) (hw _ (List.mem_of_getElem? (i := 6) rfl)) (hw _ (List.mem_of_getElem? (i := 17) rfl)) (by decide) (g := (mkF m 39 #[.val (.int x1)] [(.int x1), (.ref a47)])) (a := a47) (argsL := [(.int x1)]) (rest := []) e47 Ea47 (rm_ix1 l Z a0 hw a47 x1 d47 kk47 cs h47 Ea47 Fc47 Fv47 Ab47 f48 hcs) rfl (by rw [hml]; rfl) (lenOf pd_6 rfl) rfl (W := 0) (by show 2 * 0 + _ ≤ _; exact Nat.le_of_eq rfl) (hb hby d_itc_39) (by decide) (by decide) (by decide) (by decide) ?_
            rintro _ T49 _ X49 ⟨rfl, e49, rfl⟩
            rw [List.append_nil] at X49
            refine OGo.nm (fun (y50 : Int32) => T49.setTop (mkF m 42 #[.val (.int x1)] [(.int y50)])) (x := (F_ixL x1)) (fun y50 hy50 => ?_)
            refine OGo.ite1 (P := y50 < (0 : Int32)) (fun (z52 : Int32) => T49.setTop (mkF m 50 #[.val (.int x1)] [(.int z52)])) (x := (0 : Int32)) (y := (1 : Int32)) (fun hc51 k53 => ?_) (fun hc51 k53 => ?_) ?_
            · skip
              refine OGo.go (U' := T49.setTop (mkF m 49 #[.val (.int x1)] [])) (fun _ k => XS.ifYes X49.here hx rfl (pc0 := 42) (pc' := 49) rfl (hb hby d_itc_42) rfl ((if0 _ _).trans (tlt hc51).1) (by decide) (by decide) k) ?_
              refine OGo.go (U' := T49.setTop (mkF m 50 #[.val (.int x1)] [(.int (0 : Int32))])) (fun _ k => XS.iconst X49.here hx rfl (hb hby d_itc_49) k) ?_
              exact k53
            · skip
              refine OGo.go (U' := T49.setTop (mkF m 45 #[.val (.int x1)] [])) (fun _ k => XS.ifNo X49.here hx rfl (hb hby d_itc_42) rfl ((if0 _ _).trans (flt hc51).1) k) ?_
              refine OGo.go (U' := T49.setTop (mkF m 46 #[.val (.int x1)] [(.int (1 : Int32))])) (fun _ k => XS.iconst X49.here hx rfl (hb hby d_itc_45) k) ?_
              refine OGo.go (U' := T49.setTop (mkF m 50 #[.val (.int x1)] [(.int (1 : Int32))])) (fun _ k => XS.goto X49.here hx rfl (pc0 := 46) (pc' := 50) rfl (hb hby d_itc_46) (by decide) (by decide) k) ?_
              exact k53
            intro z52 hz52
            refine OGo.retNH (s := s) (vm₁ := T47.vm) X49 hS47 e49 hk47 hZ47 hEL hs0 (C0.trans Ch47) hx (t := .boolean) hret hlk (by simp) (hb hby d_itc_50) ?_ (by decide) (by decide)
            refine ⟨?_, E47, rfl⟩
            subst hy50
            subst hz52
            rw [F_itc]
            rw [if_neg hc1]
            rw [if_pos hc36]
            rw [if_pos hc37]
            rw [if_neg hc38]
            rw [if_pos hc46]
          · skip
            refine OGo.go (U' := T0.setTop (mkF m 45 #[.val (.int x1)] [])) (fun _ k => XS.icmpYes X0.here hx rfl (pc0 := 33) (pc' := 45) rfl (hb hby d_itc_33) rfl (flt hc46).2.2.2 (by decide) (by decide) k) ?_
            refine OGo.go (U' := T0.setTop (mkF m 46 #[.val (.int x1)] [(.int (1 : Int32))])) (fun _ k => XS.iconst X0.here hx rfl (hb hby d_itc_45) k) ?_
            refine OGo.go (U' := T0.setTop (mkF m 50 #[.val (.int x1)] [(.int (1 : Int32))])) (fun _ k => XS.goto X0.here hx rfl (pc0 := 46) (pc' := 50) rfl (hb hby d_itc_46) (by decide) (by decide) k) ?_
            refine OGo.retNH (s := s) (vm₁ := s.vm) X0 ((State.WarmedH.refl s).since 0) e0 (Nat.zero_le _) hZ hEL hs0 C0 hx (t := .boolean) hret hlk (by simp) (hb hby d_itc_50) ?_ (by decide) (by decide)
            refine ⟨?_, ⟨Nat.le_refl _, fun _ _ q => q⟩, rfl⟩
            rw [F_itc]
            rw [if_neg hc1]
            rw [if_pos hc36]
            rw [if_pos hc37]
            rw [if_neg hc38]
            rw [if_neg hc46]
      · skip
        refine OGo.go (U' := T0.setTop (mkF m 18 #[.val (.int x1)] [])) (fun _ k => XS.icmpNo X0.here hx rfl (hb hby d_itc_15) rfl (flt hc37).1 k) ?_
        refine OGo.go (U' := T0.setTop (mkF m 19 #[.val (.int x1)] [(.int x1)])) (fun _ k => XS.iloadN X0.here hx rfl (hb hby d_itc_18) rfl k) ?_
        refine OGo.go (U' := T0.setTop (mkF m 21 #[.val (.int x1)] [(.int (90 : Int32)), (.int x1)])) (fun _ k => XS.bipush X0.here hx rfl (hb hby d_itc_19) k) ?_
        by_cases hc54 : (90 : Int32) < x1
        · skip
          refine OGo.go (U' := T0.setTop (mkF m 24 #[.val (.int x1)] [])) (fun _ k => XS.icmpNo X0.here hx rfl (hb hby d_itc_21) rfl (tlt hc54).2.2.2 k) ?_
          refine OGo.go (U' := T0.setTop (mkF m 25 #[.val (.int x1)] [(.int x1)])) (fun _ k => XS.iloadN X0.here hx rfl (hb hby d_itc_24) rfl k) ?_
          refine OGo.go (U' := T0.setTop (mkF m 27 #[.val (.int x1)] [(.int (48 : Int32)), (.int x1)])) (fun _ k => XS.bipush X0.here hx rfl (hb hby d_itc_25) k) ?_
          by_cases hc55 : x1 < (48 : Int32)
          · skip
            refine OGo.go (U' := T0.setTop (mkF m 36 #[.val (.int x1)] [])) (fun _ k => XS.icmpYes X0.here hx rfl (pc0 := 27) (pc' := 36) rfl (hb hby d_itc_27) rfl (tlt hc55).1 (by decide) (by decide) k) ?_
            obtain ⟨a56, T56, h56, k56, d56, kk56, X56, e56, E56, hS56, hk56, hZ56, hown56, Ea56, Fc56, Fv56, Ab56, -, -, Ch56, -, -, st56⟩ := ldcCH (s := s) (vm0 := s.vm) X0 hx hZ hown (hw _ (List.mem_of_getElem? (i := 5) rfl)) wS e0 ((State.WarmedH.refl s).since 0) (Nat.zero_le _) hEL (by simp [own_EL]) C0.1 (vs := [.int 33, .int 35, .int 36, .int 37, .int 38, .int 39, .int 42, .int 43, .int 45, .int 46, .int 94, .int 95, .int 96, .int 124, .int 126]) (z := 15) ⟨by decide +kernel, by decide +kernel⟩ (by decide) (by decide) (g := (mkF m 36 #[.val (.int x1)] [])) rfl (hb hby d_itc_36) (n := 60) (by decide +kernel) (by decide) (by decide) (by decide)
            have f57 := S0.ext E56
            refine OGo.go (U' := T56.setTop (mkF m 38 #[.val (.int x1)] [(.ref a56)])) st56 ?_
            refine OGo.go (U' := T56.setTop (mkF m 39 #[.val (.int x1)] [(.int x1), (.ref a56)])) (fun _ k => XS.iloadN X56.here hx rfl (hb hby d_itc_38) rfl k) ?_
            refine OGo.callV X56 hx hZ56 (y := (⟨"java/lang/String", "indexOf", "(I)I"⟩ : MethodName)) (C := "java/lang/String") hown56 (hw _ (List.mem_of_getElem? (i := 13) rfl)) (hw _ (List.mem_of_getElem? (i := 14) rfl)) (hw _ (List.mem_of_getElem? (i := 16) rfl)) (hw _ (List.mem_of_getElem? (i := 15) rfl)) (hw _ (List.mem_of_getElem? (i := 6) rfl)) (hw _ (List.mem_of_getElem? (i := 17) rfl)) (by decide) (g := (mkF m 39 #[.val (.int x1)] [(.int x1), (.ref a56)])) (a := a56) (argsL := [(.int x1)]) (rest := []) e56 Ea56 (rm_ix1 l Z a0 hw a56 x1 d56 kk56 cs h56 Ea56 Fc56 Fv56 Ab56 f57 hcs) rfl (by rw [hml]; rfl) (lenOf pd_6 rfl) rfl (W := 0) (by show 2 * 0 + _ ≤ _; exact Nat.le_of_eq rfl) (hb hby d_itc_39) (by decide) (by decide) (by decide) (by decide) ?_
            rintro _ T58 _ X58 ⟨rfl, e58, rfl⟩
            rw [List.append_nil] at X58
            refine OGo.nm (fun (y59 : Int32) => T58.setTop (mkF m 42 #[.val (.int x1)] [(.int y59)])) (x := (F_ixL x1)) (fun y59 hy59 => ?_)
            refine OGo.ite1 (P := y59 < (0 : Int32)) (fun (z61 : Int32) => T58.setTop (mkF m 50 #[.val (.int x1)] [(.int z61)])) (x := (0 : Int32)) (y := (1 : Int32)) (fun hc60 k62 => ?_) (fun hc60 k62 => ?_) ?_
            · skip
              refine OGo.go (U' := T58.setTop (mkF m 49 #[.val (.int x1)] [])) (fun _ k => XS.ifYes X58.here hx rfl (pc0 := 42) (pc' := 49) rfl (hb hby d_itc_42) rfl ((if0 _ _).trans (tlt hc60).1) (by decide) (by decide) k) ?_
              refine OGo.go (U' := T58.setTop (mkF m 50 #[.val (.int x1)] [(.int (0 : Int32))])) (fun _ k => XS.iconst X58.here hx rfl (hb hby d_itc_49) k) ?_
              exact k62
            · skip
              refine OGo.go (U' := T58.setTop (mkF m 45 #[.val (.int x1)] [])) (fun _ k => XS.ifNo X58.here hx rfl (hb hby d_itc_42) rfl ((if0 _ _).trans (flt hc60).1) k) ?_
              refine OGo.go (U' := T58.setTop (mkF m 46 #[.val (.int x1)] [(.int (1 : Int32))])) (fun _ k => XS.iconst X58.here hx rfl (hb hby d_itc_45) k) ?_
              refine OGo.go (U' := T58.setTop (mkF m 50 #[.val (.int x1)] [(.int (1 : Int32))])) (fun _ k => XS.goto X58.here hx rfl (pc0 := 46) (pc' := 50) rfl (hb hby d_itc_46) (by decide) (by decide) k) ?_
              exact k62
            intro z61 hz61
            refine OGo.retNH (s := s) (vm₁ := T56.vm) X58 hS56 e58 hk56 hZ56 hEL hs0 (C0.trans Ch56) hx (t := .boolean) hret hlk (by simp) (hb hby d_itc_50) ?_ (by decide) (by decide)
            refine ⟨?_, E56, rfl⟩
            subst hy59
            subst hz61
            rw [F_itc]
            rw [if_neg hc1]
            rw [if_pos hc36]
            rw [if_neg hc37]
            rw [if_pos hc54]
            rw [if_pos hc55]
          · skip
            refine OGo.go (U' := T0.setTop (mkF m 30 #[.val (.int x1)] [])) (fun _ k => XS.icmpNo X0.here hx rfl (hb hby d_itc_27) rfl (flt hc55).1 k) ?_
            refine OGo.go (U' := T0.setTop (mkF m 31 #[.val (.int x1)] [(.int x1)])) (fun _ k => XS.iloadN X0.here hx rfl (hb hby d_itc_30) rfl k) ?_
            refine OGo.go (U' := T0.setTop (mkF m 33 #[.val (.int x1)] [(.int (57 : Int32)), (.int x1)])) (fun _ k => XS.bipush X0.here hx rfl (hb hby d_itc_31) k) ?_
            by_cases hc63 : (57 : Int32) < x1
            · skip
              refine OGo.go (U' := T0.setTop (mkF m 36 #[.val (.int x1)] [])) (fun _ k => XS.icmpNo X0.here hx rfl (hb hby d_itc_33) rfl (tlt hc63).2.2.2 k) ?_
              obtain ⟨a64, T64, h64, k64, d64, kk64, X64, e64, E64, hS64, hk64, hZ64, hown64, Ea64, Fc64, Fv64, Ab64, -, -, Ch64, -, -, st64⟩ := ldcCH (s := s) (vm0 := s.vm) X0 hx hZ hown (hw _ (List.mem_of_getElem? (i := 5) rfl)) wS e0 ((State.WarmedH.refl s).since 0) (Nat.zero_le _) hEL (by simp [own_EL]) C0.1 (vs := [.int 33, .int 35, .int 36, .int 37, .int 38, .int 39, .int 42, .int 43, .int 45, .int 46, .int 94, .int 95, .int 96, .int 124, .int 126]) (z := 15) ⟨by decide +kernel, by decide +kernel⟩ (by decide) (by decide) (g := (mkF m 36 #[.val (.int x1)] [])) rfl (hb hby d_itc_36) (n := 60) (by decide +kernel) (by decide) (by decide) (by decide)
              have f65 := S0.ext E64
              refine OGo.go (U' := T64.setTop (mkF m 38 #[.val (.int x1)] [(.ref a64)])) st64 ?_
              refine OGo.go (U' := T64.setTop (mkF m 39 #[.val (.int x1)] [(.int x1), (.ref a64)])) (fun _ k => XS.iloadN X64.here hx rfl (hb hby d_itc_38) rfl k) ?_
              refine OGo.callV X64 hx hZ64 (y := (⟨"java/lang/String", "indexOf", "(I)I"⟩ : MethodName)) (C := "java/lang/String") hown64 (hw _ (List.mem_of_getElem? (i := 13) rfl)) (hw _ (List.mem_of_getElem? (i := 14) rfl)) (hw _ (List.mem_of_getElem? (i := 16) rfl)) (hw _ (List.mem_of_getElem? (i := 15) rfl)) (hw _ (List.mem_of_getElem? (i := 6) rfl)) (hw _ (List.mem_of_getElem? (i := 17) rfl)) (by decide) (g := (mkF m 39 #[.val (.int x1)] [(.int x1), (.ref a64)])) (a := a64) (argsL := [(.int x1)]) (rest := []) e64 Ea64 (rm_ix1 l Z a0 hw a64 x1 d64 kk64 cs h64 Ea64 Fc64 Fv64 Ab64 f65 hcs) rfl (by rw [hml]; rfl) (lenOf pd_6 rfl) rfl (W := 0) (by show 2 * 0 + _ ≤ _; exact Nat.le_of_eq rfl) (hb hby d_itc_39) (by decide) (by decide) (by decide) (by decide) ?_
              rintro _ T66 _ X66 ⟨rfl, e66, rfl⟩
              rw [List.append_nil] at X66
              refine OGo.nm (fun (y67 : Int32) => T66.setTop (mkF m 42 #[.val (.int x1)] [(.int y67)])) (x := (F_ixL x1)) (fun y67 hy67 => ?_)
              refine OGo.ite1 (P := y67 < (0 : Int32)) (fun (z69 : Int32) => T66.setTop (mkF m 50 #[.val (.int x1)] [(.int z69)])) (x := (0 : Int32)) (y := (1 : Int32)) (fun hc68 k70 => ?_) (fun hc68 k70 => ?_) ?_
              · skip
                refine OGo.go (U' := T66.setTop (mkF m 49 #[.val (.int x1)] [])) (fun _ k => XS.ifYes X66.here hx rfl (pc0 := 42) (pc' := 49) rfl (hb hby d_itc_42) rfl ((if0 _ _).trans (tlt hc68).1) (by decide) (by decide) k) ?_
                refine OGo.go (U' := T66.setTop (mkF m 50 #[.val (.int x1)] [(.int (0 : Int32))])) (fun _ k => XS.iconst X66.here hx rfl (hb hby d_itc_49) k) ?_
                exact k70
              · skip
                refine OGo.go (U' := T66.setTop (mkF m 45 #[.val (.int x1)] [])) (fun _ k => XS.ifNo X66.here hx rfl (hb hby d_itc_42) rfl ((if0 _ _).trans (flt hc68).1) k) ?_
                refine OGo.go (U' := T66.setTop (mkF m 46 #[.val (.int x1)] [(.int (1 : Int32))])) (fun _ k => XS.iconst X66.here hx rfl (hb hby d_itc_45) k) ?_
                refine OGo.go (U' := T66.setTop (mkF m 50 #[.val (.int x1)] [(.int (1 : Int32))])) (fun _ k => XS.goto X66.here hx rfl (pc0 := 46) (pc' := 50) rfl (hb hby d_itc_46) (by decide) (by decide) k) ?_
                exact k70
              intro z69 hz69
              refine OGo.retNH (s := s) (vm₁ := T64.vm) X66 hS64 e66 hk64 hZ64 hEL hs0 (C0.trans Ch64) hx (t := .boolean) hret hlk (by simp) (hb hby d_itc_50) ?_ (by decide) (by decide)
              refine ⟨?_, E64, rfl⟩
              subst hy67
              subst hz69
              rw [F_itc]
              rw [if_neg hc1]
              rw [if_pos hc36]
              rw [if_neg hc37]
              rw [if_pos hc54]
              rw [if_neg hc55]
              rw [if_pos hc63]
            · skip
              refine OGo.go (U' := T0.setTop (mkF m 45 #[.val (.int x1)] [])) (fun _ k => XS.icmpYes X0.here hx rfl (pc0 := 33) (pc' := 45) rfl (hb hby d_itc_33) rfl (flt hc63).2.2.2 (by decide) (by decide) k) ?_
              refine OGo.go (U' := T0.setTop (mkF m 46 #[.val (.int x1)] [(.int (1 : Int32))])) (fun _ k => XS.iconst X0.here hx rfl (hb hby d_itc_45) k) ?_
              refine OGo.go (U' := T0.setTop (mkF m 50 #[.val (.int x1)] [(.int (1 : Int32))])) (fun _ k => XS.goto X0.here hx rfl (pc0 := 46) (pc' := 50) rfl (hb hby d_itc_46) (by decide) (by decide) k) ?_
              refine OGo.retNH (s := s) (vm₁ := s.vm) X0 ((State.WarmedH.refl s).since 0) e0 (Nat.zero_le _) hZ hEL hs0 C0 hx (t := .boolean) hret hlk (by simp) (hb hby d_itc_50) ?_ (by decide) (by decide)
              refine ⟨?_, ⟨Nat.le_refl _, fun _ _ q => q⟩, rfl⟩
              rw [F_itc]
              rw [if_neg hc1]
              rw [if_pos hc36]
              rw [if_neg hc37]
              rw [if_pos hc54]
              rw [if_neg hc55]
              rw [if_neg hc63]
        · skip
          refine OGo.go (U' := T0.setTop (mkF m 45 #[.val (.int x1)] [])) (fun _ k => XS.icmpYes X0.here hx rfl (pc0 := 21) (pc' := 45) rfl (hb hby d_itc_21) rfl (flt hc54).2.2.2 (by decide) (by decide) k) ?_
          refine OGo.go (U' := T0.setTop (mkF m 46 #[.val (.int x1)] [(.int (1 : Int32))])) (fun _ k => XS.iconst X0.here hx rfl (hb hby d_itc_45) k) ?_
          refine OGo.go (U' := T0.setTop (mkF m 50 #[.val (.int x1)] [(.int (1 : Int32))])) (fun _ k => XS.goto X0.here hx rfl (pc0 := 46) (pc' := 50) rfl (hb hby d_itc_46) (by decide) (by decide) k) ?_
          refine OGo.retNH (s := s) (vm₁ := s.vm) X0 ((State.WarmedH.refl s).since 0) e0 (Nat.zero_le _) hZ hEL hs0 C0 hx (t := .boolean) hret hlk (by simp) (hb hby d_itc_50) ?_ (by decide) (by decide)
          refine ⟨?_, ⟨Nat.le_refl _, fun _ _ q => q⟩, rfl⟩
          rw [F_itc]
          rw [if_neg hc1]
          rw [if_pos hc36]
          rw [if_neg hc37]
          rw [if_neg hc54]
    · skip
      refine OGo.go (U' := T0.setTop (mkF m 45 #[.val (.int x1)] [])) (fun _ k => XS.icmpYes X0.here hx rfl (pc0 := 9) (pc' := 45) rfl (hb hby d_itc_9) rfl (flt hc36).2.2.2 (by decide) (by decide) k) ?_
      refine OGo.go (U' := T0.setTop (mkF m 46 #[.val (.int x1)] [(.int (1 : Int32))])) (fun _ k => XS.iconst X0.here hx rfl (hb hby d_itc_45) k) ?_
      refine OGo.go (U' := T0.setTop (mkF m 50 #[.val (.int x1)] [(.int (1 : Int32))])) (fun _ k => XS.goto X0.here hx rfl (pc0 := 46) (pc' := 50) rfl (hb hby d_itc_46) (by decide) (by decide) k) ?_
      refine OGo.retNH (s := s) (vm₁ := s.vm) X0 ((State.WarmedH.refl s).since 0) e0 (Nat.zero_le _) hZ hEL hs0 C0 hx (t := .boolean) hret hlk (by simp) (hb hby d_itc_50) ?_ (by decide) (by decide)
      refine ⟨?_, ⟨Nat.le_refl _, fun _ _ q => q⟩, rfl⟩
      rw [F_itc]
      rw [if_neg hc1]
      rw [if_neg hc36]
theorem own_lt {x k : Int32} (K : Int) (hk : k.toInt = K) (h : x.toInt < K) : x < k := by rw [Int32.lt_iff_toInt_lt, hk]; exact h
theorem own_nlt {x k : Int32} (K : Int) (hk : k.toInt = K) (h : K ≤ x.toInt) : ¬ x < k := by rw [Int32.lt_iff_toInt_lt, hk]; omega
theorem own_gt {x k : Int32} (K : Int) (hk : k.toInt = K) (h : K < x.toInt) : k < x := by rw [Int32.lt_iff_toInt_lt, hk]; exact h
theorem own_lo : ∀ n : Fin 256, F_itc (Int32.ofNat n) = F_ref (Int32.ofNat n) := by decide +kernel
theorem own_core (x : Int32) : F_itc x = F_ref x := by
  by_cases h0 : x.toInt < 0
  · have b1 := own_lt (x := x) (k := 97) 97 (by decide) (by omega)
    have b2 := own_lt (x := x) (k := 65) 65 (by decide) (by omega)
    have b3 := own_lt (x := x) (k := 48) 48 (by decide) (by omega)
    have b4 := own_lt (x := x) (k := 33) 33 (by decide) (by omega)
    have b5 := own_lt (x := x) (k := 0) 0 (by decide) (by omega)
    have hc : F_can x = 0 := by simp only [F_can, b5, if_true, nar_b0]
    have hi : F_ixL x = -1 := by simp only [F_ixL, hc, if_true]
    simp only [F_itc, F_ref, b1, b2, b3, b4, hi, if_true, nar_b0, show ((-1 : Int32) < 0) from by decide]
  · by_cases hx : x.toInt < 256
    · have hn : x = Int32.ofNat (⟨x.toInt.toNat, by omega⟩ : Fin 256).val := by
        apply Int32.toInt_inj.mp
        rw [Int32.toInt_ofNat_of_lt (by simp only; omega)]
        simp only; omega
      rw [hn]; exact own_lo _
    · have b1 := own_nlt (x := x) (k := 97) 97 (by decide) (by omega)
      have c1 := own_gt (x := x) (k := 122) 122 (by decide) (by omega)
      have b2 := own_nlt (x := x) (k := 65) 65 (by decide) (by omega)
      have c2 := own_gt (x := x) (k := 90) 90 (by decide) (by omega)
      have b3 := own_nlt (x := x) (k := 48) 48 (by decide) (by omega)
      have c3 := own_gt (x := x) (k := 57) 57 (by decide) (by omega)
      have b4 := own_nlt (x := x) (k := 33) 33 (by decide) (by omega)
      have c4 := own_gt (x := x) (k := 126) 126 (by decide) (by omega)
      have b5 := own_nlt (x := x) (k := 0) 0 (by decide) (by omega)
      have c5 := own_gt (x := x) (k := 255) 255 (by decide) (by omega)
      have hc : F_can x = 0 := by simp only [F_can, b5, c5, if_true, if_false, nar_b0]
      have hi : F_ixL x = -1 := by simp only [F_ixL, hc, if_true]
      simp only [F_itc, F_ref, b1, b2, b3, b4, c1, c2, c3, c4, hi, if_true, if_false, nar_b0, show ((-1 : Int32) < 0) from by decide]

theorem own_ret_0 {x0 : Int32} {x1 : Int32} {y2 : Int32} {y5 : Int32} {z7 : Int32} {y10 : Int32} {y13 : Int32} {z15 : Int32} {y18 : Int32} {y21 : Int32} {z23 : Int32} {z26 : Int32} (hy2 : y2 = (F_itc x0)) (hy5 : y5 = (F_ref x0)) (hz7 : z7 = (if y2 = y5 then (1 : Int32) else (0 : Int32))) (hy10 : y10 = (F_itc (x0 &&& (131071 : Int32)))) (hy13 : y13 = (F_ref (x0 &&& (131071 : Int32)))) (hz15 : z15 = (if y10 = y13 then (1 : Int32) else (0 : Int32))) (hy18 : y18 = (F_itc (x1 &&& (255 : Int32)))) (hy21 : y21 = (F_ref (x1 &&& (255 : Int32)))) (hz23 : z23 = (if y18 = y21 then (1 : Int32) else (0 : Int32))) (hz26 : z26 = (if z7 = (0 : Int32) then (0 : Int32) else (if z15 = (0 : Int32) then (0 : Int32) else (if z23 = (0 : Int32) then (0 : Int32) else (1 : Int32))))) : some (Value.int (nar .boolean z26)) = some (Value.int 1) := by
  have q1 : y2 = y5 := by rw [hy2, hy5]; exact own_core _
  have q2 : y10 = y13 := by rw [hy10, hy13]; exact own_core _
  have q3 : y18 = y21 := by rw [hy18, hy21]; exact own_core _
  rw [if_pos q1] at hz7
  rw [if_pos q2] at hz15
  rw [if_pos q3] at hz23
  subst hz7 hz15 hz23 hz26
  rfl
theorem ef_law (m : MethodId) (x0 : Int32) (x1 : Int32) : entryFrame m #[(.int x0), (.int x1)] maxLocals = mkF m 0 #[.val (.int x0), .val (.int x1), .unset, .unset, .unset, .unset, .unset, .unset] [] := by first | (simp [entryFrame, mkF, argsToLocals, Value.category, maxLocals]; done) | rfl
theorem pn_law : plainFor x = true := by first | exact plainFor_of_name (by first | (simp [plainName, overriddenIn]; done) | decide +kernel) | decide +kernel
set_option maxRecDepth 65536 in
set_option maxHeartbeats 40000000 in
theorem rm_law (l : Launch) (Z : State) (a0 : Array Value) (hw : ∀ d ∈ tables_1, d.before a0 Z = true) (x0 : Int32) (x1 : Int32) (cs : Int32) (n0 : Nat) (h0 : Heap) (S0 : Sta Z h0 "java/lang/String" "COMPACT_STRINGS" "Z" (.int cs)) (hcs : ¬ cs = 0) :
    OMetH l Z own_EL x code maxLocals ret tables_1 room_1 #[(.int x0), (.int x1)] h0 (fun v h L => v = some (.int 1) ∧ Fr n0 L) := by
  refine OMetH.of pn_law ?_
  intro p e s m below meth c T0 X0 hx hby hml hown0 hnm hret hlk hZ e0 hs0 Cv0
  have C0 := CHr.refl Cv0
  have hown : s.vm.findClass "com/example/loomwire/loomwire/http/FieldCursorIsTokenCharacterPinLaw" = some m.cls := hown0
  refine OGo.go (fun t k => castTop (ef_law m x0 x1) k) ?_
  have wS : ∀ a ∈ Bundle.stringAtoms, a.before a0 Z = true := fun d hd => by
    simp only [Bundle.stringAtoms, List.mem_cons, List.not_mem_nil, or_false] at hd
    rcases hd with rfl | rfl | rfl | rfl | rfl | rfl | rfl
    all_goals first | exact hw _ (List.mem_of_getElem? (i := 6) rfl) | exact hw _ (List.mem_of_getElem? (i := 7) rfl) | exact hw _ (List.mem_of_getElem? (i := 8) rfl) | exact hw _ (List.mem_of_getElem? (i := 9) rfl) | exact hw _ (List.mem_of_getElem? (i := 10) rfl) | exact hw _ (List.mem_of_getElem? (i := 11) rfl) | exact hw _ (List.mem_of_getElem? (i := 12) rfl)
  have hEL : EW Z a0 own_EL := EW.cons (hw _ (List.mem_of_getElem? (i := 5) rfl)) (by decide +kernel) EW.nil
  refine OGo.go (U' := T0.setTop (mkF m 1 #[.val (.int x0), .val (.int x1), .unset, .unset, .unset, .unset, .unset, .unset] [(.int x0)])) (fun _ k => XS.iloadN X0.here hx rfl (hb hby at_0) rfl k) ?_
  refine OGo.go (U' := T0.setTop (mkF m 2 #[.val (.int x0), .val (.int x1), .val (.int x0), .unset, .unset, .unset, .unset, .unset] [])) (fun _ k => XS.istoreN X0.here hx rfl (hb hby at_1) rfl (l' := #[.val (.int x0), .val (.int x1), .val (.int x0), .unset, .unset, .unset, .unset, .unset]) rfl k) ?_
  refine OGo.go (U' := T0.setTop (mkF m 3 #[.val (.int x0), .val (.int x1), .val (.int x0), .unset, .unset, .unset, .unset, .unset] [(.int x0)])) (fun _ k => XS.iloadN X0.here hx rfl (hb hby at_2) rfl k) ?_
  refine OGo.go (U' := T0.setTop (mkF m 5 #[.val (.int x0), .val (.int x1), .val (.int x0), .unset, .unset, .unset, .unset, .unset] [(.int (131071 : Int32)), (.int x0)])) (fun _ k => X0.ldcInt hx hown (mvT hZ (hw _ (List.mem_of_getElem? (i := 0) rfl))) (g := (mkF m 3 #[.val (.int x0), .val (.int x1), .val (.int x0), .unset, .unset, .unset, .unset, .unset] [(.int x0)])) rfl (hb hby at_3) _ k) ?_
  refine OGo.go (U' := T0.setTop (mkF m 6 #[.val (.int x0), .val (.int x1), .val (.int x0), .unset, .unset, .unset, .unset, .unset] [(.int (x0 &&& (131071 : Int32)))])) (fun _ k => XS.iand X0.here hx rfl (hb hby at_5) rfl k) ?_
  refine OGo.go (U' := T0.setTop (mkF m 7 #[.val (.int x0), .val (.int x1), .val (.int x0), .val (.int (x0 &&& (131071 : Int32))), .unset, .unset, .unset, .unset] [])) (fun _ k => XS.istoreN X0.here hx rfl (hb hby at_6) rfl (l' := #[.val (.int x0), .val (.int x1), .val (.int x0), .val (.int (x0 &&& (131071 : Int32))), .unset, .unset, .unset, .unset]) rfl k) ?_
  refine OGo.go (U' := T0.setTop (mkF m 8 #[.val (.int x0), .val (.int x1), .val (.int x0), .val (.int (x0 &&& (131071 : Int32))), .unset, .unset, .unset, .unset] [(.int x1)])) (fun _ k => XS.iloadN X0.here hx rfl (hb hby at_7) rfl k) ?_
  refine OGo.go (U' := T0.setTop (mkF m 11 #[.val (.int x0), .val (.int x1), .val (.int x0), .val (.int (x0 &&& (131071 : Int32))), .unset, .unset, .unset, .unset] [(.int (255 : Int32)), (.int x1)])) (fun _ k => XS.sipush X0.here hx rfl (hb hby at_8) k) ?_
  refine OGo.go (U' := T0.setTop (mkF m 12 #[.val (.int x0), .val (.int x1), .val (.int x0), .val (.int (x0 &&& (131071 : Int32))), .unset, .unset, .unset, .unset] [(.int (x1 &&& (255 : Int32)))])) (fun _ k => XS.iand X0.here hx rfl (hb hby at_11) rfl k) ?_
  refine OGo.go (U' := T0.setTop (mkF m 14 #[.val (.int x0), .val (.int x1), .val (.int x0), .val (.int (x0 &&& (131071 : Int32))), .val (.int (x1 &&& (255 : Int32))), .unset, .unset, .unset] [])) (fun _ k => XS.istore X0.here hx rfl (hb hby at_12) rfl (l' := #[.val (.int x0), .val (.int x1), .val (.int x0), .val (.int (x0 &&& (131071 : Int32))), .val (.int (x1 &&& (255 : Int32))), .unset, .unset, .unset]) rfl k) ?_
  refine OGo.go (U' := T0.setTop (mkF m 15 #[.val (.int x0), .val (.int x1), .val (.int x0), .val (.int (x0 &&& (131071 : Int32))), .val (.int (x1 &&& (255 : Int32))), .unset, .unset, .unset] [(.int x0)])) (fun _ k => XS.iloadN X0.here hx rfl (hb hby at_14) rfl k) ?_
  refine OGo.callSH (s := s) (vm0 := s.vm) X0 hx hZ ((State.WarmedH.refl s).since 0) (Nat.zero_le _) hEL C0.1 (y := (⟨"com/example/loomwire/loomwire/http/FieldCursor", "isTokenCharacter", "(I)Z"⟩ : MethodName)) hown (hw _ (List.mem_of_getElem? (i := 1) rfl)) (hw _ (List.mem_of_getElem? (i := 2) rfl)) (hw _ (List.mem_of_getElem? (i := 3) rfl)) (hw _ (List.mem_of_getElem? (i := 4) rfl)) (by decide) (g := (mkF m 15 #[.val (.int x0), .val (.int x1), .val (.int x0), .val (.int (x0 &&& (131071 : Int32))), .val (.int (x1 &&& (255 : Int32))), .unset, .unset, .unset] [(.int x0)])) (argsL := [(.int x0)]) (rest := []) e0 (rm_itc l Z a0 hw x0 cs h0 S0 hcs) rfl (by rw [hml]; rfl) (lenOf pd_1 rfl) rfl (W := 0) (by show 2 * 0 + _ ≤ _; exact Nat.le_of_eq rfl) (hb hby at_15) (by decide) (by decide) (by decide) (by decide) ?_
  rintro _ T1 _ X1 ⟨rfl, E1, rfl⟩
  rw [List.append_nil] at X1
  intro hS1 hZ1 hown1 Ch1
  have f3 := S0.ext E1
  refine OGo.nm (fun (y2 : Int32) => T1.setTop (mkF m 18 #[.val (.int x0), .val (.int x1), .val (.int x0), .val (.int (x0 &&& (131071 : Int32))), .val (.int (x1 &&& (255 : Int32))), .unset, .unset, .unset] [(.int y2)])) (x := (F_itc x0)) (fun y2 hy2 => ?_)
  refine OGo.go (U' := T1.setTop (mkF m 19 #[.val (.int x0), .val (.int x1), .val (.int x0), .val (.int (x0 &&& (131071 : Int32))), .val (.int (x1 &&& (255 : Int32))), .unset, .unset, .unset] [(.int x0), (.int y2)])) (fun _ k => XS.iloadN X1.here hx rfl (hb hby at_18) rfl k) ?_
  refine OGo.callS X1 hx hZ1 (y := (⟨"com/example/loomwire/loomwire/http/FieldCursorIsTokenCharacterPinLaw", "reference", "(I)Z"⟩ : MethodName)) hown1 (hw _ (List.mem_of_getElem? (i := 58) rfl)) (hw _ (List.mem_of_getElem? (i := 59) rfl)) (hw _ (List.mem_of_getElem? (i := 60) rfl)) (hw _ (List.mem_of_getElem? (i := 61) rfl)) (by decide) (g := (mkF m 19 #[.val (.int x0), .val (.int x1), .val (.int x0), .val (.int (x0 &&& (131071 : Int32))), .val (.int (x1 &&& (255 : Int32))), .unset, .unset, .unset] [(.int x0), (.int y2)])) (argsL := [(.int x0)]) (rest := [(.int y2)]) (rfl : T1.heap = T1.heap) (rm_ref l Z a0 hw x0 T1.heap) rfl (by rw [hml]; rfl) (lenOf pd_1 rfl) rfl (W := 1) (by show 2 * 0 + _ ≤ _; exact Nat.le_of_eq rfl) (hb hby at_19) (by decide) (by decide) (by decide) (by decide) ?_
  rintro _ T4 _ X4 ⟨rfl, e4, rfl⟩
  rw [List.append_nil] at X4
  refine OGo.nm (fun (y5 : Int32) => T4.setTop (mkF m 22 #[.val (.int x0), .val (.int x1), .val (.int x0), .val (.int (x0 &&& (131071 : Int32))), .val (.int (x1 &&& (255 : Int32))), .unset, .unset, .unset] [(.int y5), (.int y2)])) (x := (F_ref x0)) (fun y5 hy5 => ?_)
  refine OGo.ite1 (P := y2 = y5) (fun (z7 : Int32) => T4.setTop (mkF m 30 #[.val (.int x0), .val (.int x1), .val (.int x0), .val (.int (x0 &&& (131071 : Int32))), .val (.int (x1 &&& (255 : Int32))), .unset, .unset, .unset] [(.int z7)])) (x := (1 : Int32)) (y := (0 : Int32)) (fun hc6 k8 => ?_) (fun hc6 k8 => ?_) ?_
  · skip
    refine OGo.go (U' := T4.setTop (mkF m 25 #[.val (.int x0), .val (.int x1), .val (.int x0), .val (.int (x0 &&& (131071 : Int32))), .val (.int (x1 &&& (255 : Int32))), .unset, .unset, .unset] [])) (fun _ k => XS.icmpNo X4.here hx rfl (hb hby at_22) rfl (teq hc6).2 k) ?_
    refine OGo.go (U' := T4.setTop (mkF m 26 #[.val (.int x0), .val (.int x1), .val (.int x0), .val (.int (x0 &&& (131071 : Int32))), .val (.int (x1 &&& (255 : Int32))), .unset, .unset, .unset] [(.int (1 : Int32))])) (fun _ k => XS.iconst X4.here hx rfl (hb hby at_25) k) ?_
    refine OGo.go (U' := T4.setTop (mkF m 30 #[.val (.int x0), .val (.int x1), .val (.int x0), .val (.int (x0 &&& (131071 : Int32))), .val (.int (x1 &&& (255 : Int32))), .unset, .unset, .unset] [(.int (1 : Int32))])) (fun _ k => XS.goto X4.here hx rfl (pc0 := 26) (pc' := 30) rfl (hb hby at_26) (by decide) (by decide) k) ?_
    exact k8
  · skip
    refine OGo.go (U' := T4.setTop (mkF m 29 #[.val (.int x0), .val (.int x1), .val (.int x0), .val (.int (x0 &&& (131071 : Int32))), .val (.int (x1 &&& (255 : Int32))), .unset, .unset, .unset] [])) (fun _ k => XS.icmpYes X4.here hx rfl (pc0 := 22) (pc' := 29) rfl (hb hby at_22) rfl (feq hc6).2 (by decide) (by decide) k) ?_
    refine OGo.go (U' := T4.setTop (mkF m 30 #[.val (.int x0), .val (.int x1), .val (.int x0), .val (.int (x0 &&& (131071 : Int32))), .val (.int (x1 &&& (255 : Int32))), .unset, .unset, .unset] [(.int (0 : Int32))])) (fun _ k => XS.iconst X4.here hx rfl (hb hby at_29) k) ?_
    exact k8
  intro z7 hz7
  refine OGo.go (U' := T4.setTop (mkF m 32 #[.val (.int x0), .val (.int x1), .val (.int x0), .val (.int (x0 &&& (131071 : Int32))), .val (.int (x1 &&& (255 : Int32))), .val (.int z7), .unset, .unset] [])) (fun _ k => XS.istore X4.here hx rfl (hb hby at_30) rfl (l' := #[.val (.int x0), .val (.int x1), .val (.int x0), .val (.int (x0 &&& (131071 : Int32))), .val (.int (x1 &&& (255 : Int32))), .val (.int z7), .unset, .unset]) rfl k) ?_
  refine OGo.go (U' := T4.setTop (mkF m 33 #[.val (.int x0), .val (.int x1), .val (.int x0), .val (.int (x0 &&& (131071 : Int32))), .val (.int (x1 &&& (255 : Int32))), .val (.int z7), .unset, .unset] [(.int (x0 &&& (131071 : Int32)))])) (fun _ k => XS.iloadN X4.here hx rfl (hb hby at_32) rfl k) ?_
  refine OGo.callSH (s := s) (vm0 := T1.vm) X4 hx hZ1 hS1 (Nat.le_refl _) hEL (C0.trans Ch1).1 (y := (⟨"com/example/loomwire/loomwire/http/FieldCursor", "isTokenCharacter", "(I)Z"⟩ : MethodName)) hown1 (hw _ (List.mem_of_getElem? (i := 1) rfl)) (hw _ (List.mem_of_getElem? (i := 2) rfl)) (hw _ (List.mem_of_getElem? (i := 3) rfl)) (hw _ (List.mem_of_getElem? (i := 4) rfl)) (by decide) (g := (mkF m 33 #[.val (.int x0), .val (.int x1), .val (.int x0), .val (.int (x0 &&& (131071 : Int32))), .val (.int (x1 &&& (255 : Int32))), .val (.int z7), .unset, .unset] [(.int (x0 &&& (131071 : Int32)))])) (argsL := [(.int (x0 &&& (131071 : Int32)))]) (rest := []) e4 (rm_itc l Z a0 hw (x0 &&& (131071 : Int32)) cs T1.heap f3 hcs) rfl (by rw [hml]; rfl) (lenOf pd_1 rfl) rfl (W := 0) (by show 2 * 0 + _ ≤ _; exact Nat.le_of_eq rfl) (hb hby at_33) (by decide) (by decide) (by decide) (by decide) ?_
  rintro _ T9 _ X9 ⟨rfl, E9, rfl⟩
  rw [List.append_nil] at X9
  intro hS9 hZ9 hown9 Ch9
  have f11 := f3.ext E9
  refine OGo.nm (fun (y10 : Int32) => T9.setTop (mkF m 36 #[.val (.int x0), .val (.int x1), .val (.int x0), .val (.int (x0 &&& (131071 : Int32))), .val (.int (x1 &&& (255 : Int32))), .val (.int z7), .unset, .unset] [(.int y10)])) (x := (F_itc (x0 &&& (131071 : Int32)))) (fun y10 hy10 => ?_)
  refine OGo.go (U' := T9.setTop (mkF m 37 #[.val (.int x0), .val (.int x1), .val (.int x0), .val (.int (x0 &&& (131071 : Int32))), .val (.int (x1 &&& (255 : Int32))), .val (.int z7), .unset, .unset] [(.int (x0 &&& (131071 : Int32))), (.int y10)])) (fun _ k => XS.iloadN X9.here hx rfl (hb hby at_36) rfl k) ?_
  refine OGo.callS X9 hx hZ9 (y := (⟨"com/example/loomwire/loomwire/http/FieldCursorIsTokenCharacterPinLaw", "reference", "(I)Z"⟩ : MethodName)) hown9 (hw _ (List.mem_of_getElem? (i := 58) rfl)) (hw _ (List.mem_of_getElem? (i := 59) rfl)) (hw _ (List.mem_of_getElem? (i := 60) rfl)) (hw _ (List.mem_of_getElem? (i := 61) rfl)) (by decide) (g := (mkF m 37 #[.val (.int x0), .val (.int x1), .val (.int x0), .val (.int (x0 &&& (131071 : Int32))), .val (.int (x1 &&& (255 : Int32))), .val (.int z7), .unset, .unset] [(.int (x0 &&& (131071 : Int32))), (.int y10)])) (argsL := [(.int (x0 &&& (131071 : Int32)))]) (rest := [(.int y10)]) (rfl : T9.heap = T9.heap) (rm_ref l Z a0 hw (x0 &&& (131071 : Int32)) T9.heap) rfl (by rw [hml]; rfl) (lenOf pd_1 rfl) rfl (W := 1) (by show 2 * 0 + _ ≤ _; exact Nat.le_of_eq rfl) (hb hby at_37) (by decide) (by decide) (by decide) (by decide) ?_
  rintro _ T12 _ X12 ⟨rfl, e12, rfl⟩
  rw [List.append_nil] at X12
  refine OGo.nm (fun (y13 : Int32) => T12.setTop (mkF m 40 #[.val (.int x0), .val (.int x1), .val (.int x0), .val (.int (x0 &&& (131071 : Int32))), .val (.int (x1 &&& (255 : Int32))), .val (.int z7), .unset, .unset] [(.int y13), (.int y10)])) (x := (F_ref (x0 &&& (131071 : Int32)))) (fun y13 hy13 => ?_)
  refine OGo.ite1 (P := y10 = y13) (fun (z15 : Int32) => T12.setTop (mkF m 48 #[.val (.int x0), .val (.int x1), .val (.int x0), .val (.int (x0 &&& (131071 : Int32))), .val (.int (x1 &&& (255 : Int32))), .val (.int z7), .unset, .unset] [(.int z15)])) (x := (1 : Int32)) (y := (0 : Int32)) (fun hc14 k16 => ?_) (fun hc14 k16 => ?_) ?_
  · skip
    refine OGo.go (U' := T12.setTop (mkF m 43 #[.val (.int x0), .val (.int x1), .val (.int x0), .val (.int (x0 &&& (131071 : Int32))), .val (.int (x1 &&& (255 : Int32))), .val (.int z7), .unset, .unset] [])) (fun _ k => XS.icmpNo X12.here hx rfl (hb hby at_40) rfl (teq hc14).2 k) ?_
    refine OGo.go (U' := T12.setTop (mkF m 44 #[.val (.int x0), .val (.int x1), .val (.int x0), .val (.int (x0 &&& (131071 : Int32))), .val (.int (x1 &&& (255 : Int32))), .val (.int z7), .unset, .unset] [(.int (1 : Int32))])) (fun _ k => XS.iconst X12.here hx rfl (hb hby at_43) k) ?_
    refine OGo.go (U' := T12.setTop (mkF m 48 #[.val (.int x0), .val (.int x1), .val (.int x0), .val (.int (x0 &&& (131071 : Int32))), .val (.int (x1 &&& (255 : Int32))), .val (.int z7), .unset, .unset] [(.int (1 : Int32))])) (fun _ k => XS.goto X12.here hx rfl (pc0 := 44) (pc' := 48) rfl (hb hby at_44) (by decide) (by decide) k) ?_
    exact k16
  · skip
    refine OGo.go (U' := T12.setTop (mkF m 47 #[.val (.int x0), .val (.int x1), .val (.int x0), .val (.int (x0 &&& (131071 : Int32))), .val (.int (x1 &&& (255 : Int32))), .val (.int z7), .unset, .unset] [])) (fun _ k => XS.icmpYes X12.here hx rfl (pc0 := 40) (pc' := 47) rfl (hb hby at_40) rfl (feq hc14).2 (by decide) (by decide) k) ?_
    refine OGo.go (U' := T12.setTop (mkF m 48 #[.val (.int x0), .val (.int x1), .val (.int x0), .val (.int (x0 &&& (131071 : Int32))), .val (.int (x1 &&& (255 : Int32))), .val (.int z7), .unset, .unset] [(.int (0 : Int32))])) (fun _ k => XS.iconst X12.here hx rfl (hb hby at_47) k) ?_
    exact k16
  intro z15 hz15
  refine OGo.go (U' := T12.setTop (mkF m 50 #[.val (.int x0), .val (.int x1), .val (.int x0), .val (.int (x0 &&& (131071 : Int32))), .val (.int (x1 &&& (255 : Int32))), .val (.int z7), .val (.int z15), .unset] [])) (fun _ k => XS.istore X12.here hx rfl (hb hby at_48) rfl (l' := #[.val (.int x0), .val (.int x1), .val (.int x0), .val (.int (x0 &&& (131071 : Int32))), .val (.int (x1 &&& (255 : Int32))), .val (.int z7), .val (.int z15), .unset]) rfl k) ?_
  refine OGo.go (U' := T12.setTop (mkF m 52 #[.val (.int x0), .val (.int x1), .val (.int x0), .val (.int (x0 &&& (131071 : Int32))), .val (.int (x1 &&& (255 : Int32))), .val (.int z7), .val (.int z15), .unset] [(.int (x1 &&& (255 : Int32)))])) (fun _ k => XS.iload X12.here hx rfl (hb hby at_50) rfl k) ?_
  refine OGo.callSH (s := s) (vm0 := T9.vm) X12 hx hZ9 hS9 (Nat.le_refl _) hEL ((C0.trans Ch1).trans Ch9).1 (y := (⟨"com/example/loomwire/loomwire/http/FieldCursor", "isTokenCharacter", "(I)Z"⟩ : MethodName)) hown9 (hw _ (List.mem_of_getElem? (i := 1) rfl)) (hw _ (List.mem_of_getElem? (i := 2) rfl)) (hw _ (List.mem_of_getElem? (i := 3) rfl)) (hw _ (List.mem_of_getElem? (i := 4) rfl)) (by decide) (g := (mkF m 52 #[.val (.int x0), .val (.int x1), .val (.int x0), .val (.int (x0 &&& (131071 : Int32))), .val (.int (x1 &&& (255 : Int32))), .val (.int z7), .val (.int z15), .unset] [(.int (x1 &&& (255 : Int32)))])) (argsL := [(.int (x1 &&& (255 : Int32)))]) (rest := []) e12 (rm_itc l Z a0 hw (x1 &&& (255 : Int32)) cs T9.heap f11 hcs) rfl (by rw [hml]; rfl) (lenOf pd_1 rfl) rfl (W := 0) (by show 2 * 0 + _ ≤ _; exact Nat.le_of_eq rfl) (hb hby at_52) (by decide) (by decide) (by decide) (by decide) ?_
  rintro _ T17 _ X17 ⟨rfl, E17, rfl⟩
  rw [List.append_nil] at X17
  intro hS17 hZ17 hown17 Ch17
  have f19 := f11.ext E17
  refine OGo.nm (fun (y18 : Int32) => T17.setTop (mkF m 55 #[.val (.int x0), .val (.int x1), .val (.int x0), .val (.int (x0 &&& (131071 : Int32))), .val (.int (x1 &&& (255 : Int32))), .val (.int z7), .val (.int z15), .unset] [(.int y18)])) (x := (F_itc (x1 &&& (255 : Int32)))) (fun y18 hy18 => ?_)
  refine OGo.go (U' := T17.setTop (mkF m 57 #[.val (.int x0), .val (.int x1), .val (.int x0), .val (.int (x0 &&& (131071 : Int32))), .val (.int (x1 &&& (255 : Int32))), .val (.int z7), .val (.int z15), .unset] [(.int (x1 &&& (255 : Int32))), (.int y18)])) (fun _ k => XS.iload X17.here hx rfl (hb hby at_55) rfl k) ?_
  refine OGo.callS X17 hx hZ17 (y := (⟨"com/example/loomwire/loomwire/http/FieldCursorIsTokenCharacterPinLaw", "reference", "(I)Z"⟩ : MethodName)) hown17 (hw _ (List.mem_of_getElem? (i := 58) rfl)) (hw _ (List.mem_of_getElem? (i := 59) rfl)) (hw _ (List.mem_of_getElem? (i := 60) rfl)) (hw _ (List.mem_of_getElem? (i := 61) rfl)) (by decide) (g := (mkF m 57 #[.val (.int x0), .val (.int x1), .val (.int x0), .val (.int (x0 &&& (131071 : Int32))), .val (.int (x1 &&& (255 : Int32))), .val (.int z7), .val (.int z15), .unset] [(.int (x1 &&& (255 : Int32))), (.int y18)])) (argsL := [(.int (x1 &&& (255 : Int32)))]) (rest := [(.int y18)]) (rfl : T17.heap = T17.heap) (rm_ref l Z a0 hw (x1 &&& (255 : Int32)) T17.heap) rfl (by rw [hml]; rfl) (lenOf pd_1 rfl) rfl (W := 1) (by show 2 * 0 + _ ≤ _; exact Nat.le_of_eq rfl) (hb hby at_57) (by decide) (by decide) (by decide) (by decide) ?_
  rintro _ T20 _ X20 ⟨rfl, e20, rfl⟩
  rw [List.append_nil] at X20
  refine OGo.nm (fun (y21 : Int32) => T20.setTop (mkF m 60 #[.val (.int x0), .val (.int x1), .val (.int x0), .val (.int (x0 &&& (131071 : Int32))), .val (.int (x1 &&& (255 : Int32))), .val (.int z7), .val (.int z15), .unset] [(.int y21), (.int y18)])) (x := (F_ref (x1 &&& (255 : Int32)))) (fun y21 hy21 => ?_)
  refine OGo.ite1 (P := y18 = y21) (fun (z23 : Int32) => T20.setTop (mkF m 68 #[.val (.int x0), .val (.int x1), .val (.int x0), .val (.int (x0 &&& (131071 : Int32))), .val (.int (x1 &&& (255 : Int32))), .val (.int z7), .val (.int z15), .unset] [(.int z23)])) (x := (1 : Int32)) (y := (0 : Int32)) (fun hc22 k24 => ?_) (fun hc22 k24 => ?_) ?_
  · skip
    refine OGo.go (U' := T20.setTop (mkF m 63 #[.val (.int x0), .val (.int x1), .val (.int x0), .val (.int (x0 &&& (131071 : Int32))), .val (.int (x1 &&& (255 : Int32))), .val (.int z7), .val (.int z15), .unset] [])) (fun _ k => XS.icmpNo X20.here hx rfl (hb hby at_60) rfl (teq hc22).2 k) ?_
    refine OGo.go (U' := T20.setTop (mkF m 64 #[.val (.int x0), .val (.int x1), .val (.int x0), .val (.int (x0 &&& (131071 : Int32))), .val (.int (x1 &&& (255 : Int32))), .val (.int z7), .val (.int z15), .unset] [(.int (1 : Int32))])) (fun _ k => XS.iconst X20.here hx rfl (hb hby at_63) k) ?_
    refine OGo.go (U' := T20.setTop (mkF m 68 #[.val (.int x0), .val (.int x1), .val (.int x0), .val (.int (x0 &&& (131071 : Int32))), .val (.int (x1 &&& (255 : Int32))), .val (.int z7), .val (.int z15), .unset] [(.int (1 : Int32))])) (fun _ k => XS.goto X20.here hx rfl (pc0 := 64) (pc' := 68) rfl (hb hby at_64) (by decide) (by decide) k) ?_
    exact k24
  · skip
    refine OGo.go (U' := T20.setTop (mkF m 67 #[.val (.int x0), .val (.int x1), .val (.int x0), .val (.int (x0 &&& (131071 : Int32))), .val (.int (x1 &&& (255 : Int32))), .val (.int z7), .val (.int z15), .unset] [])) (fun _ k => XS.icmpYes X20.here hx rfl (pc0 := 60) (pc' := 67) rfl (hb hby at_60) rfl (feq hc22).2 (by decide) (by decide) k) ?_
    refine OGo.go (U' := T20.setTop (mkF m 68 #[.val (.int x0), .val (.int x1), .val (.int x0), .val (.int (x0 &&& (131071 : Int32))), .val (.int (x1 &&& (255 : Int32))), .val (.int z7), .val (.int z15), .unset] [(.int (0 : Int32))])) (fun _ k => XS.iconst X20.here hx rfl (hb hby at_67) k) ?_
    exact k24
  intro z23 hz23
  refine OGo.go (U' := T20.setTop (mkF m 70 #[.val (.int x0), .val (.int x1), .val (.int x0), .val (.int (x0 &&& (131071 : Int32))), .val (.int (x1 &&& (255 : Int32))), .val (.int z7), .val (.int z15), .val (.int z23)] [])) (fun _ k => XS.istore X20.here hx rfl (hb hby at_68) rfl (l' := #[.val (.int x0), .val (.int x1), .val (.int x0), .val (.int (x0 &&& (131071 : Int32))), .val (.int (x1 &&& (255 : Int32))), .val (.int z7), .val (.int z15), .val (.int z23)]) rfl k) ?_
  refine OGo.go (U' := T20.setTop (mkF m 72 #[.val (.int x0), .val (.int x1), .val (.int x0), .val (.int (x0 &&& (131071 : Int32))), .val (.int (x1 &&& (255 : Int32))), .val (.int z7), .val (.int z15), .val (.int z23)] [(.int z7)])) (fun _ k => XS.iload X20.here hx rfl (hb hby at_70) rfl k) ?_
  refine OGo.ite1 (P := z7 = (0 : Int32)) (fun (z26 : Int32) => T20.setTop (mkF m 90 #[.val (.int x0), .val (.int x1), .val (.int x0), .val (.int (x0 &&& (131071 : Int32))), .val (.int (x1 &&& (255 : Int32))), .val (.int z7), .val (.int z15), .val (.int z23)] [(.int z26)])) (x := (0 : Int32)) (y := (if z15 = (0 : Int32) then (0 : Int32) else (if z23 = (0 : Int32) then (0 : Int32) else (1 : Int32)))) (fun hc25 k27 => ?_) (fun hc25 k27 => ?_) ?_
  · skip
    refine OGo.go (U' := T20.setTop (mkF m 89 #[.val (.int x0), .val (.int x1), .val (.int x0), .val (.int (x0 &&& (131071 : Int32))), .val (.int (x1 &&& (255 : Int32))), .val (.int z7), .val (.int z15), .val (.int z23)] [])) (fun _ k => XS.ifYes X20.here hx rfl (pc0 := 72) (pc' := 89) rfl (hb hby at_72) rfl ((if0 _ _).trans (teq hc25).1) (by decide) (by decide) k) ?_
    refine OGo.go (U' := T20.setTop (mkF m 90 #[.val (.int x0), .val (.int x1), .val (.int x0), .val (.int (x0 &&& (131071 : Int32))), .val (.int (x1 &&& (255 : Int32))), .val (.int z7), .val (.int z15), .val (.int z23)] [(.int (0 : Int32))])) (fun _ k => XS.iconst X20.here hx rfl (hb hby at_89) k) ?_
    exact k27
  · skip
    refine OGo.go (U' := T20.setTop (mkF m 75 #[.val (.int x0), .val (.int x1), .val (.int x0), .val (.int (x0 &&& (131071 : Int32))), .val (.int (x1 &&& (255 : Int32))), .val (.int z7), .val (.int z15), .val (.int z23)] [])) (fun _ k => XS.ifNo X20.here hx rfl (hb hby at_72) rfl ((if0 _ _).trans (feq hc25).1) k) ?_
    refine OGo.go (U' := T20.setTop (mkF m 77 #[.val (.int x0), .val (.int x1), .val (.int x0), .val (.int (x0 &&& (131071 : Int32))), .val (.int (x1 &&& (255 : Int32))), .val (.int z7), .val (.int z15), .val (.int z23)] [(.int z15)])) (fun _ k => XS.iload X20.here hx rfl (hb hby at_75) rfl k) ?_
    refine OGo.ite1 (P := z15 = (0 : Int32)) (fun (z29 : Int32) => T20.setTop (mkF m 90 #[.val (.int x0), .val (.int x1), .val (.int x0), .val (.int (x0 &&& (131071 : Int32))), .val (.int (x1 &&& (255 : Int32))), .val (.int z7), .val (.int z15), .val (.int z23)] [(.int z29)])) (x := (0 : Int32)) (y := (if z23 = (0 : Int32) then (0 : Int32) else (1 : Int32))) (fun hc28 k30 => ?_) (fun hc28 k30 => ?_) (fun z29 hz29 => by subst hz29; exact k27)
    · skip
      refine OGo.go (U' := T20.setTop (mkF m 89 #[.val (.int x0), .val (.int x1), .val (.int x0), .val (.int (x0 &&& (131071 : Int32))), .val (.int (x1 &&& (255 : Int32))), .val (.int z7), .val (.int z15), .val (.int z23)] [])) (fun _ k => XS.ifYes X20.here hx rfl (pc0 := 77) (pc' := 89) rfl (hb hby at_77) rfl ((if0 _ _).trans (teq hc28).1) (by decide) (by decide) k) ?_
      refine OGo.go (U' := T20.setTop (mkF m 90 #[.val (.int x0), .val (.int x1), .val (.int x0), .val (.int (x0 &&& (131071 : Int32))), .val (.int (x1 &&& (255 : Int32))), .val (.int z7), .val (.int z15), .val (.int z23)] [(.int (0 : Int32))])) (fun _ k => XS.iconst X20.here hx rfl (hb hby at_89) k) ?_
      exact k30
    · skip
      refine OGo.go (U' := T20.setTop (mkF m 80 #[.val (.int x0), .val (.int x1), .val (.int x0), .val (.int (x0 &&& (131071 : Int32))), .val (.int (x1 &&& (255 : Int32))), .val (.int z7), .val (.int z15), .val (.int z23)] [])) (fun _ k => XS.ifNo X20.here hx rfl (hb hby at_77) rfl ((if0 _ _).trans (feq hc28).1) k) ?_
      refine OGo.go (U' := T20.setTop (mkF m 82 #[.val (.int x0), .val (.int x1), .val (.int x0), .val (.int (x0 &&& (131071 : Int32))), .val (.int (x1 &&& (255 : Int32))), .val (.int z7), .val (.int z15), .val (.int z23)] [(.int z23)])) (fun _ k => XS.iload X20.here hx rfl (hb hby at_80) rfl k) ?_
      refine OGo.ite1 (P := z23 = (0 : Int32)) (fun (z32 : Int32) => T20.setTop (mkF m 90 #[.val (.int x0), .val (.int x1), .val (.int x0), .val (.int (x0 &&& (131071 : Int32))), .val (.int (x1 &&& (255 : Int32))), .val (.int z7), .val (.int z15), .val (.int z23)] [(.int z32)])) (x := (0 : Int32)) (y := (1 : Int32)) (fun hc31 k33 => ?_) (fun hc31 k33 => ?_) (fun z32 hz32 => by subst hz32; exact k30)
      · skip
        refine OGo.go (U' := T20.setTop (mkF m 89 #[.val (.int x0), .val (.int x1), .val (.int x0), .val (.int (x0 &&& (131071 : Int32))), .val (.int (x1 &&& (255 : Int32))), .val (.int z7), .val (.int z15), .val (.int z23)] [])) (fun _ k => XS.ifYes X20.here hx rfl (pc0 := 82) (pc' := 89) rfl (hb hby at_82) rfl ((if0 _ _).trans (teq hc31).1) (by decide) (by decide) k) ?_
        refine OGo.go (U' := T20.setTop (mkF m 90 #[.val (.int x0), .val (.int x1), .val (.int x0), .val (.int (x0 &&& (131071 : Int32))), .val (.int (x1 &&& (255 : Int32))), .val (.int z7), .val (.int z15), .val (.int z23)] [(.int (0 : Int32))])) (fun _ k => XS.iconst X20.here hx rfl (hb hby at_89) k) ?_
        exact k33
      · skip
        refine OGo.go (U' := T20.setTop (mkF m 85 #[.val (.int x0), .val (.int x1), .val (.int x0), .val (.int (x0 &&& (131071 : Int32))), .val (.int (x1 &&& (255 : Int32))), .val (.int z7), .val (.int z15), .val (.int z23)] [])) (fun _ k => XS.ifNo X20.here hx rfl (hb hby at_82) rfl ((if0 _ _).trans (feq hc31).1) k) ?_
        refine OGo.go (U' := T20.setTop (mkF m 86 #[.val (.int x0), .val (.int x1), .val (.int x0), .val (.int (x0 &&& (131071 : Int32))), .val (.int (x1 &&& (255 : Int32))), .val (.int z7), .val (.int z15), .val (.int z23)] [(.int (1 : Int32))])) (fun _ k => XS.iconst X20.here hx rfl (hb hby at_85) k) ?_
        refine OGo.go (U' := T20.setTop (mkF m 90 #[.val (.int x0), .val (.int x1), .val (.int x0), .val (.int (x0 &&& (131071 : Int32))), .val (.int (x1 &&& (255 : Int32))), .val (.int z7), .val (.int z15), .val (.int z23)] [(.int (1 : Int32))])) (fun _ k => XS.goto X20.here hx rfl (pc0 := 86) (pc' := 90) rfl (hb hby at_86) (by decide) (by decide) k) ?_
        exact k33
  intro z26 hz26
  refine OGo.retNH (s := s) (vm₁ := T17.vm) X20 hS17 e20 (Nat.le_refl _) hZ17 hEL hs0 (((C0.trans Ch1).trans Ch9).trans Ch17) hx (t := .boolean) hret hlk (by simp) (hb hby at_90) ?_ (by decide) (by decide)
  exact ⟨own_ret_0 hy2 hy5 hz7 hy10 hy13 hz15 hy18 hy21 hz23 hz26, Fr.nil _⟩
set_option maxRecDepth 65536 in
set_option maxHeartbeats 40000000 in
theorem comes_1 {Post : Tables → Env → Array Value → State → Outcome → State → Prop} (hpost : ∀ tb e args s v u, (limb_1_1.after args s (.returned v) u = true ∧ limb_1_2.after args s (.returned v) u = true ∧ True) → ReturnedEndW s (.returned v) u (Jvm.fieldLocs frame_1_writes args s ++ Jvm.arrayLocs frame_1_arrays args s ++ Jvm.staticLocs frame_1_statics s) 8 1088 → Post tb e args s (.returned v) u) :
    ArmFor flags0 classFile x code maxLocals ret World_1 tables_1 room_1 Calls_1 rest_1 Pre_1 Post := by
  intro l hfl _ _ p e ha hc hk s m args below hf hA hF happ hP
  obtain ⟨hcalls, hrest, hpre⟩ := hP
  obtain ⟨-, -, -, hnamed, -, -, -, hat⟩ := (Spec.applies_iff hf).mp happ
  obtain ⟨hg, hn⟩ := and_e (Cond.before_iff.mp (show (Jvm.Cond.and given_1 narrow_1).before args s = true from hpre))
  obtain ⟨g0, g1⟩ := and_e hg
  obtain ⟨w0, w1, rfl⟩ : ∃ w0 w1 : Value, args = #[w0, w1] := by
    have hs : args.size = 2 := by simpa [Cond.value, given_1] using g0
    obtain ⟨L⟩ := args
    match L, hs with
    | [w0, w1], _ => exact ⟨w0, w1, rfl⟩
  have hw := fun d (hd : d ∈ tables_1) => atoms_spec (ws := Jvm.Cond.code x code maxLocals ret :: tables_1) hat d (List.mem_cons_of_mem _ hd)
  have hfit : Fit s := fun {y c} hc i hi => by
    obtain ⟨ha, rfl⟩ := Array.getElem?_eq_some_iff.mp hc
    have q := List.all_eq_true.mp ((Array.all_eq_true_iff_forall_mem.mp hF) _ (Array.getElem_mem ha)) i (List.mem_range.mpr hi)
    simpa [Array.getElem?_eq_getElem hi] using q
  obtain ⟨v0, g2⟩ := and_e g1
  obtain ⟨i0, q0⟩ := is_v v0
  obtain rfl : w0 = (.int i0) := Option.some.inj q0
  obtain ⟨i1, q1⟩ := is_v g2
  obtain rfl : w1 = (.int i1) := Option.some.inj q1
  obtain ⟨hsets, -⟩ := atoms_of _ (rest_1_c_eq ▸ (show rest_1_c.before _ s = true from hrest))
  obtain ⟨cs, qcs⟩ := is_v (Cond.before_iff.mp (hsets _ (List.mem_of_getElem? (i := 1) rfl)))
  have hcw := hsets _ (List.mem_of_getElem? (i := 2) rfl)
  have hcs : ¬ cs = 0 := fun q => by
    have w := Cond.before_iff.mp hcw
    subst q
    simp [Cond.value, qcs, Term.int_eval] at w
  have S0 := Sta.start qcs (Or.inl (hsets _ (List.mem_of_getElem? (i := 0) rfl)))
  have hEL : EW s #[.int i0, .int i1] own_EL := EW.cons (hw _ (List.mem_of_getElem? (i := 5) rfl)) (by decide +kernel) EW.nil
  have CH0 : CHv s own_EL s.vm s.heap := CHv.start hEL (fun p hp => hcalls.1 p hp) hcw (hw _ (List.mem_of_getElem? (i := 8) rfl)) (hw _ (List.mem_of_getElem? (i := 7) rfl))
  obtain ⟨n, o, h1, h2, h3, _, L, rfl, ⟨rfl, N⟩, -, hq⟩ := rm_law l s _ hw i0 i1 cs s.heap.size s.heap S0 hcs p e ha hc hk s m _ below hf ((Spec.applies_iff_loose hf).mp happ).1 ⟨rfl, State.Warmed39.refl s, rfl, CH0⟩ trivial
  refine ⟨n, _, h1, h2, h3, hpost _ _ _ _ _ _ ⟨Cond.after_iff.mpr rfl, Cond.after_iff.mpr (eq_i res_at (Term.int_eval (1)) rfl), trivial⟩ ⟨hq.1, hq.2.1, hq.2.2.1, (hq.2.2.2.sift fun y hy => Or.inr (N y hy)).mono (by decide) (by decide)⟩⟩
theorem main_1_1 : Claimed_1_1 := comes_1 fun _ _ _ _ _ _ h hF => ⟨h.1, hF⟩
theorem main_1_2 : Claimed_1_2 := comes_1 fun _ _ _ _ _ _ h hF => ⟨h.2.1, hF⟩
end Jvm.Pilot.@@N@@
namespace Jvm.Pilot.@@N@@
open Jvm Jvm.ClassFile Sem Op Lib Jvm.Free Jvm.Stand Jvm.Pilot.@@N@@.Jvm.D
/-! MADE BY PROGRAM (witnessworld.py) out of the Statement's table words and the real class files: 18 classes; the members and pool entries that the words name. The judged class is class 1, her method 2. -/
namespace start1
open Jvm.ClassFile
def u (s : String) : CpInfo := .utf8 (stringToUtf16 s)
/-- a pool by its gaps: so many unusable entries, then the entry; so many at the end -/
def gap : Nat → List CpInfo → List CpInfo
  | 0, r => r
  | n + 1, r => .unusable :: gap n r
def poolList (es : List (Nat × CpInfo)) (last : Nat) : List CpInfo := es.foldr (fun e r => gap e.1 (e.2 :: r)) (gap last [])
def pool (es : List (Nat × CpInfo)) (last : Nat) : Array CpInfo := ⟨poolList es last⟩
def fileOf (pool : Array CpInfo) (this : Nat) (attrs : Array Attribute := #[]) (ms : Array MethodInfo := #[]) (fl : Nat := 33) (sup : Nat := 0) (ifs : Array Nat := #[]) (fds : Array FieldInfo := #[]) : ClassFile where
  minorVersion := 0
  majorVersion := 65
  constantPool := pool
  accessFlags := fl
  thisClass := this
  superClass := sup
  interfaces := ifs
  fields := fds
  methods := ms
  attributes := attrs
def plain (name : String) (sup : Option ClassId) : Class where
  name := name
  kind := .ordinary
  loader := none
  accessFlags := 33
  super := sup
  interfaces := #[]
  cf := none
  fields := #[]
  methods := #[]
  instanceTypes := #[]
  staticTypes := #[]
  resolved := #[]
  callSites := []
  init := .initialized
  statics := none
  mirror := none

def pool0 : Array CpInfo := pool [(5, u "<init>"), (0, u "()V"), (1, .class_ 10), (1, u "java/lang/Object")] 113

def k0m0 : Method := { name := "<init>", desc := "()V", sig := { parameters := [], returnType := none }, accessFlags := 1, code := none }
/-- java/lang/Object -/
def k0 : Class := { plain "java/lang/Object" none with
  accessFlags := 33
  interfaces := #[]
  cf := some (fileOf pool0 8 #[] #[{ accessFlags := 1, nameIndex := 5, descriptorIndex := 6, attributes := #[] }] 33 0 #[] #[])
  fields := #[]
  methods := #[k0m0]
  instanceTypes := #[]
  staticTypes := #[]
  resolved := Array.replicate 124 none
  statics := none }

def pool1 : Array CpInfo := pool [(2, .class_ 4), (1, u "java/lang/Object"), (0, u "<init>"), (0, u "()V"), (0, .integer 131071), (0, .methodref 9 10), (0, .class_ 11), (0, .nameAndType 12 13), (0, u "com/example/loomwire/loomwire/http/FieldCursor"), (0, u "isTokenCharacter"), (0, u "(I)Z"), (0, .methodref 15 16), (0, .class_ 17), (0, .nameAndType 18 13), (0, u "com/example/loomwire/loomwire/http/FieldCursorIsTokenCharacterPinLaw"), (0, u "reference"), (3, u "law"), (0, u "(II)Z")] 2

def k1m0 : Method := { name := "<init>", desc := "()V", sig := { parameters := [], returnType := none }, accessFlags := 1, code := none }
def k1c1 : Code := { maxStack := 2, maxLocals := 1, code := method_2_code, exceptionTable := #[], attributes := #[] }
def k1m1 : Method := { name := "reference", desc := "(I)Z", sig := { parameters := [.int], returnType := some .boolean }, accessFlags := 10, code := some k1c1 }
def k1c2 : Code := { maxStack := 2, maxLocals := 8, code := code, exceptionTable := #[], attributes := #[] }
def k1m2 : Method := { name := "law", desc := "(II)Z", sig := { parameters := [.int, .int], returnType := some .boolean }, accessFlags := 9, code := some k1c2 }
/-- com/example/loomwire/loomwire/http/FieldCursorIsTokenCharacterPinLaw -/
def k1 : Class := { plain "com/example/loomwire/loomwire/http/FieldCursorIsTokenCharacterPinLaw" (some 0) with
  accessFlags := 49
  interfaces := #[]
  cf := some (fileOf pool1 15 #[] #[{ accessFlags := 1, nameIndex := 5, descriptorIndex := 6, attributes := #[] }, { accessFlags := 10, nameIndex := 18, descriptorIndex := 13, attributes := #[] }, { accessFlags := 9, nameIndex := 22, descriptorIndex := 23, attributes := #[] }] 49 2 #[] #[])
  fields := #[]
  methods := #[k1m0, k1m1, k1m2]
  instanceTypes := #[]
  staticTypes := #[]
  resolved := Array.replicate 26 none
  statics := none }

def pool2 : Array CpInfo := pool [(2, .class_ 4), (1, u "java/lang/Object"), (3, .class_ 10), (1, u "com/example/loomwire/loomwire/http/FieldCursor"), (0, u "field"), (0, u "Ljava/lang/String;"), (0, .string 14), (0, u "!#$%&'*+-.^_`|~"), (0, .methodref 16 17), (0, .class_ 18), (0, .nameAndType 19 20), (0, u "java/lang/String"), (0, u "indexOf"), (0, u "(I)I"), (16, u "next"), (0, u "I"), (17, u "isTokenCharacter"), (0, u "(I)Z"), (27, u "TOKEN_SYMBOLS")] 35

def k2c0 : Code := { maxStack := 2, maxLocals := 1, code := prog_12_method_2_code, exceptionTable := #[], attributes := #[] }
def k2m0 : Method := { name := "isTokenCharacter", desc := "(I)Z", sig := { parameters := [.int], returnType := some .boolean }, accessFlags := 9, code := some k2c0 }
/-- com/example/loomwire/loomwire/http/FieldCursor -/
def k2 : Class := { plain "com/example/loomwire/loomwire/http/FieldCursor" (some 0) with
  accessFlags := 49
  interfaces := #[]
  cf := some (fileOf pool2 8 #[] #[{ accessFlags := 9, nameIndex := 56, descriptorIndex := 57, attributes := #[] }] 49 2 #[] #[{ accessFlags := 26, nameIndex := 85, descriptorIndex := 12, attributes := #[] }, { accessFlags := 18, nameIndex := 11, descriptorIndex := 12, attributes := #[] }, { accessFlags := 2, nameIndex := 37, descriptorIndex := 38, attributes := #[] }])
  fields := #[{ name := "TOKEN_SYMBOLS", type := (.object "java/lang/String"), accessFlags := 26, slot := 0, constantValue := 0 }, { name := "field", type := (.object "java/lang/String"), accessFlags := 18, slot := 0, constantValue := 0 }, { name := "next", type := .int, accessFlags := 2, slot := 1, constantValue := 0 }]
  methods := #[k2m0]
  instanceTypes := #[(.object "java/lang/String"), .int]
  staticTypes := #[(.object "java/lang/String")]
  resolved := Array.replicate 121 none
  statics := none }

def pool3 : Array CpInfo := pool [(1, .class_ 2), (0, u "java/io/Serializable"), (0, .class_ 4), (0, u "java/lang/Object")] 2

/-- java/io/Serializable -/
def k3 : Class := { plain "java/io/Serializable" (some 0) with
  accessFlags := 1537
  interfaces := #[]
  cf := some (fileOf pool3 1 #[] #[] 1537 3 #[] #[])
  fields := #[]
  methods := #[]
  instanceTypes := #[]
  staticTypes := #[]
  resolved := Array.replicate 7 none
  statics := none }

def pool4 : Array CpInfo := pool [(1, .class_ 2), (0, u "java/lang/Comparable"), (0, .class_ 4), (0, u "java/lang/Object")] 7

/-- java/lang/Comparable -/
def k4 : Class := { plain "java/lang/Comparable" (some 0) with
  accessFlags := 1537
  interfaces := #[]
  cf := some (fileOf pool4 1 #[] #[] 1537 3 #[] #[])
  fields := #[]
  methods := #[]
  instanceTypes := #[]
  staticTypes := #[]
  resolved := Array.replicate 12 none
  statics := none }

def pool5 : Array CpInfo := pool [(2, .class_ 4), (1, u "java/lang/CharSequence"), (42, .class_ 48), (0, u "java/lang/CharSequence$1CodePointIterator"), (10, .class_ 60), (0, u "java/lang/CharSequence$1CharIterator"), (5, .class_ 67), (0, u "java/lang/Object")] 63

/-- java/lang/CharSequence -/
def k5 : Class := { plain "java/lang/CharSequence" (some 0) with
  accessFlags := 1537
  interfaces := #[]
  cf := some (fileOf pool5 2 #[.nestMembers #[47, 59]] #[] 1537 66 #[] #[])
  fields := #[]
  methods := #[]
  instanceTypes := #[]
  staticTypes := #[]
  resolved := Array.replicate 131 none
  statics := none }

def pool6 : Array CpInfo := pool [(1, .class_ 2), (0, u "java/lang/constant/Constable"), (0, .class_ 4), (0, u "java/lang/Object")] 6

/-- java/lang/constant/Constable -/
def k6 : Class := { plain "java/lang/constant/Constable" (some 0) with
  accessFlags := 1537
  interfaces := #[]
  cf := some (fileOf pool6 1 #[] #[] 1537 3 #[] #[])
  fields := #[]
  methods := #[]
  instanceTypes := #[]
  staticTypes := #[]
  resolved := Array.replicate 11 none
  statics := none }

def pool7 : Array CpInfo := pool [(1, .class_ 2), (0, u "java/lang/constant/ConstantDesc"), (0, .class_ 4), (0, u "java/lang/Object")] 32

/-- java/lang/constant/ConstantDesc -/
def k7 : Class := { plain "java/lang/constant/ConstantDesc" (some 0) with
  accessFlags := 1537
  interfaces := #[]
  cf := some (fileOf pool7 1 #[] #[] 1537 3 #[] #[])
  fields := #[]
  methods := #[]
  instanceTypes := #[]
  staticTypes := #[]
  resolved := Array.replicate 37 none
  statics := none }

def pool8 : Array CpInfo := pool [(2, .class_ 4), (1, u "java/lang/Object"), (0, u "<init>"), (0, u "()V"), (2, .fieldref 10 11), (0, .class_ 12), (0, .nameAndType 13 14), (0, u "java/lang/String"), (0, u "value"), (0, u "[B"), (0, .fieldref 10 16), (0, .nameAndType 17 18), (0, u "coder"), (0, u "B"), (2, u "hash"), (0, u "I"), (2, u "hashIsZero"), (0, u "Z"), (11, .fieldref 10 39), (0, .nameAndType 40 26), (0, u "COMPACT_STRINGS"), (66, .class_ 109), (1, u "java/lang/StringLatin1"), (32, u "()Z"), (191, u "()I"), (0, .methodref 10 336), (0, .nameAndType 17 337), (0, u "()B"), (154, .methodref 10 493), (0, .nameAndType 494 142), (0, u "isLatin1"), (10, .methodref 10 506), (0, .nameAndType 507 334), (0, u "length"), (67, .class_ 576), (0, u "java/lang/CharSequence"), (22, u "CASE_INSENSITIVE_ORDER"), (0, u "Ljava/util/Comparator;"), (32, .methodref 10 634), (0, .nameAndType 635 636), (0, u "indexOf"), (0, u "(II)I"), (0, .methodref 107 638), (0, .nameAndType 635 639), (0, u "([BIII)I"), (125, u "(I)I"), (335, u "serialPersistentFields"), (0, u "[Ljava/io/ObjectStreamField;"), (0, .class_ 1104), (0, u "java/lang/String$CaseInsensitiveComparator"), (1, .class_ 1107), (0, u "java/io/Serializable"), (0, .class_ 1109), (0, u "java/lang/Comparable"), (0, .class_ 1111), (0, u "java/lang/constant/Constable"), (0, .class_ 1113), (0, u "java/lang/constant/ConstantDesc"), (2, u "serialVersionUID"), (0, u "J"), (3, u "REPL"), (0, u "C"), (2, u "LATIN1"), (1, u "UTF16")] 323

def k8m0 : Method := { name := "<init>", desc := "()V", sig := { parameters := [], returnType := none }, accessFlags := 1, code := none }
def k8c1 : Code := { maxStack := 2, maxLocals := 1, code := jdk_42_method_54_code, exceptionTable := #[], attributes := #[] }
def k8m1 : Method := { name := "length", desc := "()I", sig := { parameters := [], returnType := some .int }, accessFlags := 1, code := some k8c1 }
def k8c2 : Code := { maxStack := 3, maxLocals := 2, code := jdk_42_method_79_code, exceptionTable := #[], attributes := #[] }
def k8m2 : Method := { name := "indexOf", desc := "(I)I", sig := { parameters := [.int], returnType := some .int }, accessFlags := 1, code := some k8c2 }
def k8c3 : Code := { maxStack := 4, maxLocals := 3, code := jdk_42_method_80_code, exceptionTable := #[], attributes := #[] }
def k8m3 : Method := { name := "indexOf", desc := "(II)I", sig := { parameters := [.int, .int], returnType := some .int }, accessFlags := 1, code := some k8c3 }
def k8c4 : Code := { maxStack := 1, maxLocals := 1, code := jdk_42_method_152_code, exceptionTable := #[], attributes := #[] }
def k8m4 : Method := { name := "coder", desc := "()B", sig := { parameters := [], returnType := some .byte }, accessFlags := 0, code := some k8c4 }
def k8c5 : Code := { maxStack := 1, maxLocals := 1, code := jdk_42_method_154_code, exceptionTable := #[], attributes := #[] }
def k8m5 : Method := { name := "isLatin1", desc := "()Z", sig := { parameters := [], returnType := some .boolean }, accessFlags := 0, code := some k8c5 }
/-- java/lang/String -/
def k8 : Class := { plain "java/lang/String" (some 0) with
  accessFlags := 49
  interfaces := #[3, 4, 5, 6, 7]
  cf := some (fileOf pool8 10 #[.nestMembers #[1103]] #[{ accessFlags := 1, nameIndex := 5, descriptorIndex := 6, attributes := #[] }, { accessFlags := 1, nameIndex := 507, descriptorIndex := 334, attributes := #[] }, { accessFlags := 1, nameIndex := 635, descriptorIndex := 765, attributes := #[] }, { accessFlags := 1, nameIndex := 635, descriptorIndex := 636, attributes := #[] }, { accessFlags := 0, nameIndex := 17, descriptorIndex := 337, attributes := #[] }, { accessFlags := 0, nameIndex := 494, descriptorIndex := 142, attributes := #[] }] 49 2 #[1106, 1108, 575, 1110, 1112] #[{ accessFlags := 18, nameIndex := 13, descriptorIndex := 14, attributes := #[] }, { accessFlags := 18, nameIndex := 17, descriptorIndex := 18, attributes := #[] }, { accessFlags := 2, nameIndex := 21, descriptorIndex := 22, attributes := #[] }, { accessFlags := 2, nameIndex := 25, descriptorIndex := 26, attributes := #[] }, { accessFlags := 26, nameIndex := 1116, descriptorIndex := 1117, attributes := #[] }, { accessFlags := 24, nameIndex := 40, descriptorIndex := 26, attributes := #[] }, { accessFlags := 26, nameIndex := 1101, descriptorIndex := 1102, attributes := #[] }, { accessFlags := 26, nameIndex := 1121, descriptorIndex := 1122, attributes := #[] }, { accessFlags := 25, nameIndex := 599, descriptorIndex := 600, attributes := #[] }, { accessFlags := 24, nameIndex := 1125, descriptorIndex := 18, attributes := #[] }, { accessFlags := 24, nameIndex := 1127, descriptorIndex := 18, attributes := #[] }])
  fields := #[{ name := "value", type := (.array .byte), accessFlags := 18, slot := 0, constantValue := 0 }, { name := "coder", type := .byte, accessFlags := 18, slot := 1, constantValue := 0 }, { name := "hash", type := .int, accessFlags := 2, slot := 2, constantValue := 0 }, { name := "hashIsZero", type := .boolean, accessFlags := 2, slot := 3, constantValue := 0 }, { name := "serialVersionUID", type := .long, accessFlags := 26, slot := 0, constantValue := 0 }, { name := "COMPACT_STRINGS", type := .boolean, accessFlags := 24, slot := 1, constantValue := 0 }, { name := "serialPersistentFields", type := (.array (.object "java/io/ObjectStreamField")), accessFlags := 26, slot := 2, constantValue := 0 }, { name := "REPL", type := .char, accessFlags := 26, slot := 3, constantValue := 0 }, { name := "CASE_INSENSITIVE_ORDER", type := (.object "java/util/Comparator"), accessFlags := 25, slot := 4, constantValue := 0 }, { name := "LATIN1", type := .byte, accessFlags := 24, slot := 5, constantValue := 0 }, { name := "UTF16", type := .byte, accessFlags := 24, slot := 6, constantValue := 0 }]
  methods := #[k8m0, k8m1, k8m2, k8m3, k8m4, k8m5]
  instanceTypes := #[(.array .byte), .byte, .int, .boolean]
  staticTypes := #[.long, .boolean, (.array (.object "java/io/ObjectStreamField")), .char, (.object "java/util/Comparator"), .byte, .byte]
  resolved := Array.replicate 1451 none
  statics := some 0 }

def pool9 : Array CpInfo := pool [(4, .class_ 6), (1, u "java/lang/Object"), (0, u "<init>"), (0, u "()V"), (5, .class_ 16), (1, u "java/lang/StringLatin1"), (21, .methodref 39 40), (0, .class_ 41), (0, .nameAndType 42 43), (0, u "java/lang/Math"), (0, u "min"), (0, u "(II)I"), (44, .methodref 14 89), (0, .nameAndType 90 91), (0, u "canEncode"), (0, u "(I)Z"), (0, .methodref 39 93), (0, .nameAndType 94 43), (0, u "max"), (0, .methodref 14 96), (0, .nameAndType 97 98), (0, u "indexOfChar"), (0, u "([BIII)I"), (2, u "indexOf"), (19, u "$assertionsDisabled"), (0, u "Z"), (98, .class_ 223), (1, u "java/lang/StringLatin1$LinesSpliterator"), (166, .class_ 391), (0, u "java/lang/StringLatin1$CharsSpliterator")] 3

def k9m0 : Method := { name := "<init>", desc := "()V", sig := { parameters := [], returnType := none }, accessFlags := 0, code := none }
def k9c1 : Code := { maxStack := 2, maxLocals := 1, code := jdk_43_method_4_code, exceptionTable := #[], attributes := #[] }
def k9m1 : Method := { name := "canEncode", desc := "(I)Z", sig := { parameters := [.int], returnType := some .boolean }, accessFlags := 9, code := some k9c1 }
def k9c2 : Code := { maxStack := 4, maxLocals := 4, code := jdk_43_method_22_code, exceptionTable := #[], attributes := #[] }
def k9m2 : Method := { name := "indexOf", desc := "([BIII)I", sig := { parameters := [(.array .byte), .int, .int, .int], returnType := some .int }, accessFlags := 9, code := some k9c2 }
def k9c3 : Code := { maxStack := 2, maxLocals := 6, code := jdk_43_method_23_code, exceptionTable := #[], attributes := #[] }
def k9m3 : Method := { name := "indexOfChar", desc := "([BIII)I", sig := { parameters := [(.array .byte), .int, .int, .int], returnType := some .int }, accessFlags := 10, code := some k9c3 }
/-- java/lang/StringLatin1 -/
def k9 : Class := { plain "java/lang/StringLatin1" (some 0) with
  accessFlags := 48
  interfaces := #[]
  cf := some (fileOf pool9 14 #[.nestMembers #[390, 221]] #[{ accessFlags := 0, nameIndex := 7, descriptorIndex := 8, attributes := #[] }, { accessFlags := 9, nameIndex := 90, descriptorIndex := 91, attributes := #[] }, { accessFlags := 9, nameIndex := 101, descriptorIndex := 98, attributes := #[] }, { accessFlags := 10, nameIndex := 97, descriptorIndex := 98, attributes := #[] }] 48 4 #[] #[{ accessFlags := 4120, nameIndex := 121, descriptorIndex := 122, attributes := #[] }])
  fields := #[{ name := "$assertionsDisabled", type := .boolean, accessFlags := 4120, slot := 0, constantValue := 0 }]
  methods := #[k9m0, k9m1, k9m2, k9m3]
  instanceTypes := #[]
  staticTypes := #[.boolean]
  resolved := Array.replicate 395 none
  statics := none }

def pool10 : Array CpInfo := pool [(1, .class_ 2), (0, u "java/lang/Math"), (1, .class_ 6), (1, u "java/lang/Object"), (0, u "<init>"), (0, u "()V"), (89, .class_ 100), (1, u "java/lang/Math$RandomNumberGeneratorHolder"), (71, u "negativeZeroFloatBits"), (0, u "J"), (2, u "negativeZeroDoubleBits"), (21, u "max"), (2, u "min"), (43, u "$assertionsDisabled"), (0, u "Z"), (88, u "(II)I"), (2, u "twoToTheDoubleScaleDown"), (0, u "D"), (4, u "twoToTheDoubleScaleUp"), (9, u "E"), (3, u "PI"), (2, u "TAU"), (2, u "DEGREES_TO_RADIANS"), (0, u "RADIANS_TO_DEGREES")] 94

def k10m0 : Method := { name := "<init>", desc := "()V", sig := { parameters := [], returnType := none }, accessFlags := 2, code := none }
def k10c1 : Code := { maxStack := 2, maxLocals := 2, code := jdk_29_method_65_code, exceptionTable := #[], attributes := #[] }
def k10m1 : Method := { name := "max", desc := "(II)I", sig := { parameters := [.int, .int], returnType := some .int }, accessFlags := 9, code := some k10c1 }
def k10c2 : Code := { maxStack := 2, maxLocals := 2, code := jdk_29_method_69_code, exceptionTable := #[], attributes := #[] }
def k10m2 : Method := { name := "min", desc := "(II)I", sig := { parameters := [.int, .int], returnType := some .int }, accessFlags := 9, code := some k10c2 }
/-- java/lang/Math -/
def k10 : Class := { plain "java/lang/Math" (some 0) with
  accessFlags := 49
  interfaces := #[]
  cf := some (fileOf pool10 1 #[.nestMembers #[98]] #[{ accessFlags := 2, nameIndex := 7, descriptorIndex := 8, attributes := #[] }, { accessFlags := 9, nameIndex := 198, descriptorIndex := 335, attributes := #[] }, { accessFlags := 9, nameIndex := 201, descriptorIndex := 335, attributes := #[] }] 49 4 #[] #[{ accessFlags := 25, nameIndex := 354, descriptorIndex := 339, attributes := #[] }, { accessFlags := 25, nameIndex := 358, descriptorIndex := 339, attributes := #[] }, { accessFlags := 25, nameIndex := 361, descriptorIndex := 339, attributes := #[] }, { accessFlags := 26, nameIndex := 364, descriptorIndex := 339, attributes := #[] }, { accessFlags := 26, nameIndex := 365, descriptorIndex := 339, attributes := #[] }, { accessFlags := 26, nameIndex := 172, descriptorIndex := 173, attributes := #[] }, { accessFlags := 26, nameIndex := 176, descriptorIndex := 173, attributes := #[] }, { accessFlags := 8, nameIndex := 344, descriptorIndex := 339, attributes := #[] }, { accessFlags := 8, nameIndex := 338, descriptorIndex := 339, attributes := #[] }, { accessFlags := 4120, nameIndex := 245, descriptorIndex := 246, attributes := #[] }])
  fields := #[{ name := "E", type := .double, accessFlags := 25, slot := 0, constantValue := 0 }, { name := "PI", type := .double, accessFlags := 25, slot := 1, constantValue := 0 }, { name := "TAU", type := .double, accessFlags := 25, slot := 2, constantValue := 0 }, { name := "DEGREES_TO_RADIANS", type := .double, accessFlags := 26, slot := 3, constantValue := 0 }, { name := "RADIANS_TO_DEGREES", type := .double, accessFlags := 26, slot := 4, constantValue := 0 }, { name := "negativeZeroFloatBits", type := .long, accessFlags := 26, slot := 5, constantValue := 0 }, { name := "negativeZeroDoubleBits", type := .long, accessFlags := 26, slot := 6, constantValue := 0 }, { name := "twoToTheDoubleScaleUp", type := .double, accessFlags := 8, slot := 7, constantValue := 0 }, { name := "twoToTheDoubleScaleDown", type := .double, accessFlags := 8, slot := 8, constantValue := 0 }, { name := "$assertionsDisabled", type := .boolean, accessFlags := 4120, slot := 9, constantValue := 0 }]
  methods := #[k10m0, k10m1, k10m2]
  instanceTypes := #[]
  staticTypes := #[.double, .double, .double, .double, .double, .long, .long, .double, .double, .boolean]
  resolved := Array.replicate 460 none
  statics := none }

def pool11 : Array CpInfo := pool [(2, .class_ 4), (1, u "java/lang/Object"), (0, u "<init>"), (0, u "()V"), (17, .class_ 26), (1, u "jdk/internal/util/Preconditions"), (28, .class_ 56), (0, u "jdk/internal/util/Preconditions$4"), (57, .class_ 115), (0, u "jdk/internal/util/Preconditions$1"), (7, u "SIOOBE_FORMATTER"), (0, u "Ljava/util/function/BiFunction;"), (0, .class_ 126), (0, u "jdk/internal/util/Preconditions$2"), (3, u "AIOOBE_FORMATTER"), (0, .class_ 132), (0, u "jdk/internal/util/Preconditions$3"), (3, u "IOOBE_FORMATTER")] 57

def k11m0 : Method := { name := "<init>", desc := "()V", sig := { parameters := [], returnType := none }, accessFlags := 1, code := none }
/-- jdk/internal/util/Preconditions -/
def k11 : Class := { plain "jdk/internal/util/Preconditions" (some 0) with
  accessFlags := 33
  interfaces := #[]
  cf := some (fileOf pool11 24 #[.nestMembers #[55, 131, 125, 114]] #[{ accessFlags := 1, nameIndex := 5, descriptorIndex := 6, attributes := #[] }] 33 2 #[] #[{ accessFlags := 25, nameIndex := 123, descriptorIndex := 124, attributes := #[] }, { accessFlags := 25, nameIndex := 130, descriptorIndex := 124, attributes := #[] }, { accessFlags := 25, nameIndex := 136, descriptorIndex := 124, attributes := #[] }])
  fields := #[{ name := "SIOOBE_FORMATTER", type := (.object "java/util/function/BiFunction"), accessFlags := 25, slot := 0, constantValue := 0 }, { name := "AIOOBE_FORMATTER", type := (.object "java/util/function/BiFunction"), accessFlags := 25, slot := 1, constantValue := 0 }, { name := "IOOBE_FORMATTER", type := (.object "java/util/function/BiFunction"), accessFlags := 25, slot := 2, constantValue := 0 }]
  methods := #[k11m0]
  instanceTypes := #[]
  staticTypes := #[(.object "java/util/function/BiFunction"), (.object "java/util/function/BiFunction"), (.object "java/util/function/BiFunction")]
  resolved := Array.replicate 194 none
  statics := some 1 }

def pool12 : Array CpInfo := pool [(9, u "<init>"), (6, .class_ 18), (1, u "java/lang/Object"), (0, u "()V"), (1, .class_ 23), (1, u "jdk/internal/util/ArraysSupport"), (0, u "LOG2_ARRAY_LONG_INDEX_SCALE"), (0, u "I"), (2, u "U"), (0, u "Ljdk/internal/misc/Unsafe;"), (8, u "BIG_ENDIAN"), (0, u "Z"), (8, u "LOG2_BYTE_BIT_SIZE"), (4, u "LOG2_ARRAY_INT_INDEX_SCALE"), (54, u "JLA"), (0, u "Ljdk/internal/access/JavaLangAccess;"), (11, u "LOG2_ARRAY_BOOLEAN_INDEX_SCALE"), (9, u "LOG2_ARRAY_BYTE_INDEX_SCALE"), (5, u "LOG2_ARRAY_CHAR_INDEX_SCALE"), (5, u "LOG2_ARRAY_SHORT_INDEX_SCALE"), (18, u "LOG2_ARRAY_FLOAT_INDEX_SCALE"), (24, u "LOG2_ARRAY_DOUBLE_INDEX_SCALE"), (89, u "T_BOOLEAN"), (2, u "T_CHAR"), (1, u "T_FLOAT"), (1, u "T_DOUBLE"), (1, u "T_BYTE"), (1, u "T_SHORT"), (1, u "T_INT"), (1, u "T_LONG"), (1, u "SOFT_MAX_ARRAY_LENGTH")] 83

def k12m0 : Method := { name := "<init>", desc := "()V", sig := { parameters := [], returnType := none }, accessFlags := 2, code := none }
/-- jdk/internal/util/ArraysSupport -/
def k12 : Class := { plain "jdk/internal/util/ArraysSupport" (some 0) with
  accessFlags := 33
  interfaces := #[]
  cf := some (fileOf pool12 21 #[] #[{ accessFlags := 2, nameIndex := 9, descriptorIndex := 19, attributes := #[] }] 33 16 #[] #[{ accessFlags := 24, nameIndex := 28, descriptorIndex := 29, attributes := #[] }, { accessFlags := 26, nameIndex := 38, descriptorIndex := 39, attributes := #[] }, { accessFlags := 25, nameIndex := 121, descriptorIndex := 25, attributes := #[] }, { accessFlags := 25, nameIndex := 131, descriptorIndex := 25, attributes := #[] }, { accessFlags := 25, nameIndex := 137, descriptorIndex := 25, attributes := #[] }, { accessFlags := 25, nameIndex := 143, descriptorIndex := 25, attributes := #[] }, { accessFlags := 25, nameIndex := 53, descriptorIndex := 25, attributes := #[] }, { accessFlags := 25, nameIndex := 24, descriptorIndex := 25, attributes := #[] }, { accessFlags := 25, nameIndex := 162, descriptorIndex := 25, attributes := #[] }, { accessFlags := 25, nameIndex := 187, descriptorIndex := 25, attributes := #[] }, { accessFlags := 26, nameIndex := 48, descriptorIndex := 25, attributes := #[] }, { accessFlags := 25, nameIndex := 277, descriptorIndex := 25, attributes := #[] }, { accessFlags := 25, nameIndex := 280, descriptorIndex := 25, attributes := #[] }, { accessFlags := 25, nameIndex := 282, descriptorIndex := 25, attributes := #[] }, { accessFlags := 25, nameIndex := 284, descriptorIndex := 25, attributes := #[] }, { accessFlags := 25, nameIndex := 286, descriptorIndex := 25, attributes := #[] }, { accessFlags := 25, nameIndex := 288, descriptorIndex := 25, attributes := #[] }, { accessFlags := 25, nameIndex := 290, descriptorIndex := 25, attributes := #[] }, { accessFlags := 25, nameIndex := 292, descriptorIndex := 25, attributes := #[] }, { accessFlags := 26, nameIndex := 108, descriptorIndex := 109, attributes := #[] }, { accessFlags := 25, nameIndex := 294, descriptorIndex := 25, attributes := #[] }])
  fields := #[{ name := "U", type := (.object "jdk/internal/misc/Unsafe"), accessFlags := 24, slot := 0, constantValue := 0 }, { name := "BIG_ENDIAN", type := .boolean, accessFlags := 26, slot := 1, constantValue := 0 }, { name := "LOG2_ARRAY_BOOLEAN_INDEX_SCALE", type := .int, accessFlags := 25, slot := 2, constantValue := 0 }, { name := "LOG2_ARRAY_BYTE_INDEX_SCALE", type := .int, accessFlags := 25, slot := 3, constantValue := 0 }, { name := "LOG2_ARRAY_CHAR_INDEX_SCALE", type := .int, accessFlags := 25, slot := 4, constantValue := 0 }, { name := "LOG2_ARRAY_SHORT_INDEX_SCALE", type := .int, accessFlags := 25, slot := 5, constantValue := 0 }, { name := "LOG2_ARRAY_INT_INDEX_SCALE", type := .int, accessFlags := 25, slot := 6, constantValue := 0 }, { name := "LOG2_ARRAY_LONG_INDEX_SCALE", type := .int, accessFlags := 25, slot := 7, constantValue := 0 }, { name := "LOG2_ARRAY_FLOAT_INDEX_SCALE", type := .int, accessFlags := 25, slot := 8, constantValue := 0 }, { name := "LOG2_ARRAY_DOUBLE_INDEX_SCALE", type := .int, accessFlags := 25, slot := 9, constantValue := 0 }, { name := "LOG2_BYTE_BIT_SIZE", type := .int, accessFlags := 26, slot := 10, constantValue := 0 }, { name := "T_BOOLEAN", type := .int, accessFlags := 25, slot := 11, constantValue := 0 }, { name := "T_CHAR", type := .int, accessFlags := 25, slot := 12, constantValue := 0 }, { name := "T_FLOAT", type := .int, accessFlags := 25, slot := 13, constantValue := 0 }, { name := "T_DOUBLE", type := .int, accessFlags := 25, slot := 14, constantValue := 0 }, { name := "T_BYTE", type := .int, accessFlags := 25, slot := 15, constantValue := 0 }, { name := "T_SHORT", type := .int, accessFlags := 25, slot := 16, constantValue := 0 }, { name := "T_INT", type := .int, accessFlags := 25, slot := 17, constantValue := 0 }, { name := "T_LONG", type := .int, accessFlags := 25, slot := 18, constantValue := 0 }, { name := "JLA", type := (.object "jdk/internal/access/JavaLangAccess"), accessFlags := 26, slot := 19, constantValue := 0 }, { name := "SOFT_MAX_ARRAY_LENGTH", type := .int, accessFlags := 25, slot := 20, constantValue := 0 }]
  methods := #[k12m0]
  instanceTypes := #[]
  staticTypes := #[(.object "jdk/internal/misc/Unsafe"), .boolean, .int, .int, .int, .int, .int, .int, .int, .int, .int, .int, .int, .int, .int, .int, .int, .int, .int, (.object "jdk/internal/access/JavaLangAccess"), .int]
  resolved := Array.replicate 378 none
  statics := none }

def pool13 : Array CpInfo := pool [(1, u "java/lang/Cloneable"), (0, .class_ 1), (0, u "java/lang/Object"), (0, .class_ 3)] 3

/-- java/lang/Cloneable -/
def k13 : Class := { plain "java/lang/Cloneable" (some 0) with
  accessFlags := 1537
  interfaces := #[]
  cf := some (fileOf pool13 2 #[] #[] 1537 4 #[] #[])
  fields := #[]
  methods := #[]
  instanceTypes := #[]
  staticTypes := #[]
  resolved := Array.replicate 8 none
  statics := none }

/-- the primitive byte -/
def k14 : Class := { plain "byte" none with kind := .primitive 'B', accessFlags := 0x411 }
/-- [B -/
def k15 : Class := { plain "[B" (some 0) with kind := .array 14 .byte, interfaces := #[13, 3], accessFlags := 1041 }

/-- the primitive int -/
def k16 : Class := { plain "int" none with kind := .primitive 'I', accessFlags := 0x411 }
/-- [I -/
def k17 : Class := { plain "[I" (some 0) with kind := .array 16 .int, interfaces := #[13, 3], accessFlags := 1041 }

def heap : Heap := #[{ cls := 8, slots := #[.long 0, .int 1, .null, .int 0, .null, .int 0, .int 0], vm := .statics 8 },
  { cls := 11, slots := #[.null, .null, .null], vm := .statics 11 }]
def classes : Array Class := #[k0, k1, k2, k3, k4, k5, k6, k7, k8, k9, k10, k11, k12, k13, k14, k15, k16, k17]
def interned : List (Array UInt16 × Addr) := []
def slotsUsed : Nat := 10
def theMethod : MethodId := ⟨1, 2⟩
def args0 : Array Value := #[.int 5, .int 7]
def aboutOver (below : List Frame) : State where
  vm := { classes := classes, interned := interned.toArray }
  heap := heap
  slotsUsed := slotsUsed
  threads := #[{ frames := .invoking theMethod args0 :: below }]
def below0 : List Frame := [.native { method := ⟨0, 0⟩, args := #[] }]
def about1 : State := aboutOver below0
def p0 : Program := .bare "" "" ""
def e0 : Env := launch0.env 0 0 0
theorem w_frames : about1.frames = Frame.invoking theMethod args0 :: below0 := rfl
set_option maxRecDepth 65536 in
theorem w_args : argsFit about1.vm theMethod args0 = true := by decide +kernel
set_option maxRecDepth 65536 in
theorem w_heap : heapFits about1 = true := by decide +kernel
set_option maxRecDepth 65536 in
theorem w_runnable : about1.curStatus? = some .runnable := by decide +kernel
set_option maxRecDepth 65536 in
theorem w_alone : about1.alone = true := by decide +kernel
set_option maxRecDepth 65536 in
theorem w_named : about1.methodNamed? x = some theMethod := by decide +kernel
set_option maxRecDepth 65536 in
theorem w_hears : about1.hears theMethod below0 = true := by decide +kernel
set_option maxRecDepth 65536 in
theorem w_ripe : about1.ripe theMethod args0 below0 = true := by decide +kernel
theorem w_running : about1.status = .running := rfl
set_option maxRecDepth 65536 in
theorem w_room : about1.hasRoom e0.platform room_1 = true :=
  launch0.hasRoom_least _ room_1 (by decide +kernel) (by decide +kernel) (by decide +kernel) (by decide +kernel) (by decide +kernel) (by decide +kernel)
theorem allAtoms_all (ts : List Jvm.Cond) (a : Array Jvm.Value) (st : Jvm.State) : (allAtoms ts).before a st = ts.all (fun c => c.before a st) := by
  induction ts with
  | nil => rfl
  | cons c t ih =>
    show (Jvm.Cond.and c (allAtoms t)).before a st = _
    rw [Jvm.Cond.before_and, ih, List.all_cons]
def words1 : List Jvm.Cond := Jvm.Cond.code x code maxLocals ret :: tables_1
/-- a 'code' word, met by the world's own term for the bytes: nothing is compared byte by byte -/
theorem code_word {y : MethodName} {bytes : ByteArray} {mx : Nat} {rt : Option FieldType} {a : Array Value} {s : State} {m : MethodId} {meth : Method} {c : Code} (h1 : s.methodNamed? y = some m) (h2 : s.vm.method? m = some meth) (h3 : meth.code = some c) (h4 : c.code = bytes)
    (h5 : (c.maxLocals == mx && c.exceptionTable.isEmpty && decide (c.maxStack ≤ mostOperands) && decide (meth.sig.returnType = rt) && !meth.locks && decide (parseMethodDescriptor y.desc = some meth.sig)) = true) : (Jvm.Cond.code y bytes mx rt).before a s = true := by
  simp only [Bool.and_eq_true, beq_iff_eq, Bool.not_eq_true', decide_eq_true_eq] at h5
  obtain ⟨⟨⟨⟨⟨g1, g2⟩, g3⟩, g4⟩, g5⟩, g6⟩ := h5
  simp [Cond.before, Cond.holds, Cond.value, h1, h2, h3, h4, g1, g2, g3, g4, g5, g6]
def isCode : Jvm.Cond → Bool
  | .code _ _ _ _ => true
  | _ => false
theorem all_split {L : List Jvm.Cond} {P : Jvm.Cond → Bool} (h1 : L.all (fun c => isCode c || P c) = true) (h2 : ∀ c ∈ L.filter isCode, P c = true) : L.all P = true := by
  refine List.all_eq_true.mpr fun c hc => ?_
  have h := List.all_eq_true.mp h1 c hc
  rcases Bool.eq_false_or_eq_true (isCode c) with hi | hi
  · exact h2 c (List.mem_filter.mpr ⟨hc, hi⟩)
  · simpa [hi] using h
set_option maxRecDepth 65536 in
theorem w_c0 : (Jvm.Cond.code x code maxLocals ret).before args0 about1 = true := code_word (m := ⟨1, 2⟩) (meth := k1m2) (c := k1c2) (by decide +kernel) rfl rfl rfl (by decide +kernel)
set_option maxRecDepth 65536 in
theorem w_c1 : (Jvm.Cond.code ({ cls := "com/example/loomwire/loomwire/http/FieldCursor", name := "isTokenCharacter", desc := "(I)Z" } : Jvm.MethodName) prog_12_method_2_code (1 : Nat) (Option.some Jvm.ClassFile.FieldType.boolean)).before args0 about1 = true := code_word (m := ⟨2, 0⟩) (meth := k2m0) (c := k2c0) (by decide +kernel) rfl rfl rfl (by decide +kernel)
set_option maxRecDepth 65536 in
theorem w_c2 : (Jvm.Cond.code ({ cls := "java/lang/String", name := "indexOf", desc := "(I)I" } : Jvm.MethodName) jdk_42_method_79_code (2 : Nat) (Option.some Jvm.ClassFile.FieldType.int)).before args0 about1 = true := code_word (m := ⟨8, 2⟩) (meth := k8m2) (c := k8c2) (by decide +kernel) rfl rfl rfl (by decide +kernel)
set_option maxRecDepth 65536 in
theorem w_c3 : (Jvm.Cond.code ({ cls := "java/lang/String", name := "indexOf", desc := "(II)I" } : Jvm.MethodName) jdk_42_method_80_code (3 : Nat) (Option.some Jvm.ClassFile.FieldType.int)).before args0 about1 = true := code_word (m := ⟨8, 3⟩) (meth := k8m3) (c := k8c3) (by decide +kernel) rfl rfl rfl (by decide +kernel)
set_option maxRecDepth 65536 in
theorem w_c4 : (Jvm.Cond.code ({ cls := "java/lang/String", name := "isLatin1", desc := "()Z" } : Jvm.MethodName) jdk_42_method_154_code (1 : Nat) (Option.some Jvm.ClassFile.FieldType.boolean)).before args0 about1 = true := code_word (m := ⟨8, 5⟩) (meth := k8m5) (c := k8c5) (by decide +kernel) rfl rfl rfl (by decide +kernel)
set_option maxRecDepth 65536 in
theorem w_c5 : (Jvm.Cond.code ({ cls := "java/lang/String", name := "length", desc := "()I" } : Jvm.MethodName) jdk_42_method_54_code (1 : Nat) (Option.some Jvm.ClassFile.FieldType.int)).before args0 about1 = true := code_word (m := ⟨8, 1⟩) (meth := k8m1) (c := k8c1) (by decide +kernel) rfl rfl rfl (by decide +kernel)
set_option maxRecDepth 65536 in
theorem w_c6 : (Jvm.Cond.code ({ cls := "java/lang/String", name := "coder", desc := "()B" } : Jvm.MethodName) jdk_42_method_152_code (1 : Nat) (Option.some Jvm.ClassFile.FieldType.byte)).before args0 about1 = true := code_word (m := ⟨8, 4⟩) (meth := k8m4) (c := k8c4) (by decide +kernel) rfl rfl rfl (by decide +kernel)
set_option maxRecDepth 65536 in
theorem w_c7 : (Jvm.Cond.code ({ cls := "java/lang/StringLatin1", name := "indexOf", desc := "([BIII)I" } : Jvm.MethodName) jdk_43_method_22_code (4 : Nat) (Option.some Jvm.ClassFile.FieldType.int)).before args0 about1 = true := code_word (m := ⟨9, 2⟩) (meth := k9m2) (c := k9c2) (by decide +kernel) rfl rfl rfl (by decide +kernel)
set_option maxRecDepth 65536 in
theorem w_c8 : (Jvm.Cond.code ({ cls := "java/lang/StringLatin1", name := "canEncode", desc := "(I)Z" } : Jvm.MethodName) jdk_43_method_4_code (1 : Nat) (Option.some Jvm.ClassFile.FieldType.boolean)).before args0 about1 = true := code_word (m := ⟨9, 1⟩) (meth := k9m1) (c := k9c1) (by decide +kernel) rfl rfl rfl (by decide +kernel)
set_option maxRecDepth 65536 in
theorem w_c9 : (Jvm.Cond.code ({ cls := "java/lang/Math", name := "max", desc := "(II)I" } : Jvm.MethodName) jdk_29_method_65_code (2 : Nat) (Option.some Jvm.ClassFile.FieldType.int)).before args0 about1 = true := code_word (m := ⟨10, 1⟩) (meth := k10m1) (c := k10c1) (by decide +kernel) rfl rfl rfl (by decide +kernel)
set_option maxRecDepth 65536 in
theorem w_c10 : (Jvm.Cond.code ({ cls := "java/lang/Math", name := "min", desc := "(II)I" } : Jvm.MethodName) jdk_29_method_69_code (2 : Nat) (Option.some Jvm.ClassFile.FieldType.int)).before args0 about1 = true := code_word (m := ⟨10, 2⟩) (meth := k10m2) (c := k10c2) (by decide +kernel) rfl rfl rfl (by decide +kernel)
set_option maxRecDepth 65536 in
theorem w_c11 : (Jvm.Cond.code ({ cls := "java/lang/StringLatin1", name := "indexOfChar", desc := "([BIII)I" } : Jvm.MethodName) jdk_43_method_23_code (6 : Nat) (Option.some Jvm.ClassFile.FieldType.int)).before args0 about1 = true := code_word (m := ⟨9, 3⟩) (meth := k9m3) (c := k9c3) (by decide +kernel) rfl rfl rfl (by decide +kernel)
set_option maxRecDepth 65536 in
theorem w_c12 : (Jvm.Cond.code ({ cls := "com/example/loomwire/loomwire/http/FieldCursorIsTokenCharacterPinLaw", name := "reference", desc := "(I)Z" } : Jvm.MethodName) method_2_code (1 : Nat) (Option.some Jvm.ClassFile.FieldType.boolean)).before args0 about1 = true := code_word (m := ⟨1, 1⟩) (meth := k1m1) (c := k1c1) (by decide +kernel) rfl rfl rfl (by decide +kernel)
def codes1 : List Jvm.Cond := [Jvm.Cond.code x code maxLocals ret, Jvm.Cond.code ({ cls := "com/example/loomwire/loomwire/http/FieldCursor", name := "isTokenCharacter", desc := "(I)Z" } : Jvm.MethodName) prog_12_method_2_code (1 : Nat) (Option.some Jvm.ClassFile.FieldType.boolean), Jvm.Cond.code ({ cls := "java/lang/String", name := "indexOf", desc := "(I)I" } : Jvm.MethodName) jdk_42_method_79_code (2 : Nat) (Option.some Jvm.ClassFile.FieldType.int), Jvm.Cond.code ({ cls := "java/lang/String", name := "indexOf", desc := "(II)I" } : Jvm.MethodName) jdk_42_method_80_code (3 : Nat) (Option.some Jvm.ClassFile.FieldType.int), Jvm.Cond.code ({ cls := "java/lang/String", name := "isLatin1", desc := "()Z" } : Jvm.MethodName) jdk_42_method_154_code (1 : Nat) (Option.some Jvm.ClassFile.FieldType.boolean), Jvm.Cond.code ({ cls := "java/lang/String", name := "length", desc := "()I" } : Jvm.MethodName) jdk_42_method_54_code (1 : Nat) (Option.some Jvm.ClassFile.FieldType.int), Jvm.Cond.code ({ cls := "java/lang/String", name := "coder", desc := "()B" } : Jvm.MethodName) jdk_42_method_152_code (1 : Nat) (Option.some Jvm.ClassFile.FieldType.byte), Jvm.Cond.code ({ cls := "java/lang/StringLatin1", name := "indexOf", desc := "([BIII)I" } : Jvm.MethodName) jdk_43_method_22_code (4 : Nat) (Option.some Jvm.ClassFile.FieldType.int), Jvm.Cond.code ({ cls := "java/lang/StringLatin1", name := "canEncode", desc := "(I)Z" } : Jvm.MethodName) jdk_43_method_4_code (1 : Nat) (Option.some Jvm.ClassFile.FieldType.boolean), Jvm.Cond.code ({ cls := "java/lang/Math", name := "max", desc := "(II)I" } : Jvm.MethodName) jdk_29_method_65_code (2 : Nat) (Option.some Jvm.ClassFile.FieldType.int), Jvm.Cond.code ({ cls := "java/lang/Math", name := "min", desc := "(II)I" } : Jvm.MethodName) jdk_29_method_69_code (2 : Nat) (Option.some Jvm.ClassFile.FieldType.int), Jvm.Cond.code ({ cls := "java/lang/StringLatin1", name := "indexOfChar", desc := "([BIII)I" } : Jvm.MethodName) jdk_43_method_23_code (6 : Nat) (Option.some Jvm.ClassFile.FieldType.int), Jvm.Cond.code ({ cls := "com/example/loomwire/loomwire/http/FieldCursorIsTokenCharacterPinLaw", name := "reference", desc := "(I)Z" } : Jvm.MethodName) method_2_code (1 : Nat) (Option.some Jvm.ClassFile.FieldType.boolean)]
set_option maxRecDepth 65536 in
theorem codes_eq : words1.filter isCode = codes1 := rfl
theorem w_codes : ∀ c ∈ words1.filter isCode, c.before args0 about1 = true := by
  rw [codes_eq]
  intro c hc
  simp only [codes1, List.mem_cons, List.not_mem_nil, or_false] at hc
  rcases hc with rfl | rfl | rfl | rfl | rfl | rfl | rfl | rfl | rfl | rfl | rfl | rfl | rfl
  · exact w_c0
  · exact w_c1
  · exact w_c2
  · exact w_c3
  · exact w_c4
  · exact w_c5
  · exact w_c6
  · exact w_c7
  · exact w_c8
  · exact w_c9
  · exact w_c10
  · exact w_c11
  · exact w_c12
set_option maxRecDepth 65536 in
theorem w_t1 : (words1.take 24).all (fun c => isCode c || c.before args0 about1) = true := by decide +kernel
set_option maxRecDepth 65536 in
theorem w_t2 : ((words1.drop 24).take 24).all (fun c => isCode c || c.before args0 about1) = true := by decide +kernel
set_option maxRecDepth 65536 in
theorem w_t3 : ((words1.drop 24).drop 24).all (fun c => isCode c || c.before args0 about1) = true := by decide +kernel
theorem w_tables : (allAtoms (Jvm.Cond.code x code maxLocals ret :: tables_1)).before args0 about1 = true := by
  rw [allAtoms_all]
  show words1.all (fun c => c.before args0 about1) = true
  refine all_split ?_ w_codes
  rw [← List.take_append_drop 24 words1, List.all_append, w_t1, ← List.take_append_drop 24 (words1.drop 24), List.all_append, w_t2, w_t3]
  rfl
set_option maxRecDepth 65536 in
theorem w_rest : rest_1_c.before args0 about1 = true := by decide +kernel
set_option maxRecDepth 65536 in
theorem w_case : (Jvm.Cond.and given_1 narrow_1).before args0 about1 = true := by decide +kernel
set_option maxRecDepth 65536 in
theorem w_consts : constsHeld consts_1 about1 := Jvm.Lit.constsHeldB_iff.mp (by decide +kernel)
theorem w_applies : (headSpec (Jvm.Cond.code x code maxLocals ret :: tables_1) room_1).applies x e0.platform about1 = true :=
  (Spec.applies_iff w_frames).mpr ⟨w_running, w_runnable, w_alone, w_named, w_hears, w_ripe, w_room, w_tables⟩
theorem atStart : AtStart classFile x code maxLocals ret World_1 tables_1 room_1 Calls_1 rest_1 Pre_1 launch0 p0 e0 about1 theMethod args0 below0 :=
  ⟨lists_1, trivial, launch0.admits_env _ _ _, launch0.least_env, fairChoices_fair.cas, fairChoices_fair.clock, w_frames, w_args, w_heap, w_applies, ⟨w_consts, trivial⟩, w_rest, w_case⟩
end start1
theorem witness_1 : WitnessClaimed_1 := ⟨start1.p0, start1.e0, start1.about1, start1.theMethod, start1.args0, start1.below0, start1.atStart⟩
end Jvm.Pilot.@@N@@
