import JvmDerived
import JvmDerived.Pilot.@@N@@Statement
import JvmDerived.Pilot.@@N@@Code
set_option linter.unusedVariables false
set_option linter.unusedSimpArgs false
namespace Jvm.RoadKit
open Sem ClassFile Op Lib Jvm.Stand Jvm.Free Jvm.LawKit
section OwnGo
variable {p : Program} {l : Launch} {e : Env} {R : Room} {s : State} {m : MethodId} {args : Array Value} {below : List Frame} {meth : Method} {c : Code} {T : State} {locs : List Loc} {cells slots : Nat} {Z : State} {a0 : Array Value} {h : Heap} {kc ks : Nat} {Q : Option Value → Heap → List Loc → Prop} {G : Outcome → State → Prop} {U U' : State}
/-- from U the walk ends, and G says how -/
def OGo (p : Program) (e : Env) (below : List Frame) (G : Outcome → State → Prop) (U : State) : Prop :=
  ∃ s₂ o, Steps p.tables e below U s₂ ∧ s₂.status = .running ∧ Ended s₂ below o ∧ G o s₂
/-- it returned, Q says what, and the frame is kept -/
def OEnd (s : State) (kc ks : Nat) (Q : Option Value → Heap → List Loc → Prop) (o : Outcome) (t : State) : Prop := ∃ v L, o = .returned v ∧ Q v t.heap L ∧ FrameEnd s o t L kc ks
/-- the same where a String constant may have come to be interned -/
def OEndW (s : State) (kc ks : Nat) (Q : Option Value → Heap → List Loc → Prop) (o : Outcome) (t : State) : Prop := ∃ v L, o = .returned v ∧ Q v t.heap L ∧ ReturnedEndW s o t L kc ks
theorem OGo.go (f : ∀ t, Steps p.tables e below U' t → Steps p.tables e below U t) (k : OGo p e below G U') : OGo p e below G U := by
  obtain ⟨s₂, o, h1, h2⟩ := k
  exact ⟨s₂, o, f _ h1, h2⟩
theorem OGo.trans (f : Steps p.tables e below U U') (k : OGo p e below G U') : OGo p e below G U := OGo.go (fun _ r => f.trans r) k
/-- two roads that meet again, in a state that differs in one value -/
theorem OGo.ite1 {α : Type} {P : Prop} [Decidable P] (f : α → State) {x y : α} (h1 : P → OGo p e below G (f x) → OGo p e below G U) (h2 : ¬ P → OGo p e below G (f y) → OGo p e below G U) (k : ∀ z, z = (if P then x else y) → OGo p e below G (f z)) : OGo p e below G U := by
  by_cases q : P
  · exact h1 q (k _ (if_pos q).symm)
  · exact h2 q (k _ (if_neg q).symm)
theorem OGo.ite2 {α β : Type} {P : Prop} [Decidable P] (f : α → β → State) {x y : α} {x' y' : β} (h1 : P → OGo p e below G (f x x') → OGo p e below G U) (h2 : ¬ P → OGo p e below G (f y y') → OGo p e below G U) (k : ∀ z z', z = (if P then x else y) → z' = (if P then x' else y') → OGo p e below G (f z z')) : OGo p e below G U := by
  by_cases q : P
  · exact h1 q (k _ _ (if_pos q).symm (if_pos q).symm)
  · exact h2 q (k _ _ (if_neg q).symm (if_neg q).symm)
theorem OGo.ite3 {α β γ : Type} {P : Prop} [Decidable P] (f : α → β → γ → State) {x y : α} {x' y' : β} {x'' y'' : γ} (h1 : P → OGo p e below G (f x x' x'') → OGo p e below G U) (h2 : ¬ P → OGo p e below G (f y y' y'') → OGo p e below G U) (k : ∀ z z' z'', z = (if P then x else y) → z' = (if P then x' else y') → z'' = (if P then x'' else y'') → OGo p e below G (f z z' z'')) : OGo p e below G U := by
  by_cases q : P
  · exact h1 q (k _ _ _ (if_pos q).symm (if_pos q).symm (if_pos q).symm)
  · exact h2 q (k _ _ _ (if_neg q).symm (if_neg q).symm (if_neg q).symm)
theorem OGo.cut {H : Prop} (V : State) (k1 : (H → OGo p e below G V) → OGo p e below G U) (k2 : H → OGo p e below G V) : OGo p e below G U := k1 k2
theorem OGo.cut2 {α : Type} {H : α → Prop} (V : α → State) (k1 : (∀ a, H a → OGo p e below G (V a)) → OGo p e below G U) (k2 : ∀ a, H a → OGo p e below G (V a)) : OGo p e below G U := k1 k2
theorem OGo.nm {α : Type} (f : α → State) {x : α} (k : ∀ z, z = x → OGo p e below G (f z)) : OGo p e below G (f x) := k x rfl
/-- the end of the walk -/
theorem OGo.ret (X : Stand p l e R s m args below meth c T locs cells slots) {v : Option Value} {g : JFrame} (hv : meth.sig.returnType = none → v = none) (hlk : meth.locks = false)
    (hs : ∀ fs, (∀ (f : JFrame) (acts : List Action), f.method = m → f.locked = none → f.entered = [] → (doReturn e (T.setTop f) acts v).1 = T.setFrames fs) → Steps p.tables e below (T.setTop g) (T.setFrames fs))
    (hQ : Q v T.heap locs) (hc : cells ≤ kc) (hl : slots ≤ ks) : OGo p e below (OEnd s kc ks Q) (T.setTop g) := by
  obtain ⟨fs, hr, hrun, hended, hW, hsame⟩ := X.leave (v := v) hv hlk
  exact ⟨_, _, hs fs hr, hrun, hended, v, locs, rfl, hQ, ⟨_, rfl⟩, hW, hsame.mono hc hl⟩
/-- return of a boolean, byte, char, short -/
theorem OGo.retN (X : Stand p l e R s m args below meth c T locs cells slots) (hx : p.tables.exec = Jvm.exec) {pc : Nat} {Ls : Array Slot} {z : Int32} {t : FieldType} {rest : List Value} (hret : meth.sig.returnType = some t) (hlk : meth.locks = false) (ht : t = .boolean ∨ t = .byte ∨ t = .char ∨ t = .short)
    (hd : decode c.code pc = .ok (.ireturn, 1)) (hQ : Q (some (.int (nar t z))) T.heap locs) (hc : cells ≤ kc) (hl : slots ≤ ks) : OGo p e below (OEnd s kc ks Q) (T.setTop (mkF m pc Ls (.int z :: rest))) :=
  OGo.ret X (fun q => by rw [hret] at q; cases q) hlk (fun fs hr => Jvm.RoadKit.retN X hx hret ht hd hr) hQ hc hl
/-- return of an int, a long, a double, a reference -/
theorem OGo.retV (X : Stand p l e R s m args below meth c T locs cells slots) (hx : p.tables.exec = Jvm.exec) {pc : Nat} {Ls : Array Slot} {w : Value} {t : FieldType} {i : Instr} {rest : List Value} (hret : meth.sig.returnType = some t) (hlk : meth.locks = false) (hn : narrow t w = w)
    (hi : (i = .ireturn ∧ (t = .int ∨ t = .boolean ∨ t = .byte ∨ t = .char ∨ t = .short) ∧ ∃ z, w = .int z) ∨ (i = .lreturn ∧ t = .long ∧ ∃ z, w = .long z) ∨ (i = .dreturn ∧ t = .double ∧ ∃ z, w = .double z) ∨ (i = .freturn ∧ t = .float ∧ ∃ z, w = .float z) ∨ (i = .areturn ∧ t.isReference = true ∧ w.isRef = true))
    (hd : decode c.code pc = .ok (i, 1)) (hQ : Q (some w) T.heap locs) (hc : cells ≤ kc) (hl : slots ≤ ks) : OGo p e below (OEnd s kc ks Q) (T.setTop (mkF m pc Ls (w :: rest))) :=
  OGo.ret X (fun q => by rw [hret] at q; cases q) hlk (fun fs hr => Jvm.RoadKit.retOut X hx hret hn hi hd hr) hQ hc hl
theorem OGo.retI (X : Stand p l e R s m args below meth c T locs cells slots) (hx : p.tables.exec = Jvm.exec) {pc : Nat} {Ls : Array Slot} {z : Int32} {rest : List Value} (hret : meth.sig.returnType = some .int) (hlk : meth.locks = false)
    (hd : decode c.code pc = .ok (.ireturn, 1)) (hQ : Q (some (.int z)) T.heap locs) (hc : cells ≤ kc) (hl : slots ≤ ks) : OGo p e below (OEnd s kc ks Q) (T.setTop (mkF m pc Ls (.int z :: rest))) :=
  OGo.retV X hx hret hlk rfl (Or.inl ⟨rfl, Or.inl rfl, z, rfl⟩) hd hQ hc hl
theorem OGo.retJ (X : Stand p l e R s m args below meth c T locs cells slots) (hx : p.tables.exec = Jvm.exec) {pc : Nat} {Ls : Array Slot} {z : Int64} {rest : List Value} (hret : meth.sig.returnType = some .long) (hlk : meth.locks = false)
    (hd : decode c.code pc = .ok (.lreturn, 1)) (hQ : Q (some (.long z)) T.heap locs) (hc : cells ≤ kc) (hl : slots ≤ ks) : OGo p e below (OEnd s kc ks Q) (T.setTop (mkF m pc Ls (.long z :: rest))) :=
  OGo.retV X hx hret hlk rfl (Or.inr (Or.inl ⟨rfl, rfl, z, rfl⟩)) hd hQ hc hl
theorem OGo.retD (X : Stand p l e R s m args below meth c T locs cells slots) (hx : p.tables.exec = Jvm.exec) {pc : Nat} {Ls : Array Slot} {z : UInt64} {rest : List Value} (hret : meth.sig.returnType = some .double) (hlk : meth.locks = false)
    (hd : decode c.code pc = .ok (.dreturn, 1)) (hQ : Q (some (.double z)) T.heap locs) (hc : cells ≤ kc) (hl : slots ≤ ks) : OGo p e below (OEnd s kc ks Q) (T.setTop (mkF m pc Ls (.double z :: rest))) :=
  OGo.retV X hx hret hlk rfl (Or.inr (Or.inr (Or.inl ⟨rfl, rfl, z, rfl⟩))) hd hQ hc hl
theorem OGo.retA (X : Stand p l e R s m args below meth c T locs cells slots) (hx : p.tables.exec = Jvm.exec) {pc : Nat} {Ls : Array Slot} {w : Value} {t : FieldType} {rest : List Value} (hret : meth.sig.returnType = some t) (hlk : meth.locks = false) (ht : t.isReference = true) (hw : w.isRef = true)
    (hd : decode c.code pc = .ok (.areturn, 1)) (hQ : Q (some w) T.heap locs) (hc : cells ≤ kc) (hl : slots ≤ ks) : OGo p e below (OEnd s kc ks Q) (T.setTop (mkF m pc Ls (w :: rest))) :=
  OGo.retV X hx hret hlk (by cases t <;> first | (cases ht; done) | (cases w <;> first | rfl | (cases hw; done))) (Or.inr (Or.inr (Or.inr (Or.inr ⟨rfl, ht, hw⟩)))) hd hQ hc hl
theorem OGo.ret0 (X : Stand p l e R s m args below meth c T locs cells slots) (hx : p.tables.exec = Jvm.exec) {pc : Nat} {Ls : Array Slot} (hret : meth.sig.returnType = none) (hlk : meth.locks = false)
    (hd : decode c.code pc = .ok (.return_, 1)) (hQ : Q none T.heap locs) (hc : cells ≤ kc) (hl : slots ≤ ks) : OGo p e below (OEnd s kc ks Q) (T.setTop (mkF m pc Ls [])) :=
  OGo.ret X (fun _ => rfl) hlk (fun fs hr => X.returnOut hx hret hd hr) hQ hc hl
/-- the end of the walk where a String constant may have come to be interned -/
theorem OGo.retW {vm₁ : Vm} {n : Nat} (X : Stand p l e R (s.setVm vm₁) m args below meth c T locs cells slots) (hS : s.Since vm₁ n) (hn : n ≤ T.heap.size) {v : Option Value} {g : JFrame} (hv : meth.sig.returnType = none → v = none) (hlk : meth.locks = false)
    (hs : ∀ fs, (∀ (f : JFrame) (acts : List Action), f.method = m → f.locked = none → f.entered = [] → (doReturn e (T.setTop f) acts v).1 = T.setFrames fs) → Steps p.tables e below (T.setTop g) (T.setFrames fs))
    (hQ : Q v T.heap locs) (hc : cells ≤ kc) (hl : slots ≤ ks) : OGo p e below (OEndW s kc ks Q) (T.setTop g) := by
  obtain ⟨fs, hr, hrun, hended, h1, h2, h3, h4⟩ := X.leaveW hS hn (v := v) hv hlk
  exact ⟨_, _, hs fs hr, hrun, hended, v, locs, rfl, hQ, h1, h2, h3, h4.mono hc hl⟩
theorem OGo.retNW {vm₁ : Vm} {n : Nat} (X : Stand p l e R (s.setVm vm₁) m args below meth c T locs cells slots) (hS : s.Since vm₁ n) (hn : n ≤ T.heap.size) (hx : p.tables.exec = Jvm.exec) {pc : Nat} {Ls : Array Slot} {z : Int32} {t : FieldType} {rest : List Value} (hret : meth.sig.returnType = some t) (hlk : meth.locks = false) (ht : t = .boolean ∨ t = .byte ∨ t = .char ∨ t = .short)
    (hd : decode c.code pc = .ok (.ireturn, 1)) (hQ : Q (some (.int (nar t z))) T.heap locs) (hc : cells ≤ kc) (hl : slots ≤ ks) : OGo p e below (OEndW s kc ks Q) (T.setTop (mkF m pc Ls (.int z :: rest))) :=
  OGo.retW X hS hn (fun q => by rw [hret] at q; cases q) hlk (fun fs hr => Jvm.RoadKit.retN X hx hret ht hd hr) hQ hc hl
/-- a body's contract: called with 'as' at a heap h0, it returns, and Q says what it left -/
def OMet (l : Launch) (Z : State) (y : MethodName) (bytes : ByteArray) (maxL : Nat) (ret : Option FieldType) (ws : List Jvm.Cond) (rm : Room) (as : Array Value) (h0 : Heap) (Q : Option Value → Heap → List Loc → Prop) : Prop :=
  MetFree l y (head1 (Jvm.Cond.code y bytes maxL ret :: ws) rm) (fun a U => a = as ∧ Z.Warmed39 U.vm ∧ U.heap = h0) (fun _ _ _ _ _ => True) (fun _ U o U' => ∃ v L, o = .returned v ∧ Q v U'.heap L ∧ FrameEnd U o U' L rm.cells rm.slots)
theorem OMet.of {y : MethodName} {bytes : ByteArray} {maxL : Nat} {ret : Option FieldType} {ws : List Jvm.Cond} {rm : Room} {as : Array Value} {h0 : Heap} (hpn : plainFor y = true)
    (H : ∀ (p : Program) (e : Env) (s : State) (m : MethodId) (below : List Frame) (meth : Method) (c : Code) (T0 : State), Stand p l e rm s m as below meth c T0 [] 0 0 → p.tables.exec = Jvm.exec → c.code = bytes → c.maxLocals = maxL → s.vm.findClass y.cls = some m.cls → meth.name = y.name → meth.sig.returnType = ret → meth.locks = false → Z.Warmed39 s.vm → T0.heap = h0 →
      OGo p e below (OEnd s rm.cells rm.slots Q) (T0.setTop (entryFrame m as maxL))) : OMet l Z y bytes maxL ret ws rm as h0 Q := by
  refine MetFree.of_bodySF hpn hisR ?_
  intro p e s m args below meth c s₁ Bd hml0 hP hK
  obtain ⟨rfl, hZ, hh⟩ := hP
  exact H p e s m below meth c s₁ (Stand.of_body Bd) Bd.exec Bd.bytes hml0 (findClass_of_methodNamed Bd.named) (name_of_methodNamed Bd.named Bd.method).1 Bd.returns Bd.notSynchronized hZ (by rw [← hh, Bd.state]; rfl)
def OMetW (l : Launch) (Z : State) (y : MethodName) (bytes : ByteArray) (maxL : Nat) (ret : Option FieldType) (ws : List Jvm.Cond) (rm : Room) (as : Array Value) (h0 : Heap) (Q : Option Value → Heap → List Loc → Prop) : Prop :=
  MetFree l y (head1 (Jvm.Cond.code y bytes maxL ret :: ws) rm) (fun a U => a = as ∧ Z.Warmed39 U.vm ∧ U.heap = h0) (fun _ _ _ _ _ => True) (fun _ U o U' => ∃ v L, o = .returned v ∧ Q v U'.heap L ∧ ReturnedEndW U o U' L rm.cells rm.slots)
theorem OMetW.of {y : MethodName} {bytes : ByteArray} {maxL : Nat} {ret : Option FieldType} {ws : List Jvm.Cond} {rm : Room} {as : Array Value} {h0 : Heap} (hpn : plainFor y = true)
    (H : ∀ (p : Program) (e : Env) (s : State) (m : MethodId) (below : List Frame) (meth : Method) (c : Code) (T0 : State), Stand p l e rm s m as below meth c T0 [] 0 0 → p.tables.exec = Jvm.exec → c.code = bytes → c.maxLocals = maxL → s.vm.findClass y.cls = some m.cls → meth.name = y.name → meth.sig.returnType = ret → meth.locks = false → Z.Warmed39 s.vm → T0.heap = h0 →
      OGo p e below (OEndW s rm.cells rm.slots Q) (T0.setTop (entryFrame m as maxL))) : OMetW l Z y bytes maxL ret ws rm as h0 Q := by
  refine MetFree.of_bodySF hpn hisR ?_
  intro p e s m args below meth c s₁ Bd hml0 hP hK
  obtain ⟨rfl, hZ, hh⟩ := hP
  exact H p e s m below meth c s₁ (Stand.of_body Bd) Bd.exec Bd.bytes hml0 (findClass_of_methodNamed Bd.named) (name_of_methodNamed Bd.named Bd.method).1 Bd.returns Bd.notSynchronized hZ (by rw [← hh, Bd.state]; rfl)
/-- a call of a static method -/
theorem OGo.callS (X : Stand p l e R s m args below meth c T locs cells slots) (hx : p.tables.exec = Jvm.exec) (hZ : Z.Warmed39 s.vm) {own : String} {index : Nat} {y : MethodName} {bytes : ByteArray} {maxL : Nat} {ret : Option FieldType}
    (hown : s.vm.findClass own = some m.cls) (w1 : (Jvm.Cond.methodLink own index y).before a0 Z = true) (w2 : (Jvm.Cond.static y).before a0 Z = true) (w3 : (Jvm.Cond.initialized y.cls).before a0 Z = true) (w4 : (Jvm.Cond.code y bytes maxL ret).before a0 Z = true)
    (hy : y.cls ≠ "java/lang/invoke/MethodHandle" ∧ y.cls ≠ "java/lang/invoke/VarHandle") {g : JFrame} {argsL rest : List Value} {rm : Room} {Q' : Option Value → Heap → List Loc → Prop} (eT : T.heap = h) (hM : OMet l Z y bytes maxL ret [] rm argsL.toArray h Q')
    (hg : g.method = m) (hsize : g.locals.size = c.maxLocals) (hlen : ∀ sig, parseMethodDescriptor y.desc = some sig → argsL.length = sig.parameters.length) (hstack : g.stack = argsL.reverse ++ rest) {W : Nat} (hW : 2 * g.monitorRoom + (rest.map fun v => v.category).sum ≤ W) (hd : decode c.code g.pc = .ok (.invokestatic index, 3))
    (hf : rm.frames + 1 ≤ R.frames) (hl : W + (maxL + 11) + rm.locals ≤ R.locals) (hc : cells + rm.cells ≤ R.cells) (hs : slots + rm.slots ≤ R.slots)
    (k : ∀ (v : Option Value) (T' : State) (L' : List Loc), Stand p l e R s m args below meth c T' (locs ++ L') (cells + rm.cells) (slots + rm.slots) → Q' v T'.heap L' → OGo p e below G (T'.setTop { g with pc := g.pc + 3, stack := v.toList ++ rest })) : OGo p e below G (T.setTop g) := by
  obtain ⟨v, vm₁, B, hW₁, X', ⟨L, hQ, e1, e2, e3⟩, st⟩ := Jvm.LawKit.callS X hx (y := y) hown (mvT hZ w1) (mvT hZ w2) (mvT hZ w3) (mvT hZ w4) hy (backOf (W := W) hM hZ w4 w3 hf hl) (g := g) hg hsize (argsL := argsL) (rest := rest) hlen hstack hW hd (fun _ _ => ⟨rfl, eT, hc, hs⟩)
  rw [e1, e2, e3] at X'
  exact OGo.go st (k v B.U L X' hQ)
/-- a call of a constructor -/
theorem OGo.callI (X : Stand p l e R s m args below meth c T locs cells slots) (hx : p.tables.exec = Jvm.exec) (hZ : Z.Warmed39 s.vm) {own : String} {index : Nat} {y : MethodName} {bytes : ByteArray} {maxL : Nat} (hy1 : y.name = "<init>")
    (hown : s.vm.findClass own = some m.cls) (w1 : (Jvm.Cond.methodLink own index y).before a0 Z = true) (w2 : (Jvm.Cond.instanceMethod y).before a0 Z = true) (w3 : (Jvm.Cond.initialized y.cls).before a0 Z = true) (w4 : (Jvm.Cond.code y bytes maxL none).before a0 Z = true)
    (hy : y.cls ≠ "java/lang/invoke/MethodHandle" ∧ y.cls ≠ "java/lang/invoke/VarHandle") {g : JFrame} {a : Addr} {argsL rest : List Value} {rm : Room} {Q' : Option Value → Heap → List Loc → Prop} (eT : T.heap = h) (hM : OMet l Z y bytes maxL none [] rm (.ref a :: argsL).toArray h Q')
    (hg : g.method = m) (hsize : g.locals.size = c.maxLocals) (hlen : ∀ sig, parseMethodDescriptor y.desc = some sig → argsL.length = sig.parameters.length) (hstack : g.stack = argsL.reverse ++ .ref a :: rest) {W : Nat} (hW : 2 * g.monitorRoom + (rest.map fun v => v.category).sum ≤ W) (hd : decode c.code g.pc = .ok (.invokespecial index, 3))
    (hf : rm.frames + 1 ≤ R.frames) (hl : W + (maxL + 11) + rm.locals ≤ R.locals) (hc : cells + rm.cells ≤ R.cells) (hs : slots + rm.slots ≤ R.slots)
    (k : ∀ (v : Option Value) (T' : State) (L' : List Loc), Stand p l e R s m args below meth c T' (locs ++ L') (cells + rm.cells) (slots + rm.slots) → Q' v T'.heap L' → OGo p e below G (T'.setTop { g with pc := g.pc + 3, stack := v.toList ++ rest })) : OGo p e below G (T.setTop g) := by
  obtain ⟨v, vm₁, B, hW₁, X', ⟨L, hQ, e1, e2, e3⟩, st⟩ := X.specialBack hx (y := y) hy1 hown (mvT hZ w1) (mvT hZ w2) (mvT hZ w4) hy (backOf (W := W) hM hZ w4 w3 hf hl) (g := g) hg hsize (Steps.refl _) (a := a) (argsL := argsL) (rest := rest) hlen hstack hW hd (fun _ _ => ⟨rfl, eT, hc, hs⟩)
  rw [e1, e2, e3] at X'
  exact OGo.trans st (k v B.U L X' hQ)
/-- a call of an instance method -/
theorem OGo.callV (X : Stand p l e R s m args below meth c T locs cells slots) (hx : p.tables.exec = Jvm.exec) (hZ : Z.Warmed39 s.vm) {own C : String} {index : Nat} {y : MethodName} {bytes : ByteArray} {maxL : Nat} {ret : Option FieldType}
    (hown : s.vm.findClass own = some m.cls) (w1 : (Jvm.Cond.methodLink own index y).before a0 Z = true) (w5 : (Jvm.Cond.declares y).before a0 Z = true) (w6 : (Jvm.Cond.selects C y y).before a0 Z = true) (w2 : (Jvm.Cond.instanceMethod y).before a0 Z = true) (w3 : (Jvm.Cond.initialized y.cls).before a0 Z = true) (w4 : (Jvm.Cond.code y bytes maxL ret).before a0 Z = true)
    (hy : y.cls ≠ "java/lang/invoke/MethodHandle" ∧ y.cls ≠ "java/lang/invoke/VarHandle") {g : JFrame} {a : Addr} {argsL rest : List Value} {rm : Room} {Q' : Option Value → Heap → List Loc → Prop} (eT : T.heap = h) (E : Exa Z h a C) (hM : OMet l Z y bytes maxL ret [] rm (.ref a :: argsL).toArray h Q')
    (hg : g.method = m) (hsize : g.locals.size = c.maxLocals) (hlen : ∀ sig, parseMethodDescriptor y.desc = some sig → argsL.length = sig.parameters.length) (hstack : g.stack = argsL.reverse ++ .ref a :: rest) {W : Nat} (hW : 2 * g.monitorRoom + (rest.map fun v => v.category).sum ≤ W) (hd : decode c.code g.pc = .ok (.invokevirtual index, 3))
    (hf : rm.frames + 1 ≤ R.frames) (hl : W + (maxL + 11) + rm.locals ≤ R.locals) (hc : cells + rm.cells ≤ R.cells) (hs : slots + rm.slots ≤ R.slots)
    (k : ∀ (v : Option Value) (T' : State) (L' : List Loc), Stand p l e R s m args below meth c T' (locs ++ L') (cells + rm.cells) (slots + rm.slots) → Q' v T'.heap L' → OGo p e below G (T'.setTop { g with pc := g.pc + 3, stack := v.toList ++ rest })) : OGo p e below G (T.setTop g) := by
  obtain ⟨cB, kB, q1, q2, q3⟩ := isOf hZ eT E
  obtain ⟨v, vm₁, B, hW₁, X', ⟨L, hQ, e1, e2, e3⟩, st⟩ := X.virtualBack hx (y := y) (z := y) hown (mvT hZ w1) (mvT hZ w5) (notFace_of_selects (args := #[]) (mvT hZ w6)) (mvT hZ w6) (mvT hZ w2) hy (backOf (W := W) hM hZ w4 w3 hf hl) q1 q3 (g := g) hg hsize (Steps.refl _) (argsL := argsL) (rest := rest) hlen hstack hW hd (fun _ _ => ⟨rfl, eT, hc, hs⟩)
  rw [e1, e2, e3] at X'
  exact OGo.trans st (k v B.U L X' hQ)
/-- what a contract says that leaves the heap as it was -/
def OPure (w : Option Value) (h0 : Heap) (v : Option Value) (h : Heap) (L : List Loc) : Prop := v = w ∧ h = h0 ∧ L = []
/-- a static that a sheet says to hold an object of just this class -/
theorem own_enum {s : State} {args : Array Value} {C n d K : String} (hx : (Jvm.Cond.exactly (.static C n d) K).value args s none s [] = some true) (w1 : (Jvm.Cond.initialized C).before args s = true) (w2 : (Jvm.Cond.laysStatic C n d).before args s = true) :
    ∃ a, (Term.static C n d).eval args s none [] s = some (.ref a) ∧ Sta s s.heap C n d (.ref a) ∧ Exa s s.heap a K := by
  obtain ⟨a, ev⟩ := exa_v hx
  exact ⟨a, ev, Sta.start ev (Or.inr ⟨w1, w2⟩), Exa.start ev hx⟩
theorem own_efld {s : State} {args : Array Value} {t : Term} {C n d : String} {a : Addr} {k : Int32} (ev : t.eval args s none [] s = some (.ref a)) (h : (Jvm.Cond.eq (.field t C n d) (.int k)).value args s none s [] = some true) : Fld s s.heap a C n d (.int k) := by
  obtain ⟨x, y, h1, h2, h3, h4⟩ := cmp_v (Or.inl h)
  have h2' : y = .int k := (Option.some.inj h2).symm
  subst h2'
  obtain ⟨z, rfl⟩ := h4
  have q : (Jvm.Cond.eq (.field t C n d) (.int k)).value args s none s [] = some (decide (z = k)) := by simp [Cond.value, h1, h2]
  have e := gotT q h
  subst e
  exact Fld.start ((fld_at ev).symm.trans h1)
theorem own_sta_keep {h' : Heap} {C n d : String} {v : Value} {ws : List Addr} (F : Sta Z h C n d v) (K : Keep h h' ws) (q : ∀ x ∈ ws, ∀ cell : Cell, h[x]? = some cell → cell.vm.isStatics = false) : Sta Z h' C n d v := by
  obtain ⟨cf, i, k, f, st, cell, h1, h2, h3, h4, h5, h6, h7⟩ := F
  exact ⟨cf, i, k, f, st, cell, h1, h2, h3, h4, K.2.1 _ _ h5 (fun r => by rw [q _ r _ h5] at h6; cases h6), h6, h7⟩
theorem own_plain {a : Addr} {C : String} (F : Exa Z h a C) : ∀ cell : Cell, h[a]? = some cell → cell.vm.isStatics = false := fun cell hc => by
  obtain ⟨c', k, h1, h2, h3, h4, h5⟩ := F
  cases h1.symm.trans hc
  exact h4
theorem nar_b0 : nar .boolean 0 = 0 := by decide
theorem nar_b1 : nar .boolean 1 = 1 := by decide
theorem nar_bite {P : Prop} [Decidable P] {x y : Int32} : nar .boolean (if P then x else y) = if P then nar .boolean x else nar .boolean y := by split <;> rfl
end OwnGo
end Jvm.RoadKit
namespace Jvm.RoadKit
open Sem ClassFile Op Lib Jvm.Stand Jvm.Free Jvm.LawKit
section OwnVec
variable {p : Program} {l : Launch} {e : Env} {R : Room} {s : State} {m : MethodId} {args : Array Value} {below : List Frame} {meth : Method} {c : Code} {T : State} {locs : List Loc} {cells slots : Nat} {Z : State} {h h' : Heap} {a b : Addr} {k : ClassId} {z j : Int32} {vs : List Value} {dv : Value} {ty : FieldType}
theorem Arv.ldJ (X : Stand p l e R s m args below meth c T locs cells slots) (hx : p.tables.exec = Jvm.exec) (hZ : Z.Warmed39 s.vm) (eT : T.heap = h) (F : Arv Z h a k .long z vs dv) (hj : ¬ j < 0 ∧ j < z) {v : Value} (hv : vs.getD j.toNatClampNeg dv = v)
    {g : JFrame} (hg : g.method = m) {rest : List Value} (hs : g.stack = .int j :: .ref a :: rest) (hd : decode c.code g.pc = .ok (.laload, 1)) :
    ∀ target, Steps p.tables e below (T.setTop { g with pc := g.pc + 1, stack := v :: rest }) target → Steps p.tables e below (T.setTop g) target := by
  obtain ⟨cl, A, q1, S, q3, H, G⟩ := F
  exact X.laload hx (j := j) (v := v) (by rw [eT]; exact A.1) (State.isArrayOf_alike hZ.alike A.2.1) A.2.2 (inb_of S hj) (H.at (inb_of S hj) hv) (g := g) hg hs hd
theorem Arv.ldD (X : Stand p l e R s m args below meth c T locs cells slots) (hx : p.tables.exec = Jvm.exec) (hZ : Z.Warmed39 s.vm) (eT : T.heap = h) (F : Arv Z h a k .double z vs dv) (hj : ¬ j < 0 ∧ j < z) {v : Value} (hv : vs.getD j.toNatClampNeg dv = v)
    {g : JFrame} (hg : g.method = m) {rest : List Value} (hs : g.stack = .int j :: .ref a :: rest) (hd : decode c.code g.pc = .ok (.daload, 1)) :
    ∀ target, Steps p.tables e below (T.setTop { g with pc := g.pc + 1, stack := v :: rest }) target → Steps p.tables e below (T.setTop g) target := by
  obtain ⟨cl, A, q1, S, q3, H, G⟩ := F
  exact X.daload hx (j := j) (v := v) (by rw [eT]; exact A.1) (State.isArrayOf_alike hZ.alike A.2.1) A.2.2 (inb_of S hj) (H.at (inb_of S hj) hv) (g := g) hg hs hd
theorem Arv.ldR (X : Stand p l e R s m args below meth c T locs cells slots) (hx : p.tables.exec = Jvm.exec) (hZ : Z.Warmed39 s.vm) (eT : T.heap = h) (F : Arv Z h a k ty z vs dv) (ht : ty.isReference = true) (hj : ¬ j < 0 ∧ j < z) {v : Value} (hv : vs.getD j.toNatClampNeg dv = v)
    {g : JFrame} (hg : g.method = m) {rest : List Value} (hs : g.stack = .int j :: .ref a :: rest) (hd : decode c.code g.pc = .ok (.aaload, 1)) :
    ∀ target, Steps p.tables e below (T.setTop { g with pc := g.pc + 1, stack := v :: rest }) target → Steps p.tables e below (T.setTop g) target := by
  obtain ⟨cl, A, q1, S, q3, H, G⟩ := F
  exact X.aaload hx (j := j) (v := v) (by rw [eT]; exact A.1) (State.isArrayOf_alike hZ.alike A.2.1) ht A.2.2 (inb_of S hj) (H.at (inb_of S hj) hv) (g := g) hg hs hd
theorem Arv.stJ' (X : Stand p l e R s m args below meth c T locs cells slots) (hx : p.tables.exec = Jvm.exec) (hZ : Z.Warmed39 s.vm) (eT : T.heap = h) (F : Arv Z h a k .long z vs dv) (hj : ¬ j < 0 ∧ j < z) {x : Int64} (i : Nat) (hi : j.toNatClampNeg = i) (hl : i < vs.length)
    {g : JFrame} (hg : g.method = m) {rest : List Value} (hs : g.stack = .long x :: .int j :: .ref a :: rest) (hd : decode c.code g.pc = .ok (.lastore, 1)) :
    ∃ T' h', Stand p l e R s m args below meth c T' (locs ++ [⟨a, j.toNatClampNeg⟩]) cells slots ∧ T'.heap = h' ∧ Wr h h' a j.toNatClampNeg (.long x) ∧ Arv Z h' a k .long z (vs.set i (.long x)) dv ∧ ∀ target, Steps p.tables e below (T'.setTop { g with pc := g.pc + 1, stack := rest }) target → Steps p.tables e below (T.setTop g) target := by
  obtain ⟨cl, A, q1, S, q3, H, G⟩ := F
  obtain ⟨T', h', X', e', W, st⟩ := stJ X hx hZ eT A (j := j) (x := x) (inb_of S hj) (g := g) hg hs hd
  exact ⟨T', h', X', e', W, Arv.set A q1 S q3 H G rfl W i hi hl, st⟩
theorem Arv.stD' (X : Stand p l e R s m args below meth c T locs cells slots) (hx : p.tables.exec = Jvm.exec) (hZ : Z.Warmed39 s.vm) (eT : T.heap = h) (F : Arv Z h a k .double z vs dv) (hj : ¬ j < 0 ∧ j < z) {x : UInt64} (i : Nat) (hi : j.toNatClampNeg = i) (hl : i < vs.length)
    {g : JFrame} (hg : g.method = m) {rest : List Value} (hs : g.stack = .double x :: .int j :: .ref a :: rest) (hd : decode c.code g.pc = .ok (.dastore, 1)) :
    ∃ T' h', Stand p l e R s m args below meth c T' (locs ++ [⟨a, j.toNatClampNeg⟩]) cells slots ∧ T'.heap = h' ∧ Wr h h' a j.toNatClampNeg (.double x) ∧ Arv Z h' a k .double z (vs.set i (.double x)) dv ∧ ∀ target, Steps p.tables e below (T'.setTop { g with pc := g.pc + 1, stack := rest }) target → Steps p.tables e below (T.setTop g) target := by
  obtain ⟨cl, A, q1, S, q3, H, G⟩ := F
  obtain ⟨T', h', X', e', W, st⟩ := stD X hx hZ eT A (j := j) (x := x) (inb_of S hj) (g := g) hg hs hd
  exact ⟨T', h', X', e', W, Arv.set A q1 S q3 H G rfl W i hi hl, st⟩
theorem Arv.stR' {O : String} {y : Addr} (X : Stand p l e R s m args below meth c T locs cells slots) (hx : p.tables.exec = Jvm.exec) (hZ : Z.Warmed39 s.vm) (eT : T.heap = h) (F : Arv Z h a k (.object O) z vs dv) (hO : Ovr Z k O) (hI : Exa Z h y O) (hj : ¬ j < 0 ∧ j < z) (i : Nat) (hi : j.toNatClampNeg = i) (hl : i < vs.length)
    {g : JFrame} (hg : g.method = m) {rest : List Value} (hs : g.stack = .ref y :: .int j :: .ref a :: rest) (hd : decode c.code g.pc = .ok (.aastore, 1)) :
    ∃ T' h', Stand p l e R s m args below meth c T' (locs ++ [⟨a, j.toNatClampNeg⟩]) cells slots ∧ T'.heap = h' ∧ Wr h h' a j.toNatClampNeg (.ref y) ∧ Arv Z h' a k (.object O) z (vs.set i (.ref y)) dv ∧ ∀ target, Steps p.tables e below (T'.setTop { g with pc := g.pc + 1, stack := rest }) target → Steps p.tables e below (T.setTop g) target := by
  obtain ⟨cl, A, q1, S, q3, H, G⟩ := F
  obtain ⟨T', h', X', e', W, st⟩ := stR X hx hZ eT A (j := j) (v := .ref y) (inb_of S hj) rfl (Sto.ofV A q1 hO (Ins.self hI)) (g := g) hg hs hd
  exact ⟨T', h', X', e', W, Arv.set A q1 S q3 H G rfl W i hi hl, st⟩
theorem Arv.len' (X : Stand p l e R s m args below meth c T locs cells slots) (hx : p.tables.exec = Jvm.exec) (hZ : Z.Warmed39 s.vm) (eT : T.heap = h) (F : Arv Z h a k ty z vs dv)
    {g : JFrame} (hg : g.method = m) {rest : List Value} (hs : g.stack = .ref a :: rest) (hd : decode c.code g.pc = .ok (.arraylength, 1)) :
    ∀ target, Steps p.tables e below (T.setTop { g with pc := g.pc + 1, stack := .int z :: rest }) target → Steps p.tables e below (T.setTop g) target := by
  obtain ⟨cl, A, q1, S, q3, H, G⟩ := F
  have r := X.arraylength hx (by rw [eT]; exact A.1) (State.isArrayOf_alike hZ.alike A.2.1) (g := g) hg hs hd
  rw [len_of S q3] at r
  exact r
end OwnVec
end Jvm.RoadKit
namespace Jvm.RoadKit
open Sem ClassFile Op Lib Jvm.Stand Jvm.Free Jvm.LawKit
section OwnHeld
variable {p : Program} {l : Launch} {e : Env} {R : Room} {s : State} {m : MethodId} {args : Array Value} {below : List Frame} {meth : Method} {c : Code} {T : State} {locs : List Loc} {cells slots : Nat} {Z : State} {a0 : Array Value} {h h1 : Heap} {kc ks : Nat} {Q : Option Value → Heap → List Loc → Prop} {G : Outcome → State → Prop} {U U' : State} {EL : List (String × Nat)}
/-- a byte array's place read -/
theorem Arv.ldB {a : Addr} {k : ClassId} {z j : Int32} {vs : List Value} {dv : Value} (X : Stand p l e R s m args below meth c T locs cells slots) (hx : p.tables.exec = Jvm.exec) (hZ : Z.Warmed39 s.vm) (eT : T.heap = h) (F : Arv Z h a k .byte z vs dv) (hj : ¬ j < 0 ∧ j < z) {v : Value} (hv : vs.getD j.toNatClampNeg dv = v)
    {g : JFrame} (hg : g.method = m) {rest : List Value} (hs : g.stack = .int j :: .ref a :: rest) (hd : decode c.code g.pc = .ok (.baload, 1)) :
    ∀ target, Steps p.tables e below (T.setTop { g with pc := g.pc + 1, stack := v :: rest }) target → Steps p.tables e below (T.setTop g) target := by
  obtain ⟨cl, A, q1, S, q3, H, G⟩ := F
  exact X.baloadBytes hx (j := j) (v := v) (by rw [eT]; exact A.1) (State.isArrayOf_alike hZ.alike A.2.1) A.2.2 (inb_of S hj) (H.at (inb_of S hj) hv) (g := g) hg hs hd
/-- it returned, Q says what, String constants may have come to be interned, and the assumed words on them go on -/
def OEndH (Z : State) (EL : List (String × Nat)) (s : State) (kc ks : Nat) (Q : Option Value → Heap → List Loc → Prop) (o : Outcome) (t : State) : Prop := ∃ v L, o = .returned v ∧ Q v t.heap L ∧ CHr Z EL s.vm s.heap t.vm t.heap ∧ ReturnedEndW s o t L kc ks
theorem OGo.retH {vm₁ : Vm} {n : Nat} (X : Stand p l e R (s.setVm vm₁) m args below meth c T locs cells slots) (hS : s.Since vm₁ n) (hn : n ≤ T.heap.size) (hZ : Z.Warmed39 vm₁) (hEL : EW Z a0 EL) (hs0 : s.heap = h) (hC : CHr Z EL s.vm h vm₁ T.heap) {v : Option Value} {g : JFrame} (hv : meth.sig.returnType = none → v = none) (hlk : meth.locks = false)
    (hs : ∀ fs, (∀ (f : JFrame) (acts : List Action), f.method = m → f.locked = none → f.entered = [] → (doReturn e (T.setTop f) acts v).1 = T.setFrames fs) → Steps p.tables e below (T.setTop g) (T.setFrames fs))
    (hQ : Q v T.heap locs) (hc : cells ≤ kc) (hl : slots ≤ ks) : OGo p e below (OEndH Z EL s kc ks Q) (T.setTop g) := by
  have hC' := hC.trans (CHv.at X hZ hEL hC.1)
  obtain ⟨fs, hr, hrun, hended, h1, h2, h3, h4⟩ := X.leaveW hS hn (v := v) hv hlk
  exact ⟨_, _, hs fs hr, hrun, hended, v, locs, rfl, hQ, by rw [hs0]; exact hC', h1, h2, h3, h4.mono hc hl⟩
theorem OGo.retNH {vm₁ : Vm} {n : Nat} (X : Stand p l e R (s.setVm vm₁) m args below meth c T locs cells slots) (hS : s.Since vm₁ n) (eT : T.heap = h1) (hn : n ≤ h1.size) (hZ : Z.Warmed39 vm₁) (hEL : EW Z a0 EL) (hs0 : s.heap = h) (hC : CHr Z EL s.vm h vm₁ h1) (hx : p.tables.exec = Jvm.exec) {pc : Nat} {Ls : Array Slot} {z : Int32} {t : FieldType} {rest : List Value} (hret : meth.sig.returnType = some t) (hlk : meth.locks = false) (ht : t = .boolean ∨ t = .byte ∨ t = .char ∨ t = .short)
    (hd : decode c.code pc = .ok (.ireturn, 1)) (hQ : Q (some (.int (nar t z))) h1 locs) (hc : cells ≤ kc) (hl : slots ≤ ks) : OGo p e below (OEndH Z EL s kc ks Q) (T.setTop (mkF m pc Ls (.int z :: rest))) := by
  subst eT
  exact OGo.retH X hS hn hZ hEL hs0 hC (fun q => by rw [hret] at q; cases q) hlk (fun fs hr => Jvm.RoadKit.retN X hx hret ht hd hr) hQ hc hl
/-- the contract of a body that may load String constants of EL -/
def OMetH (l : Launch) (Z : State) (EL : List (String × Nat)) (y : MethodName) (bytes : ByteArray) (maxL : Nat) (ret : Option FieldType) (ws : List Jvm.Cond) (rm : Room) (as : Array Value) (h0 : Heap) (Q : Option Value → Heap → List Loc → Prop) : Prop :=
  MetFree l y (head1 (Jvm.Cond.code y bytes maxL ret :: ws) rm) (fun a U => a = as ∧ Z.Warmed39 U.vm ∧ U.heap = h0 ∧ CHv Z EL U.vm h0) (fun _ _ _ _ _ => True) (fun _ U o U' => ∃ v L, o = .returned v ∧ Q v U'.heap L ∧ CHr Z EL U.vm U.heap U'.vm U'.heap ∧ ReturnedEndW U o U' L rm.cells rm.slots)
theorem OMetH.of {y : MethodName} {bytes : ByteArray} {maxL : Nat} {ret : Option FieldType} {ws : List Jvm.Cond} {rm : Room} {as : Array Value} {h0 : Heap} (hpn : plainFor y = true)
    (H : ∀ (p : Program) (e : Env) (s : State) (m : MethodId) (below : List Frame) (meth : Method) (c : Code) (T0 : State), Stand p l e rm s m as below meth c T0 [] 0 0 → p.tables.exec = Jvm.exec → c.code = bytes → c.maxLocals = maxL → s.vm.findClass y.cls = some m.cls → meth.name = y.name → meth.sig.returnType = ret → meth.locks = false → Z.Warmed39 s.vm → T0.heap = h0 → s.heap = h0 → CHv Z EL s.vm h0 →
      OGo p e below (OEndH Z EL s rm.cells rm.slots Q) (T0.setTop (entryFrame m as maxL))) : OMetH l Z EL y bytes maxL ret ws rm as h0 Q := by
  refine MetFree.of_bodySF hpn hisR ?_
  intro p e s m args below meth c s₁ Bd hml0 hP hK
  obtain ⟨rfl, hZ, hh, hC⟩ := hP
  exact H p e s m below meth c s₁ (Stand.of_body Bd) Bd.exec Bd.bytes hml0 (findClass_of_methodNamed Bd.named) (name_of_methodNamed Bd.named Bd.method).1 Bd.returns Bd.notSynchronized hZ (by rw [← hh, Bd.state]; rfl) hh hC
/-- a call of a static method that may load String constants of EL -/
theorem OGo.callSH {vm0 : Vm} {k0 : Nat} (X : Stand p l e R (s.setVm vm0) m args below meth c T locs cells slots) (hx : p.tables.exec = Jvm.exec) (hZ : Z.Warmed39 vm0) (hS : s.Since vm0 k0) (hk : k0 ≤ h.size) (hEL : EW Z a0 EL) (hC : CHv Z EL vm0 h) {own : String} {index : Nat} {y : MethodName} {bytes : ByteArray} {maxL : Nat} {ret : Option FieldType}
    (hown : vm0.findClass own = some m.cls) (w1 : (Jvm.Cond.methodLink own index y).before a0 Z = true) (w2 : (Jvm.Cond.static y).before a0 Z = true) (w3 : (Jvm.Cond.initialized y.cls).before a0 Z = true) (w4 : (Jvm.Cond.code y bytes maxL ret).before a0 Z = true)
    (hy : y.cls ≠ "java/lang/invoke/MethodHandle" ∧ y.cls ≠ "java/lang/invoke/VarHandle") {g : JFrame} {argsL rest : List Value} {rm : Room} {Q' : Option Value → Heap → List Loc → Prop} (eT : T.heap = h) (hM : OMetH l Z EL y bytes maxL ret [] rm argsL.toArray h Q')
    (hg : g.method = m) (hsize : g.locals.size = c.maxLocals) (hlen : ∀ sig, parseMethodDescriptor y.desc = some sig → argsL.length = sig.parameters.length) (hstack : g.stack = argsL.reverse ++ rest) {W : Nat} (hW : 2 * g.monitorRoom + (rest.map fun v => v.category).sum ≤ W) (hd : decode c.code g.pc = .ok (.invokestatic index, 3))
    (hf : rm.frames + 1 ≤ R.frames) (hl : W + (maxL + 11) + rm.locals ≤ R.locals) (hc : cells + rm.cells ≤ R.cells) (hs : slots + rm.slots ≤ R.slots)
    (k : ∀ (v : Option Value) (T' : State) (L' : List Loc), Stand p l e R (s.setVm T'.vm) m args below meth c T' (locs ++ L') (cells + rm.cells) (slots + rm.slots) → Q' v T'.heap L' → s.Since T'.vm T'.heap.size → Z.Warmed39 T'.vm → T'.vm.findClass own = some m.cls → CHr Z EL vm0 h T'.vm T'.heap → OGo p e below G (T'.setTop { g with pc := g.pc + 3, stack := v.toList ++ rest })) : OGo p e below G (T.setTop g) := by
  have hZ' : Z.Warmed39 (s.setVm vm0).vm := hZ
  obtain ⟨v, vm₁, B, hW₁, X', hS', hgr, ⟨L, hQ, e1, e2, e3, hC'⟩, st⟩ := Jvm.RoadKit.callSS X hx (y := y) hown (mvT hZ' w1) (mvT hZ' w2) (mvT hZ' w3) (mvT hZ' w4) hy (backOfSH (s := s) (W := W) hM hZ w4 w3 hf hl hEL hC) (g := g) hg hsize (argsL := argsL) (rest := rest) hlen hstack hW hd (fun _ _ => ⟨rfl, eT, hc, hs⟩)
  rw [e1, e2, e3] at X'
  subst eT
  exact OGo.trans st (k v B.U L X' hQ (hS.trans hS' (Nat.le_trans hk hgr)) (State.Warmed39.trans (t := s.setVm vm0) hZ hS'.1) ((hS'.1.alike.findClass _ _).trans hown) hC')
/-- a char array's place read, a char array's and a byte array's place written -/
theorem Arv.ldC {a : Addr} {k : ClassId} {z j : Int32} {vs : List Value} {dv : Value} (X : Stand p l e R s m args below meth c T locs cells slots) (hx : p.tables.exec = Jvm.exec) (hZ : Z.Warmed39 s.vm) (eT : T.heap = h) (F : Arv Z h a k .char z vs dv) (hj : ¬ j < 0 ∧ j < z) {v : Value} (hv : vs.getD j.toNatClampNeg dv = v)
    {g : JFrame} (hg : g.method = m) {rest : List Value} (hs : g.stack = .int j :: .ref a :: rest) (hd : decode c.code g.pc = .ok (.caload, 1)) :
    ∀ target, Steps p.tables e below (T.setTop { g with pc := g.pc + 1, stack := v :: rest }) target → Steps p.tables e below (T.setTop g) target := by
  obtain ⟨cl, A, q1, S, q3, H, G⟩ := F
  exact X.caload hx (j := j) (v := v) (by rw [eT]; exact A.1) (State.isArrayOf_alike hZ.alike A.2.1) A.2.2 (inb_of S hj) (H.at (inb_of S hj) hv) (g := g) hg hs hd
theorem Arv.stC' {a : Addr} {k : ClassId} {z j : Int32} {vs : List Value} {dv : Value} (X : Stand p l e R s m args below meth c T locs cells slots) (hx : p.tables.exec = Jvm.exec) (hZ : Z.Warmed39 s.vm) (eT : T.heap = h) (F : Arv Z h a k .char z vs dv) (hj : ¬ j < 0 ∧ j < z) {x : Int32} (i : Nat) (hi : j.toNatClampNeg = i) (hl : i < vs.length)
    {g : JFrame} (hg : g.method = m) {rest : List Value} (hs : g.stack = .int x :: .int j :: .ref a :: rest) (hd : decode c.code g.pc = .ok (.castore, 1)) :
    ∃ T' h', Stand p l e R s m args below meth c T' (locs ++ [⟨a, j.toNatClampNeg⟩]) cells slots ∧ T'.heap = h' ∧ Wr h h' a j.toNatClampNeg (.int (nar .char x)) ∧ Arv Z h' a k .char z (vs.set i (.int (nar .char x))) dv ∧ ∀ target, Steps p.tables e below (T'.setTop { g with pc := g.pc + 1, stack := rest }) target → Steps p.tables e below (T.setTop g) target := by
  obtain ⟨cl, A, q1, S, q3, H, G⟩ := F
  obtain ⟨T', h', X', e', W, st⟩ := stC X hx hZ eT A (j := j) (x := x) (inb_of S hj) (g := g) hg hs hd
  exact ⟨T', h', X', e', W, Arv.set A q1 S q3 H G (fits_nar_char _) W i hi hl, st⟩
theorem Arv.stB' {a : Addr} {k : ClassId} {z j : Int32} {vs : List Value} {dv : Value} (X : Stand p l e R s m args below meth c T locs cells slots) (hx : p.tables.exec = Jvm.exec) (hZ : Z.Warmed39 s.vm) (eT : T.heap = h) (F : Arv Z h a k .byte z vs dv) (hj : ¬ j < 0 ∧ j < z) {x : Int32} (i : Nat) (hi : j.toNatClampNeg = i) (hl : i < vs.length)
    {g : JFrame} (hg : g.method = m) {rest : List Value} (hs : g.stack = .int x :: .int j :: .ref a :: rest) (hd : decode c.code g.pc = .ok (.bastore, 1)) :
    ∃ T' h', Stand p l e R s m args below meth c T' (locs ++ [⟨a, j.toNatClampNeg⟩]) cells slots ∧ T'.heap = h' ∧ Wr h h' a j.toNatClampNeg (.int (nar .byte x)) ∧ Arv Z h' a k .byte z (vs.set i (.int (nar .byte x))) dv ∧ ∀ target, Steps p.tables e below (T'.setTop { g with pc := g.pc + 1, stack := rest }) target → Steps p.tables e below (T.setTop g) target := by
  obtain ⟨cl, A, q1, S, q3, H, G⟩ := F
  obtain ⟨T', h', X', e', W, st⟩ := stB X hx hZ eT A (j := j) (x := x) (inb_of S hj) (g := g) hg hs hd
  exact ⟨T', h', X', e', W, Arv.set A q1 S q3 H G (fits_nar_byte _) W i hi hl, st⟩
/-- the contract of a body that loads String constants of EL, where nobody asks of them behind it -/
def OMetV (l : Launch) (Z : State) (EL : List (String × Nat)) (y : MethodName) (bytes : ByteArray) (maxL : Nat) (ret : Option FieldType) (ws : List Jvm.Cond) (rm : Room) (as : Array Value) (h0 : Heap) (Q : Option Value → Heap → List Loc → Prop) : Prop :=
  MetFree l y (head1 (Jvm.Cond.code y bytes maxL ret :: ws) rm) (fun a U => a = as ∧ Z.Warmed39 U.vm ∧ U.heap = h0 ∧ CHv Z EL U.vm h0) (fun _ _ _ _ _ => True) (fun _ U o U' => ∃ v L, o = .returned v ∧ Q v U'.heap L ∧ ReturnedEndW U o U' L rm.cells rm.slots)
theorem OMetV.of {y : MethodName} {bytes : ByteArray} {maxL : Nat} {ret : Option FieldType} {ws : List Jvm.Cond} {rm : Room} {as : Array Value} {h0 : Heap} (hpn : plainFor y = true)
    (H : ∀ (p : Program) (e : Env) (s : State) (m : MethodId) (below : List Frame) (meth : Method) (c : Code) (T0 : State), Stand p l e rm s m as below meth c T0 [] 0 0 → p.tables.exec = Jvm.exec → c.code = bytes → c.maxLocals = maxL → s.vm.findClass y.cls = some m.cls → meth.name = y.name → meth.sig.returnType = ret → meth.locks = false → Z.Warmed39 s.vm → T0.heap = h0 → s.heap = h0 → CHv Z EL s.vm h0 →
      OGo p e below (OEndW s rm.cells rm.slots Q) (T0.setTop (entryFrame m as maxL))) : OMetV l Z EL y bytes maxL ret ws rm as h0 Q := by
  refine MetFree.of_bodySF hpn hisR ?_
  intro p e s m args below meth c s₁ Bd hml0 hP hK
  obtain ⟨rfl, hZ, hh, hC⟩ := hP
  exact H p e s m below meth c s₁ (Stand.of_body Bd) Bd.exec Bd.bytes hml0 (findClass_of_methodNamed Bd.named) (name_of_methodNamed Bd.named Bd.method).1 Bd.returns Bd.notSynchronized hZ (by rw [← hh, Bd.state]; rfl) hh hC
theorem own_backV {vm0 : Vm} {y : MethodName} {bytes : ByteArray} {maxL : Nat} {ret : Option FieldType} {rm : Room} {len W : Nat} {as' : Array Value} (hM : OMetV l Z EL y bytes maxL ret [] rm as' h Q)
    (hZ : Z.Warmed39 vm0) (wc : (Jvm.Cond.code y bytes maxL ret).before a0 Z = true) (wz : (Jvm.Cond.initialized y.cls).before a0 Z = true) (hf : rm.frames + 1 ≤ R.frames) (hl : W + (maxL + 11) + rm.locals ≤ R.locals) (hEL : EW Z a0 EL) (H : CHv Z EL vm0 h) :
    BackS l R p e below (s.setVm vm0) args y len W (fun A a => a = as' ∧ A.U.heap = h ∧ A.cells + rm.cells ≤ R.cells ∧ A.slots + rm.slots ≤ R.slots)
      (fun A _ v B => ∃ L, Q v B.U.heap L ∧ B.locs = A.locs ++ L ∧ B.cells = A.cells + rm.cells ∧ B.slots = A.slots + rm.slots) :=
  BackS.of_freeW (bytes := bytes) (maxL := maxL) (ret := ret) (E := fun _ _ o t L k n => k = rm.cells ∧ n = rm.slots ∧ ∃ v, o = .returned v ∧ Q v t.heap L) hM hf hl
    (fun m meth c A a Y hp => have hU : Z.Warmed39 A.U.vm := wtrans (s := s.setVm vm0) hZ Y.warmed
      ⟨by show (Jvm.Cond.and _ .tt).before a A.U = true; rw [Cond.before_and, mv hU wc]; rfl, mv hU wc, mv hU wz, hp.2.2.1, hp.2.2.2⟩)
    (fun m meth c A a g mk Y hp => ⟨hp.1, wtrans (s := s.setVm vm0) hZ Y.warmed, hp.2.1, (CHv.at Y hZ hEL H).1⟩) (fun _ _ _ _ _ _ _ _ _ => trivial)
    (fun _ _ _ _ ⟨v, L, h1, h2, h3⟩ => ⟨L, _, _, h3, rfl, rfl, v, h1, h2⟩)
    (fun m meth c A a g mk v t L k n Y hp _ _ ⟨e1, e2, v', e3, e4⟩ => by cases e3; subst e1 e2; exact ⟨L, e4, rfl, rfl, rfl⟩)
theorem OGo.callSV {vm0 : Vm} {k0 : Nat} (X : Stand p l e R (s.setVm vm0) m args below meth c T locs cells slots) (hx : p.tables.exec = Jvm.exec) (hZ : Z.Warmed39 vm0) (hS : s.Since vm0 k0) (hk : k0 ≤ h.size) (hEL : EW Z a0 EL) (hC : CHv Z EL vm0 h) {own : String} {index : Nat} {y : MethodName} {bytes : ByteArray} {maxL : Nat} {ret : Option FieldType}
    (hown : vm0.findClass own = some m.cls) (w1 : (Jvm.Cond.methodLink own index y).before a0 Z = true) (w2 : (Jvm.Cond.static y).before a0 Z = true) (w3 : (Jvm.Cond.initialized y.cls).before a0 Z = true) (w4 : (Jvm.Cond.code y bytes maxL ret).before a0 Z = true)
    (hy : y.cls ≠ "java/lang/invoke/MethodHandle" ∧ y.cls ≠ "java/lang/invoke/VarHandle") {g : JFrame} {argsL rest : List Value} {rm : Room} {Q' : Option Value → Heap → List Loc → Prop} (eT : T.heap = h) (hM : OMetV l Z EL y bytes maxL ret [] rm argsL.toArray h Q')
    (hg : g.method = m) (hsize : g.locals.size = c.maxLocals) (hlen : ∀ sig, parseMethodDescriptor y.desc = some sig → argsL.length = sig.parameters.length) (hstack : g.stack = argsL.reverse ++ rest) {W : Nat} (hW : 2 * g.monitorRoom + (rest.map fun v => v.category).sum ≤ W) (hd : decode c.code g.pc = .ok (.invokestatic index, 3))
    (hf : rm.frames + 1 ≤ R.frames) (hl : W + (maxL + 11) + rm.locals ≤ R.locals) (hc : cells + rm.cells ≤ R.cells) (hs : slots + rm.slots ≤ R.slots)
    (k : ∀ (v : Option Value) (T' : State) (L' : List Loc), Stand p l e R (s.setVm T'.vm) m args below meth c T' (locs ++ L') (cells + rm.cells) (slots + rm.slots) → Q' v T'.heap L' → s.Since T'.vm T'.heap.size → Z.Warmed39 T'.vm → T'.vm.findClass own = some m.cls → OGo p e below G (T'.setTop { g with pc := g.pc + 3, stack := v.toList ++ rest })) : OGo p e below G (T.setTop g) := by
  have hZ' : Z.Warmed39 (s.setVm vm0).vm := hZ
  obtain ⟨v, vm₁, B, hW₁, X', hS', hgr, ⟨L, hQ, e1, e2, e3⟩, st⟩ := Jvm.RoadKit.callSS X hx (y := y) hown (mvT hZ' w1) (mvT hZ' w2) (mvT hZ' w3) (mvT hZ' w4) hy (own_backV (s := s) (W := W) hM hZ w4 w3 hf hl hEL hC) (g := g) hg hsize (argsL := argsL) (rest := rest) hlen hstack hW hd (fun _ _ => ⟨rfl, eT, hc, hs⟩)
  rw [e1, e2, e3] at X'
  subst eT
  exact OGo.trans st (k v B.U L X' hQ (hS.trans hS' (Nat.le_trans hk hgr)) (State.Warmed39.trans (t := s.setVm vm0) hZ hS'.1) ((hS'.1.alike.findClass _ _).trans hown))
theorem OGo.retAW {vm₁ : Vm} {n : Nat} (X : Stand p l e R (s.setVm vm₁) m args below meth c T locs cells slots) (hS : s.Since vm₁ n) (hn : n ≤ T.heap.size) (hx : p.tables.exec = Jvm.exec) {pc : Nat} {Ls : Array Slot} {w : Value} {t : FieldType} {rest : List Value} (hret : meth.sig.returnType = some t) (hlk : meth.locks = false) (ht : t.isReference = true) (hw : w.isRef = true)
    (hd : decode c.code pc = .ok (.areturn, 1)) (hQ : Q (some w) T.heap locs) (hc : cells ≤ kc) (hl : slots ≤ ks) : OGo p e below (OEndW s kc ks Q) (T.setTop (mkF m pc Ls (w :: rest))) :=
  OGo.retW X hS hn (fun q => by rw [hret] at q; cases q) hlk (fun fs hr => Jvm.RoadKit.retOut X hx hret (by cases t <;> first | (cases ht; done) | (cases w <;> first | rfl | (cases hw; done))) (Or.inr (Or.inr (Or.inr (Or.inr ⟨rfl, ht, hw⟩)))) hd hr) hQ hc hl
end OwnHeld
end Jvm.RoadKit
namespace Jvm.RoadKit
open Sem ClassFile Op Lib Jvm.Stand Jvm.Free Jvm.LawKit
section OwnHeld2
variable {p : Program} {l : Launch} {e : Env} {R : Room} {s : State} {m : MethodId} {args : Array Value} {below : List Frame} {meth : Method} {c : Code} {T : State} {locs : List Loc} {cells slots : Nat} {Z : State} {a0 : Array Value} {h h1 : Heap} {kc ks : Nat} {Q : Option Value → Heap → List Loc → Prop} {G : Outcome → State → Prop} {U U' : State} {EL : List (String × Nat)} {D : List Addr}
theorem OGo.retAH {vm₁ : Vm} {n : Nat} (X : Stand p l e R (s.setVm vm₁) m args below meth c T locs cells slots) (hS : s.Since vm₁ n) (eT : T.heap = h1) (hn : n ≤ h1.size) (hZ : Z.Warmed39 vm₁) (hEL : EW Z a0 EL) (hs0 : s.heap = h) (hC : CHr Z EL s.vm h vm₁ h1) (hx : p.tables.exec = Jvm.exec) {pc : Nat} {Ls : Array Slot} {w : Value} {t : FieldType} {rest : List Value} (hret : meth.sig.returnType = some t) (hlk : meth.locks = false) (ht : t.isReference = true) (hw : w.isRef = true)
    (hd : decode c.code pc = .ok (.areturn, 1)) (hQ : Q (some w) h1 locs) (hc : cells ≤ kc) (hl : slots ≤ ks) : OGo p e below (OEndH Z EL s kc ks Q) (T.setTop (mkF m pc Ls (w :: rest))) := by
  subst eT
  exact OGo.retH X hS hn hZ hEL hs0 hC (fun q => by rw [hret] at q; cases q) hlk (fun fs hr => Jvm.RoadKit.retOut X hx hret (by cases t <;> first | (cases ht; done) | (cases w <;> first | rfl | (cases hw; done))) (Or.inr (Or.inr (Or.inr (Or.inr ⟨rfl, ht, hw⟩)))) hd hr) hQ hc hl
theorem OGo.ret0H {vm₁ : Vm} {n : Nat} (X : Stand p l e R (s.setVm vm₁) m args below meth c T locs cells slots) (hS : s.Since vm₁ n) (eT : T.heap = h1) (hn : n ≤ h1.size) (hZ : Z.Warmed39 vm₁) (hEL : EW Z a0 EL) (hs0 : s.heap = h) (hC : CHr Z EL s.vm h vm₁ h1) (hx : p.tables.exec = Jvm.exec) {pc : Nat} {Ls : Array Slot} (hret : meth.sig.returnType = none) (hlk : meth.locks = false)
    (hd : decode c.code pc = .ok (.return_, 1)) (hQ : Q none h1 locs) (hc : cells ≤ kc) (hl : slots ≤ ks) : OGo p e below (OEndH Z EL s kc ks Q) (T.setTop (mkF m pc Ls [])) := by
  subst eT
  exact OGo.retH X hS hn hZ hEL hs0 hC (fun _ => rfl) hlk (fun fs hr => X.returnOut hx hret hd hr) hQ hc hl
/-- the contract of a body that may load String constants of EL, and that asks that the cells D are none of theirs -/
def OMetK (l : Launch) (Z : State) (EL : List (String × Nat)) (D : List Addr) (y : MethodName) (bytes : ByteArray) (maxL : Nat) (ret : Option FieldType) (ws : List Jvm.Cond) (rm : Room) (as : Array Value) (h0 : Heap) (Q : Option Value → Heap → List Loc → Prop) : Prop :=
  MetFree l y (head1 (Jvm.Cond.code y bytes maxL ret :: ws) rm) (fun a U => a = as ∧ Z.Warmed39 U.vm ∧ U.heap = h0 ∧ CHv Z EL U.vm h0 ∧ ∀ x ∈ D, Safe Z EL U.vm h0 x) (fun _ _ _ _ _ => True) (fun _ U o U' => ∃ v L, o = .returned v ∧ Q v U'.heap L ∧ CHr Z EL U.vm U.heap U'.vm U'.heap ∧ ReturnedEndW U o U' L rm.cells rm.slots)
theorem OMetK.of {y : MethodName} {bytes : ByteArray} {maxL : Nat} {ret : Option FieldType} {ws : List Jvm.Cond} {rm : Room} {as : Array Value} {h0 : Heap} (hpn : plainFor y = true)
    (H : ∀ (p : Program) (e : Env) (s : State) (m : MethodId) (below : List Frame) (meth : Method) (c : Code) (T0 : State), Stand p l e rm s m as below meth c T0 [] 0 0 → p.tables.exec = Jvm.exec → c.code = bytes → c.maxLocals = maxL → s.vm.findClass y.cls = some m.cls → meth.name = y.name → meth.sig.returnType = ret → meth.locks = false → Z.Warmed39 s.vm → T0.heap = h0 → s.heap = h0 → CHv Z EL s.vm h0 → (∀ x ∈ D, Safe Z EL s.vm h0 x) →
      OGo p e below (OEndH Z EL s rm.cells rm.slots Q) (T0.setTop (entryFrame m as maxL))) : OMetK l Z EL D y bytes maxL ret ws rm as h0 Q := by
  refine MetFree.of_bodySF hpn hisR ?_
  intro p e s m args below meth c s₁ Bd hml0 hP hK
  obtain ⟨rfl, hZ, hh, hC, hD⟩ := hP
  exact H p e s m below meth c s₁ (Stand.of_body Bd) Bd.exec Bd.bytes hml0 (findClass_of_methodNamed Bd.named) (name_of_methodNamed Bd.named Bd.method).1 Bd.returns Bd.notSynchronized hZ (by rw [← hh, Bd.state]; rfl) hh hC hD
theorem own_backK {vm0 : Vm} {y : MethodName} {bytes : ByteArray} {maxL : Nat} {ret : Option FieldType} {rm : Room} {len W : Nat} {as' : Array Value} (hM : OMetK l Z EL D y bytes maxL ret [] rm as' h Q)
    (hZ : Z.Warmed39 vm0) (wc : (Jvm.Cond.code y bytes maxL ret).before a0 Z = true) (wz : (Jvm.Cond.initialized y.cls).before a0 Z = true) (hf : rm.frames + 1 ≤ R.frames) (hl : W + (maxL + 11) + rm.locals ≤ R.locals) (hEL : EW Z a0 EL) (H : CHv Z EL vm0 h) (hD : ∀ x ∈ D, x < h.size ∧ Safe Z EL vm0 h x) :
    BackS l R p e below (s.setVm vm0) args y len W (fun A a => a = as' ∧ A.U.heap = h ∧ A.cells + rm.cells ≤ R.cells ∧ A.slots + rm.slots ≤ R.slots)
      (fun A _ v B => ∃ L, Q v B.U.heap L ∧ B.locs = A.locs ++ L ∧ B.cells = A.cells + rm.cells ∧ B.slots = A.slots + rm.slots ∧ CHr Z EL vm0 h B.U.vm B.U.heap) :=
  BackS.of_freeW (bytes := bytes) (maxL := maxL) (ret := ret) (E := fun _ first o t L k n => k = rm.cells ∧ n = rm.slots ∧ (∃ v, o = .returned v ∧ Q v t.heap L) ∧ CHr Z EL first.vm first.heap t.vm t.heap) hM hf hl
    (fun m meth c A a Y hp => have hU : Z.Warmed39 A.U.vm := wtrans (s := s.setVm vm0) hZ Y.warmed
      ⟨by show (Jvm.Cond.and _ .tt).before a A.U = true; rw [Cond.before_and, mv hU wc]; rfl, mv hU wc, mv hU wz, hp.2.2.1, hp.2.2.2⟩)
    (fun m meth c A a g mk Y hp => ⟨hp.1, wtrans (s := s.setVm vm0) hZ Y.warmed, hp.2.1, (CHv.at Y hZ hEL H).1, fun x hx => (CHv.at Y hZ hEL H).safe (hD x hx).1 (hD x hx).2⟩) (fun _ _ _ _ _ _ _ _ _ => trivial)
    (fun _ _ _ _ ⟨v, L, h1, h2, h3, h4⟩ => ⟨L, _, _, h4, rfl, rfl, ⟨v, h1, h2⟩, h3⟩)
    (fun m meth c A a g mk v t L k n Y hp _ _ ⟨e1, e2, ⟨v', e3, e4⟩, e5⟩ => by
      cases e3; subst e1 e2
      refine ⟨L, e4, rfl, rfl, rfl, (CHv.at Y hZ hEL H).trans ?_⟩
      rw [← hp.2.1]; exact e5)
theorem OGo.callSK {vm0 : Vm} {k0 : Nat} (X : Stand p l e R (s.setVm vm0) m args below meth c T locs cells slots) (hx : p.tables.exec = Jvm.exec) (hZ : Z.Warmed39 vm0) (hS : s.Since vm0 k0) (hk : k0 ≤ h.size) (hEL : EW Z a0 EL) (hC : CHv Z EL vm0 h) (hD : ∀ x ∈ D, x < h.size ∧ Safe Z EL vm0 h x) {own : String} {index : Nat} {y : MethodName} {bytes : ByteArray} {maxL : Nat} {ret : Option FieldType} (hown : vm0.findClass own = some m.cls) {g : JFrame} {argsL rest : List Value} {rm : Room} {Q' : Option Value → Heap → List Loc → Prop} (eT : T.heap = h) (w1 : (Jvm.Cond.methodLink own index y).before a0 Z = true) (w2 : (Jvm.Cond.static y).before a0 Z = true) (w3 : (Jvm.Cond.initialized y.cls).before a0 Z = true) (w4 : (Jvm.Cond.code y bytes maxL ret).before a0 Z = true)
    (hy : y.cls ≠ "java/lang/invoke/MethodHandle" ∧ y.cls ≠ "java/lang/invoke/VarHandle") (hM : OMetK l Z EL D y bytes maxL ret [] rm argsL.toArray h Q')
    (hg : g.method = m) (hsize : g.locals.size = c.maxLocals) (hlen : ∀ sig, parseMethodDescriptor y.desc = some sig → argsL.length = sig.parameters.length) (hstack : g.stack = argsL.reverse ++ rest) {W : Nat} (hW : 2 * g.monitorRoom + (rest.map fun v => v.category).sum ≤ W) (hd : decode c.code g.pc = .ok (.invokestatic index, 3))
    (hf : rm.frames + 1 ≤ R.frames) (hl : W + (maxL + 11) + rm.locals ≤ R.locals) (hc : cells + rm.cells ≤ R.cells) (hs : slots + rm.slots ≤ R.slots)
    (k : ∀ (v : Option Value) (T' : State) (L' : List Loc), Stand p l e R (s.setVm T'.vm) m args below meth c T' (locs ++ L') (cells + rm.cells) (slots + rm.slots) → Q' v T'.heap L' → s.Since T'.vm T'.heap.size → Z.Warmed39 T'.vm → T'.vm.findClass own = some m.cls → CHr Z EL vm0 h T'.vm T'.heap → OGo p e below G (T'.setTop { g with pc := g.pc + 3, stack := v.toList ++ rest })) : OGo p e below G (T.setTop g) := by
  have hZ' : Z.Warmed39 (s.setVm vm0).vm := hZ
  obtain ⟨v, vm₁, B, hW₁, X', hS', hgr, ⟨L, hQ, e1, e2, e3, hC'⟩, st⟩ := Jvm.RoadKit.callSS X hx (y := y) hown (mvT hZ' w1) (mvT hZ' w2) (mvT hZ' w3) (mvT hZ' w4) hy (own_backK (s := s) (W := W) hM hZ w4 w3 hf hl hEL hC hD) (g := g) hg hsize (argsL := argsL) (rest := rest) hlen hstack hW hd (fun _ _ => ⟨rfl, eT, hc, hs⟩)
  rw [e1, e2, e3] at X'
  subst eT
  exact OGo.trans st (k v B.U L X' hQ (hS.trans hS' (Nat.le_trans hk hgr)) (State.Warmed39.trans (t := s.setVm vm0) hZ hS'.1) ((hS'.1.alike.findClass _ _).trans hown) hC')
theorem OGo.callIK {vm0 : Vm} {k0 : Nat} (X : Stand p l e R (s.setVm vm0) m args below meth c T locs cells slots) (hx : p.tables.exec = Jvm.exec) (hZ : Z.Warmed39 vm0) (hS : s.Since vm0 k0) (hk : k0 ≤ h.size) (hEL : EW Z a0 EL) (hC : CHv Z EL vm0 h) (hD : ∀ x ∈ D, x < h.size ∧ Safe Z EL vm0 h x) {own : String} {index : Nat} {y : MethodName} {bytes : ByteArray} {maxL : Nat} (hown : vm0.findClass own = some m.cls) {g : JFrame} {argsL rest : List Value} {rm : Room} {Q' : Option Value → Heap → List Loc → Prop} (eT : T.heap = h) {a : Addr} (hy1 : y.name = "<init>") (w1 : (Jvm.Cond.methodLink own index y).before a0 Z = true) (w2 : (Jvm.Cond.instanceMethod y).before a0 Z = true) (w3 : (Jvm.Cond.initialized y.cls).before a0 Z = true) (w4 : (Jvm.Cond.code y bytes maxL none).before a0 Z = true)
    (hy : y.cls ≠ "java/lang/invoke/MethodHandle" ∧ y.cls ≠ "java/lang/invoke/VarHandle") (hM : OMetK l Z EL D y bytes maxL none [] rm (.ref a :: argsL).toArray h Q')
    (hg : g.method = m) (hsize : g.locals.size = c.maxLocals) (hlen : ∀ sig, parseMethodDescriptor y.desc = some sig → argsL.length = sig.parameters.length) (hstack : g.stack = argsL.reverse ++ .ref a :: rest) {W : Nat} (hW : 2 * g.monitorRoom + (rest.map fun v => v.category).sum ≤ W) (hd : decode c.code g.pc = .ok (.invokespecial index, 3))
    (hf : rm.frames + 1 ≤ R.frames) (hl : W + (maxL + 11) + rm.locals ≤ R.locals) (hc : cells + rm.cells ≤ R.cells) (hs : slots + rm.slots ≤ R.slots)
    (k : ∀ (v : Option Value) (T' : State) (L' : List Loc), Stand p l e R (s.setVm T'.vm) m args below meth c T' (locs ++ L') (cells + rm.cells) (slots + rm.slots) → Q' v T'.heap L' → s.Since T'.vm T'.heap.size → Z.Warmed39 T'.vm → T'.vm.findClass own = some m.cls → CHr Z EL vm0 h T'.vm T'.heap → OGo p e below G (T'.setTop { g with pc := g.pc + 3, stack := v.toList ++ rest })) : OGo p e below G (T.setTop g) := by
  have hZ' : Z.Warmed39 (s.setVm vm0).vm := hZ
  obtain ⟨v, vm₁, B, hW₁, X', hS', hgr, ⟨L, hQ, e1, e2, e3, hC'⟩, st⟩ := X.specialBackS hx (y := y) hy1 hown (mvT hZ' w1) (mvT hZ' w2) (mvT hZ' w4) hy (own_backK (s := s) (W := W) hM hZ w4 w3 hf hl hEL hC hD) (g := g) hg hsize (Steps.refl _) (a := a) (argsL := argsL) (rest := rest) hlen hstack hW hd (fun _ _ => ⟨rfl, eT, hc, hs⟩)
  rw [e1, e2, e3] at X'
  subst eT
  exact OGo.trans st (k v B.U L X' hQ (hS.trans hS' (Nat.le_trans hk hgr)) (State.Warmed39.trans (t := s.setVm vm0) hZ hS'.1) ((hS'.1.alike.findClass _ _).trans hown) hC')
theorem OGo.callVK {vm0 : Vm} {k0 : Nat} (X : Stand p l e R (s.setVm vm0) m args below meth c T locs cells slots) (hx : p.tables.exec = Jvm.exec) (hZ : Z.Warmed39 vm0) (hS : s.Since vm0 k0) (hk : k0 ≤ h.size) (hEL : EW Z a0 EL) (hC : CHv Z EL vm0 h) (hD : ∀ x ∈ D, x < h.size ∧ Safe Z EL vm0 h x) {own : String} {index : Nat} {y : MethodName} {bytes : ByteArray} {maxL : Nat} {ret : Option FieldType} (hown : vm0.findClass own = some m.cls) {g : JFrame} {argsL rest : List Value} {rm : Room} {Q' : Option Value → Heap → List Loc → Prop} (eT : T.heap = h) {a : Addr} {C : String} (w1 : (Jvm.Cond.methodLink own index y).before a0 Z = true) (w5 : (Jvm.Cond.declares y).before a0 Z = true) (w6 : (Jvm.Cond.selects C y y).before a0 Z = true) (w2 : (Jvm.Cond.instanceMethod y).before a0 Z = true) (w3 : (Jvm.Cond.initialized y.cls).before a0 Z = true) (w4 : (Jvm.Cond.code y bytes maxL ret).before a0 Z = true)
    (hy : y.cls ≠ "java/lang/invoke/MethodHandle" ∧ y.cls ≠ "java/lang/invoke/VarHandle") (E : Exa Z h a C) (hM : OMetK l Z EL D y bytes maxL ret [] rm (.ref a :: argsL).toArray h Q')
    (hg : g.method = m) (hsize : g.locals.size = c.maxLocals) (hlen : ∀ sig, parseMethodDescriptor y.desc = some sig → argsL.length = sig.parameters.length) (hstack : g.stack = argsL.reverse ++ .ref a :: rest) {W : Nat} (hW : 2 * g.monitorRoom + (rest.map fun v => v.category).sum ≤ W) (hd : decode c.code g.pc = .ok (.invokevirtual index, 3))
    (hf : rm.frames + 1 ≤ R.frames) (hl : W + (maxL + 11) + rm.locals ≤ R.locals) (hc : cells + rm.cells ≤ R.cells) (hs : slots + rm.slots ≤ R.slots)
    (k : ∀ (v : Option Value) (T' : State) (L' : List Loc), Stand p l e R (s.setVm T'.vm) m args below meth c T' (locs ++ L') (cells + rm.cells) (slots + rm.slots) → Q' v T'.heap L' → s.Since T'.vm T'.heap.size → Z.Warmed39 T'.vm → T'.vm.findClass own = some m.cls → CHr Z EL vm0 h T'.vm T'.heap → OGo p e below G (T'.setTop { g with pc := g.pc + 3, stack := v.toList ++ rest })) : OGo p e below G (T.setTop g) := by
  have hZ' : Z.Warmed39 (s.setVm vm0).vm := hZ
  obtain ⟨cB, kB, q1, q2, q3⟩ := isOf hZ' eT E
  obtain ⟨v, vm₁, B, hW₁, X', hS', hgr, ⟨L, hQ, e1, e2, e3, hC'⟩, st⟩ := X.virtualBackS hx (y := y) (z := y) hown (mvT hZ' w1) (mvT hZ' w5) (notFace_of_selects (args := #[]) (mvT hZ' w6)) (mvT hZ' w6) (mvT hZ' w2) hy (own_backK (s := s) (W := W) hM hZ w4 w3 hf hl hEL hC hD) q1 q3 (g := g) hg hsize (Steps.refl _) (argsL := argsL) (rest := rest) hlen hstack hW hd (fun _ _ => ⟨rfl, eT, hc, hs⟩)
  rw [e1, e2, e3] at X'
  subst eT
  exact OGo.trans st (k v B.U L X' hQ (hS.trans hS' (Nat.le_trans hk hgr)) (State.Warmed39.trans (t := s.setVm vm0) hZ hS'.1) ((hS'.1.alike.findClass _ _).trans hown) hC')
end OwnHeld2
end Jvm.RoadKit
namespace Jvm.RoadKit
open Sem ClassFile Op Lib Jvm.Stand Jvm.Free Jvm.LawKit
section OwnCall
variable {p : Program} {l : Launch} {e : Env} {R : Room} {s : State} {m : MethodId} {args : Array Value} {below : List Frame} {meth : Method} {c : Code} {T : State} {locs : List Loc} {cells slots : Nat} {Z : State} {a0 : Array Value} {h h1 : Heap} {kc ks : Nat} {Q : Option Value → Heap → List Loc → Prop} {G : Outcome → State → Prop} {U U' : State} {EL : List (String × Nat)}
/-- a class that declares a method which some class selects is no interface; so a lookup from it finds its own -/
theorem own_self {C : String} {y z : MethodName} (wi : (Jvm.Cond.instanceMethod y).before a0 Z = true) (ws : (Jvm.Cond.selects C z z).before a0 Z = true) (hc : z.cls = y.cls) (hy : y.cls ≠ "java/lang/invoke/MethodHandle" ∧ y.cls ≠ "java/lang/invoke/VarHandle") : (Jvm.Cond.sameMethod y.cls y.cls y.name y.desc).before a0 Z = true := by
  obtain ⟨mk, methM, hnamed, hmethM, -, -⟩ := Cond.instanceMethod_spec wi
  obtain ⟨c2, r2, m2, -, -, q3, -, kP, hkP, hkPi⟩ := Cond.selects_spec ws
  have f1 := findClass_of_methodNamed hnamed
  have f2 := findClass_of_methodNamed q3
  rw [hc] at f2
  have ec : m2.cls = mk.cls := Option.some.inj (f2.symm.trans f1)
  rw [ec] at hkP
  have hfound : Z.methodFound? y.cls y.name y.desc = some mk := State.methodFound?_of_named hnamed hy
  simp [Cond.before, Cond.holds, Cond.value, f1, hfound, hnamed, hkP, hkPi]
theorem own_selfsel {C : String} {y : MethodName} (wi : (Jvm.Cond.instanceMethod y).before a0 Z = true) (ws : (Jvm.Cond.selects C y y).before a0 Z = true) (wp : (Jvm.Cond.privateMethod y).before a0 Z = true) (hy : y.cls ≠ "java/lang/invoke/MethodHandle" ∧ y.cls ≠ "java/lang/invoke/VarHandle") : (Jvm.Cond.selects y.cls y y).before a0 Z = true := by
  obtain ⟨c2, r2, m2, -, -, q3, -, kP, hkP, hkPi⟩ := Cond.selects_spec ws
  exact selects_self_of_private (findClass_of_methodNamed q3) hkP hkPi (Cond.privateMethod_at wp) wi hy
/-- a call of an instance method that the receiver's class overrides (or not): the entry names x, y runs -/
theorem OGo.callVz (X : Stand p l e R s m args below meth c T locs cells slots) (hx : p.tables.exec = Jvm.exec) (hZ : Z.Warmed39 s.vm) {own C C' : String} {index : Nat} {x y z : MethodName} {bytes : ByteArray} {maxL : Nat} {ret : Option FieldType}
    (hown : s.vm.findClass own = some m.cls) (w1 : (Jvm.Cond.methodLink own index x).before a0 Z = true) (w5 : (Jvm.Cond.declares x).before a0 Z = true) (w6 : (Jvm.Cond.selects C x y).before a0 Z = true) (w8 : (Jvm.Cond.selects C' z z).before a0 Z = true) (hc : z.cls = x.cls) (w9 : (Jvm.Cond.instanceMethod x).before a0 Z = true) (w2 : (Jvm.Cond.instanceMethod y).before a0 Z = true) (w3 : (Jvm.Cond.initialized y.cls).before a0 Z = true) (w4 : (Jvm.Cond.code y bytes maxL ret).before a0 Z = true)
    (hy : x.cls ≠ "java/lang/invoke/MethodHandle" ∧ x.cls ≠ "java/lang/invoke/VarHandle") {g : JFrame} {a : Addr} {argsL rest : List Value} {rm : Room} {Q' : Option Value → Heap → List Loc → Prop} (eT : T.heap = h) (E : Exa Z h a C) (hM : OMet l Z y bytes maxL ret [] rm (.ref a :: argsL).toArray h Q')
    (hg : g.method = m) (hsize : g.locals.size = c.maxLocals) (hlen : ∀ sig, parseMethodDescriptor x.desc = some sig → argsL.length = sig.parameters.length) (hstack : g.stack = argsL.reverse ++ .ref a :: rest) {W : Nat} (hW : 2 * g.monitorRoom + (rest.map fun v => v.category).sum ≤ W) (hd : decode c.code g.pc = .ok (.invokevirtual index, 3))
    (hf : rm.frames + 1 ≤ R.frames) (hl : W + (maxL + 11) + rm.locals ≤ R.locals) (hcc : cells + rm.cells ≤ R.cells) (hs : slots + rm.slots ≤ R.slots)
    (k : ∀ (v : Option Value) (T' : State) (L' : List Loc), Stand p l e R s m args below meth c T' (locs ++ L') (cells + rm.cells) (slots + rm.slots) → Q' v T'.heap L' → OGo p e below G (T'.setTop { g with pc := g.pc + 3, stack := v.toList ++ rest })) : OGo p e below G (T.setTop g) := by
  obtain ⟨cB, kB, q1, q2, q3⟩ := isOf hZ eT E
  have hnf : NotFace s x := fun r0 h0 => by
    obtain ⟨c9, ck, r, f1, f2, f3, -, f5⟩ := Cond.sameMethod_found (own_self (a0 := args) (Z := s) (mvT hZ w9) (mvT hZ w8) hc hy)
    have f6 := findClass_of_methodNamed h0
    exact ⟨ck, by rw [← Option.some.inj (f1.symm.trans f6)]; exact f2, f3⟩
  obtain ⟨v, vm₁, B, hW₁, X', ⟨L, hQ, e1, e2, e3⟩, st⟩ := X.virtualBack hx (y := x) (z := y) hown (mvT hZ w1) (mvT hZ w5) hnf (mvT hZ w6) (mvT hZ w2) hy (backOf (W := W) hM hZ w4 w3 hf hl) q1 q3 (g := g) hg hsize (Steps.refl _) (argsL := argsL) (rest := rest) hlen hstack hW hd (fun _ _ => ⟨rfl, eT, hcc, hs⟩)
  rw [e1, e2, e3] at X'
  exact OGo.trans st (k v B.U L X' hQ)
/-- a call of a private method by invokevirtual -/
theorem OGo.callP (X : Stand p l e R s m args below meth c T locs cells slots) (hx : p.tables.exec = Jvm.exec) (hZ : Z.Warmed39 s.vm) {own C : String} {index : Nat} {y : MethodName} {bytes : ByteArray} {maxL : Nat} {ret : Option FieldType}
    (hown : s.vm.findClass own = some m.cls) (w1 : (Jvm.Cond.methodLink own index y).before a0 Z = true) (w7 : (Jvm.Cond.privateMethod y).before a0 Z = true) (w6 : (Jvm.Cond.selects C y y).before a0 Z = true) (w2 : (Jvm.Cond.instanceMethod y).before a0 Z = true) (w3 : (Jvm.Cond.initialized y.cls).before a0 Z = true) (w4 : (Jvm.Cond.code y bytes maxL ret).before a0 Z = true)
    (hy : y.cls ≠ "java/lang/invoke/MethodHandle" ∧ y.cls ≠ "java/lang/invoke/VarHandle") {g : JFrame} {a : Addr} {argsL rest : List Value} {rm : Room} {Q' : Option Value → Heap → List Loc → Prop} (eT : T.heap = h) (E : Exa Z h a C) (hM : OMet l Z y bytes maxL ret [] rm (.ref a :: argsL).toArray h Q')
    (hg : g.method = m) (hsize : g.locals.size = c.maxLocals) (hlen : ∀ sig, parseMethodDescriptor y.desc = some sig → argsL.length = sig.parameters.length) (hstack : g.stack = argsL.reverse ++ .ref a :: rest) {W : Nat} (hW : 2 * g.monitorRoom + (rest.map fun v => v.category).sum ≤ W) (hd : decode c.code g.pc = .ok (.invokevirtual index, 3))
    (hf : rm.frames + 1 ≤ R.frames) (hl : W + (maxL + 11) + rm.locals ≤ R.locals) (hc : cells + rm.cells ≤ R.cells) (hs : slots + rm.slots ≤ R.slots)
    (k : ∀ (v : Option Value) (T' : State) (L' : List Loc), Stand p l e R s m args below meth c T' (locs ++ L') (cells + rm.cells) (slots + rm.slots) → Q' v T'.heap L' → OGo p e below G (T'.setTop { g with pc := g.pc + 3, stack := v.toList ++ rest })) : OGo p e below G (T.setTop g) := by
  obtain ⟨cl, kk, f1, f2, f3, f4, f5⟩ := E
  have hp : (Jvm.Cond.privateMethod y).before args s = true := mvT hZ w7
  obtain ⟨v, vm₁, B, hW₁, X', ⟨L, hQ, e1, e2, e3⟩, st⟩ := X.privateBack hx (y := y) hown (mvT hZ w1) (mvT hZ w2) (own_selfsel (mvT hZ w2) (mvT hZ w6) hp hy) (Cond.privateMethod_at hp) (mvT hZ w4) hy (backOf (W := W) hM hZ w4 w3 hf hl) (g := g) hg hsize (Steps.refl _) (a := a) (cell := cl) (by rw [eT]; exact f1) (fun q r => by rw [r] at f4; cases f4) (argsL := argsL) (rest := rest) hlen hstack hW hd (fun _ _ => ⟨rfl, eT, hc, hs⟩)
  rw [e1, e2, e3] at X'
  exact OGo.trans st (k v B.U L X' hQ)
/-- a call of the superclass's own method by invokespecial -/
theorem OGo.callU (X : Stand p l e R s m args below meth c T locs cells slots) (hx : p.tables.exec = Jvm.exec) (hZ : Z.Warmed39 s.vm) {own C C' : String} {index : Nat} {y z : MethodName} {bytes : ByteArray} {maxL : Nat} {ret : Option FieldType}
    (hown : s.vm.findClass own = some m.cls) (w1 : (Jvm.Cond.methodLink own index y).before a0 Z = true) (w8 : (Jvm.Cond.selects C' z z).before a0 Z = true) (hzc : z.cls = y.cls) (w2 : (Jvm.Cond.instanceMethod y).before a0 Z = true) (w9 : (Jvm.Cond.superclass own y.cls).before a0 Z = true) (hn : y.name ≠ "<init>") (w3 : (Jvm.Cond.initialized y.cls).before a0 Z = true) (w4 : (Jvm.Cond.code y bytes maxL ret).before a0 Z = true)
    (hy : y.cls ≠ "java/lang/invoke/MethodHandle" ∧ y.cls ≠ "java/lang/invoke/VarHandle") {g : JFrame} {a : Addr} {argsL rest : List Value} {rm : Room} {Q' : Option Value → Heap → List Loc → Prop} (eT : T.heap = h) (E : Exa Z h a C) (hM : OMet l Z y bytes maxL ret [] rm (.ref a :: argsL).toArray h Q')
    (hg : g.method = m) (hsize : g.locals.size = c.maxLocals) (hlen : ∀ sig, parseMethodDescriptor y.desc = some sig → argsL.length = sig.parameters.length) (hstack : g.stack = argsL.reverse ++ .ref a :: rest) {W : Nat} (hW : 2 * g.monitorRoom + (rest.map fun v => v.category).sum ≤ W) (hd : decode c.code g.pc = .ok (.invokespecial index, 3))
    (hf : rm.frames + 1 ≤ R.frames) (hl : W + (maxL + 11) + rm.locals ≤ R.locals) (hc : cells + rm.cells ≤ R.cells) (hs : slots + rm.slots ≤ R.slots)
    (k : ∀ (v : Option Value) (T' : State) (L' : List Loc), Stand p l e R s m args below meth c T' (locs ++ L') (cells + rm.cells) (slots + rm.slots) → Q' v T'.heap L' → OGo p e below G (T'.setTop { g with pc := g.pc + 3, stack := v.toList ++ rest })) : OGo p e below G (T.setTop g) := by
  obtain ⟨v, vm₁, B, hW₁, X', ⟨L, hQ, e1, e2, e3⟩, st⟩ := Jvm.RoadKit.superBack X hx hZ (y := y) hown w1 (own_self w2 w8 hzc hy) w2 w9 hn (backOf (W := W) hM hZ w4 w3 hf hl) eT (Ins.self E) (g := g) hg hsize w4 (argsL := argsL) (rest := rest) hlen hstack hW hd (fun _ _ => ⟨rfl, eT, hc, hs⟩)
  rw [e1, e2, e3] at X'
  exact OGo.trans st (k v B.U L X' hQ)
end OwnCall
end Jvm.RoadKit
namespace Jvm.RoadKit
open Sem ClassFile Op Lib Jvm.Stand Jvm.Free Jvm.LawKit
section OwnTxt
variable {p : Program} {l : Launch} {e : Env} {R : Room} {s : State} {m : MethodId} {args : Array Value} {below : List Frame} {meth : Method} {c : Code} {T : State} {locs : List Loc} {cells slots : Nat} {Z : State} {a0 : Array Value} {h h1 : Heap} {a b d : Addr} {kb kd : ClassId} {bs us : List Value}
/-- a length as the machine's int -/
def NI (n : Nat) : Int32 := Int32.ofNat n
theorem ni_toInt {n : Nat} (q : n ≤ 4096) : (NI n).toInt = n := Int32.toInt_ofNat_of_lt (by omega)
theorem ni_nat {n : Nat} (q : n ≤ 4096) : (NI n).toNatClampNeg = n := by simp only [Int32.toNatClampNeg, ni_toInt q]; omega
theorem ni_nn {n : Nat} (q : n ≤ 4096) : ¬ NI n < 0 := by rw [Int32.lt_iff_toInt_lt, ni_toInt q, Int32.toInt_zero]; omega
theorem ni_add {x y : Nat} : NI x + NI y = NI (x + y) := (Int32.ofNat_add x y).symm
theorem own_shl0 (x : Int32) : x <<< ((0 : Int32) &&& 31) = x := by
  rw [show ((0 : Int32) &&& 31) = 0 from by decide]; exact Int32.shiftLeft_zero
theorem own_shr0 (x : Int32) : x >>> ((0 : Int32) &&& 31) = x := by
  rw [show ((0 : Int32) &&& 31) = 0 from by decide]; exact Int32.shiftRight_zero
theorem own_ens {n : Nat} (q : n ≤ 256) : ¬ (0 : Int32) < (NI n - ((256 : Int32) >>> ((0 : Int32) &&& 31))) := by
  rw [own_shr0, Int32.lt_iff_toInt_lt, Int32.toInt_sub, ni_toInt (by omega), show (256 : Int32).toInt = 256 by decide, Int32.toInt_zero, Int.bmod_def]
  omega
/-- the text us copied behind the text bs -/
theorem own_cp (X : Stand p l e R s m args below meth c T locs cells slots) (hx : p.tables.exec = Jvm.exec) (hZ : Z.Warmed39 s.vm) {own : String} {index : Nat} (hown : s.vm.findClass own = some m.cls)
    (w1 : (Jvm.Cond.methodLink own index Jvm.Stand.acN).before a0 Z = true) (w2 : (Jvm.Cond.native Jvm.Stand.acN).before a0 Z = true) (w3 : (Jvm.Cond.static Jvm.Stand.acN).before a0 Z = true) (w4 : (Jvm.Cond.initialized "java/lang/System").before a0 Z = true) (eT : T.heap = h)
    (A : Arv Z h a kb .byte (NI us.length) us (.int 0)) (B : Arv Z h d kd .byte 256 bs (.int 0)) (hl : bs.length + us.length ≤ 256) {n0 : Nat} (N : Fr n0 locs) (ge : n0 ≤ d)
    {g : JFrame} (hg : g.method = m) (hsize : g.locals.size = c.maxLocals) {rest : List Value} (hs : g.stack = .int (NI us.length) :: .int (NI bs.length) :: .ref d :: .int 0 :: .ref a :: rest) (hd : decode c.code g.pc = .ok (.invokestatic index, 3))
    (hf : 1 ≤ R.frames) {W : Nat} (hW : 2 * g.monitorRoom + (rest.map fun v => v.category).sum ≤ W) (hlo : W + (nativeFrameWords "java/lang/System" "arraycopy" 5 + 11) ≤ R.locals) :
    ∃ T' h' L, Stand p l e R s m args below meth c T' L cells slots ∧ T'.heap = h' ∧ Fr n0 L ∧ Keep h h' [d] ∧ Arv Z h' d kd .byte 256 (bs ++ us) (.int 0) ∧
      ∀ target, Steps p.tables e below (T'.setTop { g with pc := g.pc + 3, stack := rest }) target → Steps p.tables e below (T.setTop g) target := by
  have q1 : (NI us.length).toNatClampNeg = us.length := ni_nat (by omega)
  have q2 : (NI bs.length).toNatClampNeg = bs.length := ni_nat (by omega)
  have q0 : (0 : Int32).toNatClampNeg = 0 := by decide
  have qz : (256 : Int32).toNatClampNeg = 256 := by decide
  have B' : Arv Z h d kd .byte 256 (bs ++ List.replicate us.length (.int 0)) (.int 0) := B.pad (pad_rep bs _ us.length)
  obtain ⟨T', h', L, X', e', N', K', A', st⟩ := cpA X hx hZ hown w1 w2 w3 w4 eT (us := us) A B' (Or.inl ⟨rfl, rfl⟩) (by decide) (ni_nn (by omega)) (ni_nn (by omega)) (by rw [q0, q1]; omega) (by rw [q1, q2, qz]; omega)
    (by rw [q1, q0]; apply List.ext_getElem
        · simp
        · intro i h1 h2; simp [h1])
    (by rw [q1, q2, List.length_append, List.length_replicate]; omega) N ge hg hsize hs hd hf hW hlo
  refine ⟨T', h', L, X', e', N', K', ?_, st⟩
  rw [q1, q2] at A'
  rw [List.take_left, List.drop_of_length_le (by simp), List.append_nil] at A'
  exact A'
theorem own_sub0 (x : Int32) : x - (0 : Int32) = x := Int32.sub_zero x
theorem ni_succ {n : Nat} : NI n + (1 : Int32) = NI (n + 1) := (ni_add (x := n) (y := 1))
theorem ni_lt {x y : Nat} (hx : x ≤ 4096) (hy : y ≤ 4096) : NI x < NI y ↔ x < y := by rw [Int32.lt_iff_toInt_lt, ni_toInt hx, ni_toInt hy]; omega
theorem own_min {n : Nat} (q : n ≤ 256) (r : ¬ NI n < (256 : Int32)) : (256 : Int32) = NI n := by
  apply Int32.toInt_inj.mp
  rw [Int32.lt_iff_toInt_lt, ni_toInt (by omega), show (256 : Int32).toInt = 256 by decide] at r
  rw [ni_toInt (by omega), show (256 : Int32).toInt = 256 by decide]; omega
theorem own_ne256 {n : Nat} (q : n < 256) : ¬ NI n = (256 : Int32) := fun r => by
  have := congrArg Int32.toInt r
  rw [ni_toInt (by omega), show (256 : Int32).toInt = 256 by decide] at this; omega
/-- the text bs copied out of a builder's array -/
theorem own_cp2 (X : Stand p l e R s m args below meth c T locs cells slots) (hx : p.tables.exec = Jvm.exec) (hZ : Z.Warmed39 s.vm) {own : String} {index : Nat} (hown : s.vm.findClass own = some m.cls)
    (w1 : (Jvm.Cond.methodLink own index Jvm.Stand.acN).before a0 Z = true) (w2 : (Jvm.Cond.native Jvm.Stand.acN).before a0 Z = true) (w3 : (Jvm.Cond.static Jvm.Stand.acN).before a0 Z = true) (w4 : (Jvm.Cond.initialized "java/lang/System").before a0 Z = true) (eT : T.heap = h)
    (A : Arv Z h a kb .byte 256 bs (.int 0)) (B : Arv Z h d kd .byte (NI bs.length) [] (.int 0)) (hl : bs.length ≤ 256) {n0 : Nat} (N : Fr n0 locs) (ge : n0 ≤ d)
    {g : JFrame} (hg : g.method = m) (hsize : g.locals.size = c.maxLocals) {rest : List Value} (hs : g.stack = .int (NI bs.length) :: .int 0 :: .ref d :: .int 0 :: .ref a :: rest) (hd : decode c.code g.pc = .ok (.invokestatic index, 3))
    (hf : 1 ≤ R.frames) {W : Nat} (hW : 2 * g.monitorRoom + (rest.map fun v => v.category).sum ≤ W) (hlo : W + (nativeFrameWords "java/lang/System" "arraycopy" 5 + 11) ≤ R.locals) :
    ∃ T' h' L, Stand p l e R s m args below meth c T' L cells slots ∧ T'.heap = h' ∧ Fr n0 L ∧ Keep h h' [d] ∧ Arv Z h' d kd .byte (NI bs.length) bs (.int 0) ∧
      ∀ target, Steps p.tables e below (T'.setTop { g with pc := g.pc + 3, stack := rest }) target → Steps p.tables e below (T.setTop g) target := by
  have q2 : (NI bs.length).toNatClampNeg = bs.length := ni_nat (by omega)
  have q0 : (0 : Int32).toNatClampNeg = 0 := by decide
  have qz : (256 : Int32).toNatClampNeg = 256 := by decide
  have B' : Arv Z h d kd .byte (NI bs.length) (List.replicate bs.length (.int 0)) (.int 0) := by
    have := B.pad (pad_rep [] _ bs.length); rwa [List.nil_append] at this
  obtain ⟨T', h', L, X', e', N', K', A', st⟩ := cpA X hx hZ hown w1 w2 w3 w4 eT (us := bs) A B' (Or.inl ⟨rfl, rfl⟩) (by decide) (by decide) (ni_nn (by omega)) (by rw [q0, q2, qz]; omega) (by rw [q0, q2]; omega)
    (by rw [q2, q0]; apply List.ext_getElem
        · simp
        · intro i h1 h2; simp [h1])
    (by rw [q0, q2, List.length_replicate]; omega) N ge hg hsize hs hd hf hW hlo
  refine ⟨T', h', L, X', e', N', K', ?_, st⟩
  rw [q0, q2, List.take_zero, List.nil_append, List.drop_of_length_le (by simp), List.append_nil] at A'
  exact A'
theorem own_int {k : ClassId} {z : Int32} {us : List Value} (F : Arv Z h a k .byte z us (.int 0)) {i : Nat} (hi : i < z.toNatClampNeg) : ∃ u, us.getD i (.int 0) = .int u := by
  obtain ⟨cl, A, q1, S, q3, H, G⟩ := F
  have f := G i (by rw [S]; exact hi)
  generalize us.getD i (.int 0) = v at f
  cases v <;> first | exact ⟨_, rfl⟩ | (simp [fits] at f)
end OwnTxt
end Jvm.RoadKit
namespace Jvm.RoadKit
open Sem ClassFile Op Lib Jvm.Stand Jvm.Free Jvm.LawKit
section OwnU16
variable {p : Program} {l : Launch} {e : Env} {R : Room} {s : State} {m : MethodId} {args : Array Value} {below : List Frame} {meth : Method} {c : Code} {T : State} {locs : List Loc} {cells slots : Nat} {Z : State} {a0 : Array Value} {h h1 : Heap} {a b d : Addr} {k kb kd : ClassId} {vs : List Value} {z : Int32}
/-- bastore just behind the text: the text grows by one byte -/
theorem Arv.push (X : Stand p l e R s m args below meth c T locs cells slots) (hx : p.tables.exec = Jvm.exec) (hZ : Z.Warmed39 s.vm) (eT : T.heap = h) (F : Arv Z h a k .byte z vs (.int 0)) {j : Int32} (hj : j = NI vs.length) (hv : vs.length ≤ 4096) (hz : vs.length < z.toNatClampNeg) {x : Int32}
    {g : JFrame} (hg : g.method = m) {rest : List Value} (hs : g.stack = .int x :: .int j :: .ref a :: rest) (hd : decode c.code g.pc = .ok (.bastore, 1)) :
    ∃ T' h', Stand p l e R s m args below meth c T' (locs ++ [⟨a, j.toNatClampNeg⟩]) cells slots ∧ T'.heap = h' ∧ Wr h h' a j.toNatClampNeg (.int (nar .byte x)) ∧ Arv Z h' a k .byte z (vs ++ [.int (nar .byte x)]) (.int 0) ∧ ∀ target, Steps p.tables e below (T'.setTop { g with pc := g.pc + 1, stack := rest }) target → Steps p.tables e below (T.setTop g) target := by
  subst hj
  have F' : Arv Z h a k .byte z (vs ++ List.replicate 1 (.int 0)) (.int 0) := F.pad (pad_rep vs _ 1)
  have q : (NI vs.length).toNatClampNeg = vs.length := ni_nat hv
  have hjz : ¬ NI vs.length < 0 ∧ NI vs.length < z := by
    refine ⟨ni_nn hv, ?_⟩
    rw [Int32.lt_iff_toInt_lt, ni_toInt hv]
    simp only [Int32.toNatClampNeg] at hz; omega
  obtain ⟨T', h', X', e', W, A, st⟩ := Arv.stB' X hx hZ eT F' hjz vs.length q (by simp) (g := g) hg hs hd
  refine ⟨T', h', X', e', W, ?_, st⟩
  rw [List.set_append_right _ _ (Nat.le_refl _), Nat.sub_self] at A
  exact A
end OwnU16
end Jvm.RoadKit
namespace Jvm.RoadKit
open Sem ClassFile Op Lib Jvm.Stand Jvm.Free Jvm.LawKit
section OwnFill
variable {p : Program} {l : Launch} {e : Env} {R : Room} {s : State} {m : MethodId} {args : Array Value} {below : List Frame} {meth : Method} {c : Code} {T : State} {locs : List Loc} {cells slots : Nat} {Z : State} {a0 : Array Value} {h h1 h0 : Heap} {a b sr : Addr} {k : ClassId} {vs : List Value} {z cs : Int32} {n0 q : Nat} {uv uc : Value} {G : Outcome → State → Prop}
theorem own_u0 : ∀ u ∈ ([] : List Int32), ¬ (255 : Int32) < u := fun _ r => absurd r List.not_mem_nil
theorem own_uS {x : Int32} {L : List Int32} (r : ¬ (255 : Int32) < x) (t : ∀ u ∈ L, ¬ (255 : Int32) < u) : ∀ u ∈ x :: L, ¬ (255 : Int32) < u := fun u w => (List.mem_cons.mp w).elim (fun y => y ▸ r) (t u)
/-- the state while a new char[] is filled: all facts in one -/
abbrev CPk (p : Program) (l : Launch) (e : Env) (R : Room) (s : State) (m : MethodId) (args : Array Value) (below : List Frame) (meth : Method) (c : Code) (cells slots : Nat) (Z : State) (n0 : Nat) (h0 : Heap) (sr b : Addr) (k : ClassId) (z cs : Int32) (uv uc : Value) (T : State) (h : Heap) (locs : List Loc) (q : Nat) (vs : List Value) : Prop :=
  Stand p l e R s m args below meth c T locs cells slots ∧ T.heap = h ∧ Fr n0 locs ∧ Keep h0 h [] ∧ n0 ≤ h.size ∧ Exa Z h sr "java/lang/String" ∧ Fld Z h sr "java/lang/String" "value" "[B" uv ∧ Fld Z h sr "java/lang/String" "coder" "B" uc ∧ Sta Z h "java/lang/String" "COMPACT_STRINGS" "Z" (.int cs) ∧ Arv Z h b k .char z vs (.int 0) ∧ vs.length = q
theorem own_cst (hne : sr ≠ b) (gb : n0 ≤ b) (sz : h0.size ≤ b) (hx : p.tables.exec = Jvm.exec) (hZ : Z.Warmed39 s.vm) (P : CPk p l e R s m args below meth c cells slots Z n0 h0 sr b k z cs uv uc T h locs q vs) (N : Nat) (hzN : z.toNatClampNeg = N) (hN : N ≤ 4096) (hq : q < N) {x j : Int32} (hj : j = NI q)
    {g : JFrame} (hg : g.method = m) {rest : List Value} (hs : g.stack = .int x :: .int j :: .ref b :: rest) (hd : decode c.code g.pc = .ok (.castore, 1))
    (kk : ∀ (T' : State) (h' : Heap) (L' : List Loc), CPk p l e R s m args below meth c cells slots Z n0 h0 sr b k z cs uv uc T' h' L' (q + 1) (vs ++ [.int (nar .char x)]) → OGo p e below G (T'.setTop { g with pc := g.pc + 1, stack := rest })) : OGo p e below G (T.setTop g) := by
  obtain ⟨X, eT, Nf, K, zs, Es, fv, fc, S, A, hl⟩ := P
  subst hj
  have A' : Arv Z h b k .char z (vs ++ List.replicate 1 (.int 0)) (.int 0) := A.pad (pad_rep vs _ 1)
  have hc : (NI q).toNatClampNeg = q := ni_nat (by omega)
  have hjz : ¬ NI q < 0 ∧ NI q < z := by
    refine ⟨ni_nn (by omega), ?_⟩
    rw [Int32.lt_iff_toInt_lt, ni_toInt (by omega)]
    simp only [Int32.toNatClampNeg] at hzN; omega
  obtain ⟨T', h', X', e', W, B, st⟩ := Arv.stC' X hx hZ eT A' hjz q hc (by simp [hl]) (g := g) hg hs hd
  refine OGo.go st (kk T' h' _ ⟨X', e', Fr.snoc X' Nf gb, K.wr W (Or.inr sz), Nat.le_trans zs (Keep.of_wr W).1, Es.wr W, fv.other W (Or.inl hne), fc.other W (Or.inl hne), S.wr W, ?_, by simp [hl]⟩)
  rw [← hl, List.set_append_right _ _ (Nat.le_refl _), Nat.sub_self] at B
  exact B
end OwnFill
end Jvm.RoadKit
namespace Jvm.Pilot.@@N@@
open Jvm Jvm.ClassFile Sem Op Lib Jvm.Free Jvm.Stand Jvm.LawKit Jvm.RoadKit Bundle Jvm.Pilot.@@N@@.Jvm.D
theorem pd_0 : parseMethodDescriptor "()B" = some ⟨[], some .byte⟩ := by decide +kernel
theorem pd_1 : parseMethodDescriptor "(Ljava/lang/String;)V" = some ⟨[(.object "java/lang/String")], none⟩ := by decide +kernel
theorem pd_2 : parseMethodDescriptor "([BIB)V" = some ⟨[(.array .byte), .int, .byte], none⟩ := by decide +kernel
theorem pd_3 : parseMethodDescriptor "()I" = some ⟨[], some .int⟩ := by decide +kernel
theorem pd_4 : parseMethodDescriptor "(I)V" = some ⟨[.int], none⟩ := by decide +kernel
theorem pd_5 : parseMethodDescriptor "(ILjava/lang/String;)V" = some ⟨[.int, (.object "java/lang/String")], none⟩ := by decide +kernel
theorem pd_6 : parseMethodDescriptor "(Ljava/lang/String;)Ljava/lang/AbstractStringBuilder;" = some ⟨[(.object "java/lang/String")], some (.object "java/lang/AbstractStringBuilder")⟩ := by decide +kernel
theorem pd_7 : parseMethodDescriptor "(II)V" = some ⟨[.int, .int], none⟩ := by decide +kernel
theorem pd_8 : parseMethodDescriptor "(II)I" = some ⟨[.int, .int], some .int⟩ := by decide +kernel
theorem pd_9 : parseMethodDescriptor "([BII)[B" = some ⟨[(.array .byte), .int, .int], some (.array .byte)⟩ := by decide +kernel
theorem pd_10 : parseMethodDescriptor "()[B" = some ⟨[], some (.array .byte)⟩ := by decide +kernel
theorem pd_11 : parseMethodDescriptor "()Z" = some ⟨[], some .boolean⟩ := by decide +kernel
theorem pd_12 : parseMethodDescriptor "(Ljava/lang/AbstractStringBuilder;Ljava/lang/Void;)V" = some ⟨[(.object "java/lang/AbstractStringBuilder"), (.object "java/lang/Void")], none⟩ := by decide +kernel
theorem pd_13 : parseMethodDescriptor "(Ljava/lang/StringBuilder;)V" = some ⟨[(.object "java/lang/StringBuilder")], none⟩ := by decide +kernel
theorem pd_14 : parseMethodDescriptor "()Ljava/lang/String;" = some ⟨[], some (.object "java/lang/String")⟩ := by decide +kernel
theorem pd_15 : parseMethodDescriptor "(IILjava/util/function/BiFunction;)I" = some ⟨[.int, .int, (.object "java/util/function/BiFunction")], some .int⟩ := by decide +kernel
theorem pd_16 : parseMethodDescriptor "([BI)C" = some ⟨[(.array .byte), .int], some .char⟩ := by decide +kernel
theorem pd_17 : parseMethodDescriptor "([B[B)Z" = some ⟨[(.array .byte), (.array .byte)], some .boolean⟩ := by decide +kernel
theorem pd_18 : parseMethodDescriptor "()V" = some ⟨[], none⟩ := by decide +kernel
theorem pd_19 : parseMethodDescriptor "([CI[BII)I" = some ⟨[(.array .char), .int, (.array .byte), .int, .int], some .int⟩ := by decide +kernel
theorem pd_20 : parseMethodDescriptor "([CII)[B" = some ⟨[(.array .char), .int, .int], some (.array .byte)⟩ := by decide +kernel
theorem pd_21 : parseMethodDescriptor "([BI)B" = some ⟨[(.array .byte), .int], some .byte⟩ := by decide +kernel
theorem pd_22 : parseMethodDescriptor "([CIILjava/lang/Void;)V" = some ⟨[(.array .char), .int, .int, (.object "java/lang/Void")], none⟩ := by decide +kernel
theorem pd_23 : parseMethodDescriptor "([C)V" = some ⟨[(.array .char)], none⟩ := by decide +kernel
theorem pd_24 : parseMethodDescriptor "(Ljava/lang/String;)Ljava/lang/StringBuilder;" = some ⟨[(.object "java/lang/String")], some (.object "java/lang/StringBuilder")⟩ := by decide +kernel
theorem pd_25 : parseMethodDescriptor "(ICCC)Ljava/lang/String;" = some ⟨[.int, .char, .char, .char], some (.object "java/lang/String")⟩ := by decide +kernel
theorem pd_26 : parseMethodDescriptor "(Ljava/lang/Object;)Z" = some ⟨[(.object "java/lang/Object")], some .boolean⟩ := by decide +kernel
theorem pd_27 : parseMethodDescriptor "(I)C" = some ⟨[.int], some .char⟩ := by decide +kernel
theorem d_cod_0 : decode jdk_42_method_152_code 0 = .ok (.getstatic 38, 3) := by decide +kernel
theorem d_cod_3 : decode jdk_42_method_152_code 3 = .ok (.ifCond .eq 10, 3) := by decide +kernel
theorem d_cod_6 : decode jdk_42_method_152_code 6 = .ok (.aload_n 0, 1) := by decide +kernel
theorem d_cod_7 : decode jdk_42_method_152_code 7 = .ok (.getfield 15, 3) := by decide +kernel
theorem d_cod_10 : decode jdk_42_method_152_code 10 = .ok (.goto 4, 3) := by decide +kernel
theorem d_cod_14 : decode jdk_42_method_152_code 14 = .ok (.ireturn, 1) := by decide +kernel
theorem ef_cod (m : MethodId) (sr : Addr) : entryFrame m #[(.ref sr)] 1 = mkF m 0 #[.val (.ref sr)] [] := by first | (simp [entryFrame, mkF, argsToLocals, Value.category]; done) | rfl
theorem pn_cod : plainFor (⟨"java/lang/String", "coder", "()B"⟩ : MethodName) = true := by first | exact plainFor_of_name (by first | (simp [plainName, overriddenIn]; done) | decide +kernel) | decide +kernel
set_option maxRecDepth 65536 in
set_option maxHeartbeats 40000000 in
theorem rm_cod (l : Launch) (Z : State) (a0 : Array Value) (hw : ∀ d ∈ tables_1, d.before a0 Z = true) (sr : Addr) (er : Addr) (ke : ClassId) (us : List Value) (cs : Int32) (h0 : Heap) (Es : Exa Z h0 sr "java/lang/String") (sc : Fld Z h0 sr "java/lang/String" "coder" "B" (.int 0)) (sv : Fld Z h0 sr "java/lang/String" "value" "[B" (.ref er)) (Ae : Arv Z h0 er ke .byte (NI us.length) us (.int 0)) (S0 : Sta Z h0 "java/lang/String" "COMPACT_STRINGS" "Z" (.int cs)) (hcs : ¬ cs = 0) :
    OMet l Z (⟨"java/lang/String", "coder", "()B"⟩ : MethodName) jdk_42_method_152_code 1 (some .byte) [] ({ frames := 0, cells := 0, slots := 0, locals := 0 } : Room) #[(.ref sr)] h0 (OPure (some (.int 0)) h0) := by
  refine OMet.of pn_cod ?_
  intro p e s m below meth c T0 X0 hx hby hml hown0 hnm hret hlk hZ e0
  have hown : s.vm.findClass "java/lang/String" = some m.cls := hown0
  refine OGo.go (fun t k => castTop (ef_cod m sr) k) ?_
  obtain ⟨T1, X1, e1, st1⟩ := getS2 X0 hx hZ hown (host := "") (Or.inl (hw _ (List.mem_of_getElem? (i := 29) rfl))) Via.refl e0 S0 (g := (mkF m 0 #[.val (.ref sr)] [])) rfl (hb hby d_cod_0)
  refine OGo.go (U' := T1.setTop (mkF m 3 #[.val (.ref sr)] [(.int cs)])) st1 ?_
  refine OGo.go (U' := T1.setTop (mkF m 6 #[.val (.ref sr)] [])) (fun _ k => XS.ifNo X1.here hx rfl (hb hby d_cod_3) rfl ((if0 _ _).trans (feq hcs).1) k) ?_
  refine OGo.go (U' := T1.setTop (mkF m 7 #[.val (.ref sr)] [(.ref sr)])) (fun _ k => XS.aloadN X1.here hx rfl (hb hby d_cod_6) rfl rfl k) ?_
  obtain ⟨T2, X2, e2, st2⟩ := getF X1 hx hZ hown (host := "") (Or.inl (hw _ (List.mem_of_getElem? (i := 25) rfl))) Via.refl e1 sc (g := (mkF m 7 #[.val (.ref sr)] [(.ref sr)])) rfl rfl (hb hby d_cod_7)
  refine OGo.go (U' := T2.setTop (mkF m 10 #[.val (.ref sr)] [(.int (0 : Int32))])) st2 ?_
  refine OGo.go (U' := T2.setTop (mkF m 14 #[.val (.ref sr)] [(.int (0 : Int32))])) (fun _ k => XS.goto X2.here hx rfl (pc0 := 10) (pc' := 14) rfl (hb hby d_cod_10) (by decide) (by decide) k) ?_
  refine OGo.retN X2 hx (t := .byte) hret hlk (by simp) (hb hby d_cod_14) ?_ (by decide) (by decide)
  exact ⟨congrArg (fun z => some (Value.int z)) ((by decide : nar .byte 0 = 0)), e2, rfl⟩
theorem d_len_0 : decode jdk_42_method_54_code 0 = .ok (.aload_n 0, 1) := by decide +kernel
theorem d_len_1 : decode jdk_42_method_54_code 1 = .ok (.getfield 9, 3) := by decide +kernel
theorem d_len_4 : decode jdk_42_method_54_code 4 = .ok (.arraylength, 1) := by decide +kernel
theorem d_len_5 : decode jdk_42_method_54_code 5 = .ok (.aload_n 0, 1) := by decide +kernel
theorem d_len_6 : decode jdk_42_method_54_code 6 = .ok (.invokevirtual 335, 3) := by decide +kernel
theorem d_len_9 : decode jdk_42_method_54_code 9 = .ok (.ishr, 1) := by decide +kernel
theorem d_len_10 : decode jdk_42_method_54_code 10 = .ok (.ireturn, 1) := by decide +kernel
theorem ef_len (m : MethodId) (sr : Addr) : entryFrame m #[(.ref sr)] 1 = mkF m 0 #[.val (.ref sr)] [] := by first | (simp [entryFrame, mkF, argsToLocals, Value.category]; done) | rfl
theorem pn_len : plainFor (⟨"java/lang/String", "length", "()I"⟩ : MethodName) = true := by first | exact plainFor_of_name (by first | (simp [plainName, overriddenIn]; done) | decide +kernel) | decide +kernel
set_option maxRecDepth 65536 in
set_option maxHeartbeats 40000000 in
theorem rm_len (l : Launch) (Z : State) (a0 : Array Value) (hw : ∀ d ∈ tables_1, d.before a0 Z = true) (sr : Addr) (er : Addr) (ke : ClassId) (us : List Value) (cs : Int32) (h0 : Heap) (Es : Exa Z h0 sr "java/lang/String") (sc : Fld Z h0 sr "java/lang/String" "coder" "B" (.int 0)) (sv : Fld Z h0 sr "java/lang/String" "value" "[B" (.ref er)) (Ae : Arv Z h0 er ke .byte (NI us.length) us (.int 0)) (S0 : Sta Z h0 "java/lang/String" "COMPACT_STRINGS" "Z" (.int cs)) (hcs : ¬ cs = 0) :
    OMet l Z (⟨"java/lang/String", "length", "()I"⟩ : MethodName) jdk_42_method_54_code 1 (some .int) [] ({ frames := 1, cells := 0, slots := 0, locals := 13 } : Room) #[(.ref sr)] h0 (OPure (some (.int (NI us.length))) h0) := by
  refine OMet.of pn_len ?_
  intro p e s m below meth c T0 X0 hx hby hml hown0 hnm hret hlk hZ e0
  have hown : s.vm.findClass "java/lang/String" = some m.cls := hown0
  refine OGo.go (fun t k => castTop (ef_len m sr) k) ?_
  refine OGo.go (U' := T0.setTop (mkF m 1 #[.val (.ref sr)] [(.ref sr)])) (fun _ k => XS.aloadN X0.here hx rfl (hb hby d_len_0) rfl rfl k) ?_
  obtain ⟨T1, X1, e1, st1⟩ := getF X0 hx hZ hown (host := "") (Or.inl (hw _ (List.mem_of_getElem? (i := 24) rfl))) Via.refl e0 sv (g := (mkF m 1 #[.val (.ref sr)] [(.ref sr)])) rfl rfl (hb hby d_len_1)
  refine OGo.go (U' := T1.setTop (mkF m 4 #[.val (.ref sr)] [(.ref er)])) st1 ?_
  refine OGo.go (U' := T1.setTop (mkF m 5 #[.val (.ref sr)] [(.int (NI us.length))])) (fun _ k => Arv.len' X1 hx hZ e1 Ae (g := (mkF m 4 #[.val (.ref sr)] [(.ref er)])) rfl rfl (hb hby d_len_4) _ k) ?_
  refine OGo.go (U' := T1.setTop (mkF m 6 #[.val (.ref sr)] [(.ref sr), (.int (NI us.length))])) (fun _ k => XS.aloadN X1.here hx rfl (hb hby d_len_5) rfl rfl k) ?_
  refine OGo.callV X1 hx hZ (y := (⟨"java/lang/String", "coder", "()B"⟩ : MethodName)) (C := "java/lang/String") hown (hw _ (List.mem_of_getElem? (i := 139) rfl)) (hw _ (List.mem_of_getElem? (i := 140) rfl)) (hw _ (List.mem_of_getElem? (i := 142) rfl)) (hw _ (List.mem_of_getElem? (i := 141) rfl)) (hw _ (List.mem_of_getElem? (i := 6) rfl)) (hw _ (List.mem_of_getElem? (i := 143) rfl)) (by decide) (g := (mkF m 6 #[.val (.ref sr)] [(.ref sr), (.int (NI us.length))])) (a := sr) (argsL := []) (rest := [(.int (NI us.length))]) e1 Es (rm_cod l Z a0 hw sr er ke us cs h0 Es sc sv Ae S0 hcs) rfl (by rw [hml]; rfl) (lenOf pd_0 rfl) rfl (W := 1) (by show 2 * 0 + _ ≤ _; exact Nat.le_of_eq rfl) (hb hby d_len_6) (by decide) (by decide) (by decide) (by decide) ?_
  rintro _ T3 _ X3 ⟨rfl, e3, rfl⟩
  rw [List.append_nil] at X3
  show OGo p e below _ (T3.setTop (mkF m 9 #[.val (.ref sr)] [(.int (0 : Int32)), (.int (NI us.length))]))
  refine OGo.go (U' := T3.setTop (mkF m 10 #[.val (.ref sr)] [(.int ((NI us.length) >>> ((0 : Int32) &&& 31)))])) (fun _ k => XS.ishr X3.here hx rfl (hb hby d_len_9) rfl k) ?_
  refine OGo.retI X3 hx hret hlk (hb hby d_len_10) ?_ (by decide) (by decide)
  exact ⟨congrArg (fun z => some (Value.int z)) (own_shr0 _), e3, rfl⟩
theorem d_ens_0 : decode jdk_68_method_9_code 0 = .ok (.aload_n 0, 1) := by decide +kernel
theorem d_ens_1 : decode jdk_68_method_9_code 1 = .ok (.getfield 15, 3) := by decide +kernel
theorem d_ens_4 : decode jdk_68_method_9_code 4 = .ok (.arraylength, 1) := by decide +kernel
theorem d_ens_5 : decode jdk_68_method_9_code 5 = .ok (.aload_n 0, 1) := by decide +kernel
theorem d_ens_6 : decode jdk_68_method_9_code 6 = .ok (.getfield 22, 3) := by decide +kernel
theorem d_ens_9 : decode jdk_68_method_9_code 9 = .ok (.ishr, 1) := by decide +kernel
theorem d_ens_10 : decode jdk_68_method_9_code 10 = .ok (.istore_n 2, 1) := by decide +kernel
theorem d_ens_11 : decode jdk_68_method_9_code 11 = .ok (.iload_n 1, 1) := by decide +kernel
theorem d_ens_12 : decode jdk_68_method_9_code 12 = .ok (.iload_n 2, 1) := by decide +kernel
theorem d_ens_13 : decode jdk_68_method_9_code 13 = .ok (.isub, 1) := by decide +kernel
theorem d_ens_14 : decode jdk_68_method_9_code 14 = .ok (.ifCond .le 24, 3) := by decide +kernel
theorem d_ens_38 : decode jdk_68_method_9_code 38 = .ok (.return_, 1) := by decide +kernel
theorem ef_ens (m : MethodId) (br : Addr) (q : Nat) : entryFrame m #[(.ref br), (.int (NI q))] 3 = mkF m 0 #[.val (.ref br), .val (.int (NI q)), .unset] [] := by first | (simp [entryFrame, mkF, argsToLocals, Value.category]; done) | rfl
theorem pn_ens : plainFor (⟨"java/lang/AbstractStringBuilder", "ensureCapacityInternal", "(I)V"⟩ : MethodName) = true := by first | exact plainFor_of_name (by first | (simp [plainName, overriddenIn]; done) | decide +kernel) | decide +kernel
set_option maxRecDepth 65536 in
set_option maxHeartbeats 40000000 in
theorem rm_ens (l : Launch) (Z : State) (a0 : Array Value) (hw : ∀ d ∈ tables_1, d.before a0 Z = true) (br : Addr) (q : Nat) (dr : Addr) (kd : ClassId) (bs : List Value) (h0 : Heap) (EB : Exa Z h0 br "java/lang/StringBuilder") (fv : Fld Z h0 br "java/lang/AbstractStringBuilder" "value" "[B" (.ref dr)) (fc : Fld Z h0 br "java/lang/AbstractStringBuilder" "coder" "B" (.int 0)) (fn : Fld Z h0 br "java/lang/AbstractStringBuilder" "count" "I" (.int (NI bs.length))) (Ad : Arv Z h0 dr kd .byte 256 bs (.int 0)) (hq : q ≤ 256) :
    OMet l Z (⟨"java/lang/AbstractStringBuilder", "ensureCapacityInternal", "(I)V"⟩ : MethodName) jdk_68_method_9_code 3 none [] ({ frames := 0, cells := 0, slots := 0, locals := 0 } : Room) #[(.ref br), (.int (NI q))] h0 (OPure none h0) := by
  refine OMet.of pn_ens ?_
  intro p e s m below meth c T0 X0 hx hby hml hown0 hnm hret hlk hZ e0
  have hown : s.vm.findClass "java/lang/AbstractStringBuilder" = some m.cls := hown0
  refine OGo.go (fun t k => castTop (ef_ens m br q) k) ?_
  refine OGo.go (U' := T0.setTop (mkF m 1 #[.val (.ref br), .val (.int (NI q)), .unset] [(.ref br)])) (fun _ k => XS.aloadN X0.here hx rfl (hb hby d_ens_0) rfl rfl k) ?_
  obtain ⟨T1, X1, e1, st1⟩ := getF X0 hx hZ hown (host := "") (Or.inl (hw _ (List.mem_of_getElem? (i := 61) rfl))) Via.refl e0 fv (g := (mkF m 1 #[.val (.ref br), .val (.int (NI q)), .unset] [(.ref br)])) rfl rfl (hb hby d_ens_1)
  refine OGo.go (U' := T1.setTop (mkF m 4 #[.val (.ref br), .val (.int (NI q)), .unset] [(.ref dr)])) st1 ?_
  refine OGo.go (U' := T1.setTop (mkF m 5 #[.val (.ref br), .val (.int (NI q)), .unset] [(.int (256 : Int32))])) (fun _ k => Arv.len' X1 hx hZ e1 Ad (g := (mkF m 4 #[.val (.ref br), .val (.int (NI q)), .unset] [(.ref dr)])) rfl rfl (hb hby d_ens_4) _ k) ?_
  refine OGo.go (U' := T1.setTop (mkF m 6 #[.val (.ref br), .val (.int (NI q)), .unset] [(.ref br), (.int (256 : Int32))])) (fun _ k => XS.aloadN X1.here hx rfl (hb hby d_ens_5) rfl rfl k) ?_
  obtain ⟨T3, X3, e3, st3⟩ := getF X1 hx hZ hown (host := "") (Or.inl (hw _ (List.mem_of_getElem? (i := 63) rfl))) Via.refl e1 fc (g := (mkF m 6 #[.val (.ref br), .val (.int (NI q)), .unset] [(.ref br), (.int (256 : Int32))])) rfl rfl (hb hby d_ens_6)
  refine OGo.go (U' := T3.setTop (mkF m 9 #[.val (.ref br), .val (.int (NI q)), .unset] [(.int (0 : Int32)), (.int (256 : Int32))])) st3 ?_
  refine OGo.go (U' := T3.setTop (mkF m 10 #[.val (.ref br), .val (.int (NI q)), .unset] [(.int ((256 : Int32) >>> ((0 : Int32) &&& 31)))])) (fun _ k => XS.ishr X3.here hx rfl (hb hby d_ens_9) rfl k) ?_
  refine OGo.go (U' := T3.setTop (mkF m 11 #[.val (.ref br), .val (.int (NI q)), .val (.int ((256 : Int32) >>> ((0 : Int32) &&& 31)))] [])) (fun _ k => XS.istoreN X3.here hx rfl (hb hby d_ens_10) rfl (l' := #[.val (.ref br), .val (.int (NI q)), .val (.int ((256 : Int32) >>> ((0 : Int32) &&& 31)))]) rfl k) ?_
  refine OGo.go (U' := T3.setTop (mkF m 12 #[.val (.ref br), .val (.int (NI q)), .val (.int ((256 : Int32) >>> ((0 : Int32) &&& 31)))] [(.int (NI q))])) (fun _ k => XS.iloadN X3.here hx rfl (hb hby d_ens_11) rfl k) ?_
  refine OGo.go (U' := T3.setTop (mkF m 13 #[.val (.ref br), .val (.int (NI q)), .val (.int ((256 : Int32) >>> ((0 : Int32) &&& 31)))] [(.int ((256 : Int32) >>> ((0 : Int32) &&& 31))), (.int (NI q))])) (fun _ k => XS.iloadN X3.here hx rfl (hb hby d_ens_12) rfl k) ?_
  refine OGo.go (U' := T3.setTop (mkF m 14 #[.val (.ref br), .val (.int (NI q)), .val (.int ((256 : Int32) >>> ((0 : Int32) &&& 31)))] [(.int ((NI q) - ((256 : Int32) >>> ((0 : Int32) &&& 31))))])) (fun _ k => XS.isub X3.here hx rfl (hb hby d_ens_13) rfl k) ?_
  refine OGo.go (U' := T3.setTop (mkF m 38 #[.val (.ref br), .val (.int (NI q)), .val (.int ((256 : Int32) >>> ((0 : Int32) &&& 31)))] [])) (fun _ k => XS.ifYes X3.here hx rfl (pc0 := 14) (pc' := 38) rfl (hb hby d_ens_14) rfl ((if0 _ _).trans (flt (own_ens hq)).2.2.2) (by decide) (by decide) k) ?_
  refine OGo.ret0 X3 hx hret hlk (hb hby d_ens_38) ?_ (by decide) (by decide)
  exact ⟨rfl, e3, rfl⟩
theorem d_inf_0 : decode jdk_68_method_71_code 0 = .ok (.getstatic 18, 3) := by decide +kernel
theorem d_inf_3 : decode jdk_68_method_71_code 3 = .ok (.ifCond .eq 18, 3) := by decide +kernel
theorem d_inf_6 : decode jdk_68_method_71_code 6 = .ok (.aload_n 0, 1) := by decide +kernel
theorem d_inf_7 : decode jdk_68_method_71_code 7 = .ok (.getfield 22, 3) := by decide +kernel
theorem d_inf_10 : decode jdk_68_method_71_code 10 = .ok (.aload_n 1, 1) := by decide +kernel
theorem d_inf_11 : decode jdk_68_method_71_code 11 = .ok (.invokevirtual 40, 3) := by decide +kernel
theorem d_inf_14 : decode jdk_68_method_71_code 14 = .ok (.if_icmp .eq 7, 3) := by decide +kernel
theorem d_inf_21 : decode jdk_68_method_71_code 21 = .ok (.return_, 1) := by decide +kernel
theorem ef_inf (m : MethodId) (br : Addr) (sr : Addr) : entryFrame m #[(.ref br), (.ref sr)] 2 = mkF m 0 #[.val (.ref br), .val (.ref sr)] [] := by first | (simp [entryFrame, mkF, argsToLocals, Value.category]; done) | rfl
theorem pn_inf : plainFor (⟨"java/lang/AbstractStringBuilder", "inflateIfNeededFor", "(Ljava/lang/String;)V"⟩ : MethodName) = true := by first | exact plainFor_of_name (by first | (simp [plainName, overriddenIn]; done) | decide +kernel) | decide +kernel
set_option maxRecDepth 65536 in
set_option maxHeartbeats 40000000 in
theorem rm_inf (l : Launch) (Z : State) (a0 : Array Value) (hw : ∀ d ∈ tables_1, d.before a0 Z = true) (br : Addr) (sr : Addr) (dr : Addr) (kd : ClassId) (bs : List Value) (er : Addr) (ke : ClassId) (us : List Value) (cs : Int32) (h0 : Heap) (EB : Exa Z h0 br "java/lang/StringBuilder") (fv : Fld Z h0 br "java/lang/AbstractStringBuilder" "value" "[B" (.ref dr)) (fc : Fld Z h0 br "java/lang/AbstractStringBuilder" "coder" "B" (.int 0)) (fn : Fld Z h0 br "java/lang/AbstractStringBuilder" "count" "I" (.int (NI bs.length))) (Ad : Arv Z h0 dr kd .byte 256 bs (.int 0)) (Es : Exa Z h0 sr "java/lang/String") (sc : Fld Z h0 sr "java/lang/String" "coder" "B" (.int 0)) (sv : Fld Z h0 sr "java/lang/String" "value" "[B" (.ref er)) (Ae : Arv Z h0 er ke .byte (NI us.length) us (.int 0)) (S0 : Sta Z h0 "java/lang/String" "COMPACT_STRINGS" "Z" (.int cs)) (hcs : ¬ cs = 0) :
    OMet l Z (⟨"java/lang/AbstractStringBuilder", "inflateIfNeededFor", "(Ljava/lang/String;)V"⟩ : MethodName) jdk_68_method_71_code 2 none [] ({ frames := 1, cells := 0, slots := 0, locals := 13 } : Room) #[(.ref br), (.ref sr)] h0 (OPure none h0) := by
  refine OMet.of pn_inf ?_
  intro p e s m below meth c T0 X0 hx hby hml hown0 hnm hret hlk hZ e0
  have hown : s.vm.findClass "java/lang/AbstractStringBuilder" = some m.cls := hown0
  refine OGo.go (fun t k => castTop (ef_inf m br sr) k) ?_
  obtain ⟨T1, X1, e1, st1⟩ := getS2 X0 hx hZ hown (host := "") (Or.inl (hw _ (List.mem_of_getElem? (i := 60) rfl))) Via.refl e0 S0 (g := (mkF m 0 #[.val (.ref br), .val (.ref sr)] [])) rfl (hb hby d_inf_0)
  refine OGo.go (U' := T1.setTop (mkF m 3 #[.val (.ref br), .val (.ref sr)] [(.int cs)])) st1 ?_
  refine OGo.go (U' := T1.setTop (mkF m 6 #[.val (.ref br), .val (.ref sr)] [])) (fun _ k => XS.ifNo X1.here hx rfl (hb hby d_inf_3) rfl ((if0 _ _).trans (feq hcs).1) k) ?_
  refine OGo.go (U' := T1.setTop (mkF m 7 #[.val (.ref br), .val (.ref sr)] [(.ref br)])) (fun _ k => XS.aloadN X1.here hx rfl (hb hby d_inf_6) rfl rfl k) ?_
  obtain ⟨T2, X2, e2, st2⟩ := getF X1 hx hZ hown (host := "") (Or.inl (hw _ (List.mem_of_getElem? (i := 63) rfl))) Via.refl e1 fc (g := (mkF m 7 #[.val (.ref br), .val (.ref sr)] [(.ref br)])) rfl rfl (hb hby d_inf_7)
  refine OGo.go (U' := T2.setTop (mkF m 10 #[.val (.ref br), .val (.ref sr)] [(.int (0 : Int32))])) st2 ?_
  refine OGo.go (U' := T2.setTop (mkF m 11 #[.val (.ref br), .val (.ref sr)] [(.ref sr), (.int (0 : Int32))])) (fun _ k => XS.aloadN X2.here hx rfl (hb hby d_inf_10) rfl rfl k) ?_
  refine OGo.callV X2 hx hZ (y := (⟨"java/lang/String", "coder", "()B"⟩ : MethodName)) (C := "java/lang/String") hown (hw _ (List.mem_of_getElem? (i := 161) rfl)) (hw _ (List.mem_of_getElem? (i := 140) rfl)) (hw _ (List.mem_of_getElem? (i := 142) rfl)) (hw _ (List.mem_of_getElem? (i := 141) rfl)) (hw _ (List.mem_of_getElem? (i := 6) rfl)) (hw _ (List.mem_of_getElem? (i := 143) rfl)) (by decide) (g := (mkF m 11 #[.val (.ref br), .val (.ref sr)] [(.ref sr), (.int (0 : Int32))])) (a := sr) (argsL := []) (rest := [(.int (0 : Int32))]) e2 Es (rm_cod l Z a0 hw sr er ke us cs h0 Es sc sv Ae S0 hcs) rfl (by rw [hml]; rfl) (lenOf pd_0 rfl) rfl (W := 1) (by show 2 * 0 + _ ≤ _; exact Nat.le_of_eq rfl) (hb hby d_inf_11) (by decide) (by decide) (by decide) (by decide) ?_
  rintro _ T3 _ X3 ⟨rfl, e3, rfl⟩
  rw [List.append_nil] at X3
  show OGo p e below _ (T3.setTop (mkF m 14 #[.val (.ref br), .val (.ref sr)] [(.int (0 : Int32)), (.int (0 : Int32))]))
  refine OGo.go (U' := T3.setTop (mkF m 21 #[.val (.ref br), .val (.ref sr)] [])) (fun _ k => XS.icmpYes X3.here hx rfl (pc0 := 14) (pc' := 21) rfl (hb hby d_inf_14) rfl (teq rfl).1 (by decide) (by decide) k) ?_
  refine OGo.ret0 X3 hx hret hlk (hb hby d_inf_21) ?_ (by decide) (by decide)
  exact ⟨rfl, e3, rfl⟩
theorem d_gtb_0 : decode jdk_42_method_147_code 0 = .ok (.aload_n 0, 1) := by decide +kernel
theorem d_gtb_1 : decode jdk_42_method_147_code 1 = .ok (.invokevirtual 335, 3) := by decide +kernel
theorem d_gtb_4 : decode jdk_42_method_147_code 4 = .ok (.iload_n 3, 1) := by decide +kernel
theorem d_gtb_5 : decode jdk_42_method_147_code 5 = .ok (.if_icmp .ne 23, 3) := by decide +kernel
theorem d_gtb_8 : decode jdk_42_method_147_code 8 = .ok (.aload_n 0, 1) := by decide +kernel
theorem d_gtb_9 : decode jdk_42_method_147_code 9 = .ok (.getfield 9, 3) := by decide +kernel
theorem d_gtb_12 : decode jdk_42_method_147_code 12 = .ok (.iconst 0, 1) := by decide +kernel
theorem d_gtb_13 : decode jdk_42_method_147_code 13 = .ok (.aload_n 1, 1) := by decide +kernel
theorem d_gtb_14 : decode jdk_42_method_147_code 14 = .ok (.iload_n 2, 1) := by decide +kernel
theorem d_gtb_15 : decode jdk_42_method_147_code 15 = .ok (.iload_n 3, 1) := by decide +kernel
theorem d_gtb_16 : decode jdk_42_method_147_code 16 = .ok (.ishl, 1) := by decide +kernel
theorem d_gtb_17 : decode jdk_42_method_147_code 17 = .ok (.aload_n 0, 1) := by decide +kernel
theorem d_gtb_18 : decode jdk_42_method_147_code 18 = .ok (.getfield 9, 3) := by decide +kernel
theorem d_gtb_21 : decode jdk_42_method_147_code 21 = .ok (.arraylength, 1) := by decide +kernel
theorem d_gtb_22 : decode jdk_42_method_147_code 22 = .ok (.invokestatic 212, 3) := by decide +kernel
theorem d_gtb_25 : decode jdk_42_method_147_code 25 = .ok (.goto 18, 3) := by decide +kernel
theorem d_gtb_43 : decode jdk_42_method_147_code 43 = .ok (.return_, 1) := by decide +kernel
theorem ef_gtb (m : MethodId) (sr dr : Addr) (bs : List Value) : entryFrame m #[(.ref sr), (.ref dr), (.int (NI bs.length)), (.int (0 : Int32))] 4 = mkF m 0 #[.val (.ref sr), .val (.ref dr), .val (.int (NI bs.length)), .val (.int (0 : Int32))] [] := by first | (simp [entryFrame, mkF, argsToLocals, Value.category]; done) | rfl
theorem pn_gtb : plainFor (⟨"java/lang/String", "getBytes", "([BIB)V"⟩ : MethodName) = true := by first | exact plainFor_of_name (by first | (simp [plainName, overriddenIn]; done) | decide +kernel) | decide +kernel
set_option maxRecDepth 65536 in
set_option maxHeartbeats 40000000 in
theorem rm_gtb (l : Launch) (Z : State) (a0 : Array Value) (hw : ∀ d ∈ tables_1, d.before a0 Z = true) (sr dr : Addr) (bs : List Value) (kd : ClassId) (er : Addr) (ke : ClassId) (us : List Value) (cs : Int32) (n0 : Nat) (h0 : Heap) (Es : Exa Z h0 sr "java/lang/String") (sc : Fld Z h0 sr "java/lang/String" "coder" "B" (.int 0)) (sv : Fld Z h0 sr "java/lang/String" "value" "[B" (.ref er)) (Ae : Arv Z h0 er ke .byte (NI us.length) us (.int 0)) (Ad : Arv Z h0 dr kd .byte 256 bs (.int 0)) (S0 : Sta Z h0 "java/lang/String" "COMPACT_STRINGS" "Z" (.int cs)) (hcs : ¬ cs = 0) (Z0 : n0 ≤ h0.size) (gd : n0 ≤ dr) (hed : er ≠ dr) (hsd : sr ≠ dr) (hlen : bs.length + us.length ≤ 256) :
    OMet l Z (⟨"java/lang/String", "getBytes", "([BIB)V"⟩ : MethodName) jdk_42_method_147_code 4 none [] ({ frames := 1, cells := 0, slots := 0, locals := 24 } : Room) #[(.ref sr), (.ref dr), (.int (NI bs.length)), (.int (0 : Int32))] h0 (fun v h L => v = none ∧ Fr n0 L ∧ Keep h0 h [dr] ∧ Arv Z h dr kd .byte 256 (bs ++ us) (.int 0)) := by
  refine OMet.of pn_gtb ?_
  intro p e s m below meth c T0 X0 hx hby hml hown0 hnm hret hlk hZ e0
  have hown : s.vm.findClass "java/lang/String" = some m.cls := hown0
  refine OGo.go (fun t k => castTop (ef_gtb m sr dr bs) k) ?_
  refine OGo.go (U' := T0.setTop (mkF m 1 #[.val (.ref sr), .val (.ref dr), .val (.int (NI bs.length)), .val (.int (0 : Int32))] [(.ref sr)])) (fun _ k => XS.aloadN X0.here hx rfl (hb hby d_gtb_0) rfl rfl k) ?_
  refine OGo.callV X0 hx hZ (y := (⟨"java/lang/String", "coder", "()B"⟩ : MethodName)) (C := "java/lang/String") hown (hw _ (List.mem_of_getElem? (i := 139) rfl)) (hw _ (List.mem_of_getElem? (i := 140) rfl)) (hw _ (List.mem_of_getElem? (i := 142) rfl)) (hw _ (List.mem_of_getElem? (i := 141) rfl)) (hw _ (List.mem_of_getElem? (i := 6) rfl)) (hw _ (List.mem_of_getElem? (i := 143) rfl)) (by decide) (g := (mkF m 1 #[.val (.ref sr), .val (.ref dr), .val (.int (NI bs.length)), .val (.int (0 : Int32))] [(.ref sr)])) (a := sr) (argsL := []) (rest := []) e0 Es (rm_cod l Z a0 hw sr er ke us cs h0 Es sc sv Ae S0 hcs) rfl (by rw [hml]; rfl) (lenOf pd_0 rfl) rfl (W := 0) (by show 2 * 0 + _ ≤ _; exact Nat.le_of_eq rfl) (hb hby d_gtb_1) (by decide) (by decide) (by decide) (by decide) ?_
  rintro _ T1 _ X1 ⟨rfl, e1, rfl⟩
  rw [List.append_nil] at X1
  show OGo p e below _ (T1.setTop (mkF m 4 #[.val (.ref sr), .val (.ref dr), .val (.int (NI bs.length)), .val (.int (0 : Int32))] [(.int (0 : Int32))]))
  refine OGo.go (U' := T1.setTop (mkF m 5 #[.val (.ref sr), .val (.ref dr), .val (.int (NI bs.length)), .val (.int (0 : Int32))] [(.int (0 : Int32)), (.int (0 : Int32))])) (fun _ k => XS.iloadN X1.here hx rfl (hb hby d_gtb_4) rfl k) ?_
  refine OGo.go (U' := T1.setTop (mkF m 8 #[.val (.ref sr), .val (.ref dr), .val (.int (NI bs.length)), .val (.int (0 : Int32))] [])) (fun _ k => XS.icmpNo X1.here hx rfl (hb hby d_gtb_5) rfl (teq rfl).2 k) ?_
  refine OGo.go (U' := T1.setTop (mkF m 9 #[.val (.ref sr), .val (.ref dr), .val (.int (NI bs.length)), .val (.int (0 : Int32))] [(.ref sr)])) (fun _ k => XS.aloadN X1.here hx rfl (hb hby d_gtb_8) rfl rfl k) ?_
  obtain ⟨T2, X2, e2, st2⟩ := getF X1 hx hZ hown (host := "") (Or.inl (hw _ (List.mem_of_getElem? (i := 24) rfl))) Via.refl e1 sv (g := (mkF m 9 #[.val (.ref sr), .val (.ref dr), .val (.int (NI bs.length)), .val (.int (0 : Int32))] [(.ref sr)])) rfl rfl (hb hby d_gtb_9)
  refine OGo.go (U' := T2.setTop (mkF m 12 #[.val (.ref sr), .val (.ref dr), .val (.int (NI bs.length)), .val (.int (0 : Int32))] [(.ref er)])) st2 ?_
  refine OGo.go (U' := T2.setTop (mkF m 13 #[.val (.ref sr), .val (.ref dr), .val (.int (NI bs.length)), .val (.int (0 : Int32))] [(.int (0 : Int32)), (.ref er)])) (fun _ k => XS.iconst X2.here hx rfl (hb hby d_gtb_12) k) ?_
  refine OGo.go (U' := T2.setTop (mkF m 14 #[.val (.ref sr), .val (.ref dr), .val (.int (NI bs.length)), .val (.int (0 : Int32))] [(.ref dr), (.int (0 : Int32)), (.ref er)])) (fun _ k => XS.aloadN X2.here hx rfl (hb hby d_gtb_13) rfl rfl k) ?_
  refine OGo.go (U' := T2.setTop (mkF m 15 #[.val (.ref sr), .val (.ref dr), .val (.int (NI bs.length)), .val (.int (0 : Int32))] [(.int (NI bs.length)), (.ref dr), (.int (0 : Int32)), (.ref er)])) (fun _ k => XS.iloadN X2.here hx rfl (hb hby d_gtb_14) rfl k) ?_
  refine OGo.go (U' := T2.setTop (mkF m 16 #[.val (.ref sr), .val (.ref dr), .val (.int (NI bs.length)), .val (.int (0 : Int32))] [(.int (0 : Int32)), (.int (NI bs.length)), (.ref dr), (.int (0 : Int32)), (.ref er)])) (fun _ k => XS.iloadN X2.here hx rfl (hb hby d_gtb_15) rfl k) ?_
  refine OGo.go (U' := T2.setTop (mkF m 17 #[.val (.ref sr), .val (.ref dr), .val (.int (NI bs.length)), .val (.int (0 : Int32))] [(.int ((NI bs.length) <<< ((0 : Int32) &&& 31))), (.ref dr), (.int (0 : Int32)), (.ref er)])) (fun _ k => XS.ishl X2.here hx rfl (hb hby d_gtb_16) rfl k) ?_
  refine OGo.go (U' := T2.setTop (mkF m 18 #[.val (.ref sr), .val (.ref dr), .val (.int (NI bs.length)), .val (.int (0 : Int32))] [(.ref sr), (.int ((NI bs.length) <<< ((0 : Int32) &&& 31))), (.ref dr), (.int (0 : Int32)), (.ref er)])) (fun _ k => XS.aloadN X2.here hx rfl (hb hby d_gtb_17) rfl rfl k) ?_
  obtain ⟨T3, X3, e3, st3⟩ := getF X2 hx hZ hown (host := "") (Or.inl (hw _ (List.mem_of_getElem? (i := 24) rfl))) Via.refl e2 sv (g := (mkF m 18 #[.val (.ref sr), .val (.ref dr), .val (.int (NI bs.length)), .val (.int (0 : Int32))] [(.ref sr), (.int ((NI bs.length) <<< ((0 : Int32) &&& 31))), (.ref dr), (.int (0 : Int32)), (.ref er)])) rfl rfl (hb hby d_gtb_18)
  refine OGo.go (U' := T3.setTop (mkF m 21 #[.val (.ref sr), .val (.ref dr), .val (.int (NI bs.length)), .val (.int (0 : Int32))] [(.ref er), (.int ((NI bs.length) <<< ((0 : Int32) &&& 31))), (.ref dr), (.int (0 : Int32)), (.ref er)])) st3 ?_
  refine OGo.go (U' := T3.setTop (mkF m 22 #[.val (.ref sr), .val (.ref dr), .val (.int (NI bs.length)), .val (.int (0 : Int32))] [(.int (NI us.length)), (.int ((NI bs.length) <<< ((0 : Int32) &&& 31))), (.ref dr), (.int (0 : Int32)), (.ref er)])) (fun _ k => Arv.len' X3 hx hZ e3 Ae (g := (mkF m 21 #[.val (.ref sr), .val (.ref dr), .val (.int (NI bs.length)), .val (.int (0 : Int32))] [(.ref er), (.int ((NI bs.length) <<< ((0 : Int32) &&& 31))), (.ref dr), (.int (0 : Int32)), (.ref er)])) rfl rfl (hb hby d_gtb_21) _ k) ?_
  rw [own_shl0]
  obtain ⟨T5, h5, L5, X5, e5, N5, K5, A5, st5⟩ := own_cp X3 hx hZ hown (hw _ (List.mem_of_getElem? (i := 167) rfl)) (hw _ (List.mem_of_getElem? (i := 170) rfl)) (hw _ (List.mem_of_getElem? (i := 168) rfl)) (hw _ (List.mem_of_getElem? (i := 169) rfl)) e3 Ae Ad hlen (Fr.nil n0) gd (g := (mkF m 22 #[.val (.ref sr), .val (.ref dr), .val (.int (NI bs.length)), .val (.int (0 : Int32))] [(.int (NI us.length)), (.int (NI bs.length)), (.ref dr), (.int (0 : Int32)), (.ref er)])) rfl (by rw [hml]; rfl) rfl (hb hby d_gtb_22) (by decide) (W := 0) (by show 2 * 0 + _ ≤ _; exact Nat.le_of_eq rfl) (by decide)
  have f6 := own_sta_keep S0 K5 (allS (P := fun x => ∀ cell : Cell, _ → cell.vm.isStatics = false) (Arv.nostat Ad) all0)
  have f7 := Es.keep K5
  have f8 := sc.keep K5 (ninS hsd nin0)
  have f9 := sv.keep K5 (ninS hsd nin0)
  have f10 := Ae.keep K5 (ninS hed nin0)
  have K11 := (Keep.refl h0 [dr]).trans K5 (allS (P := fun x => x ∈ _ ∨ _ ≤ x) (Or.inl (List.mem_of_getElem? (i := 0) rfl)) all0)
  refine OGo.go (U' := T5.setTop (mkF m 25 #[.val (.ref sr), .val (.ref dr), .val (.int (NI bs.length)), .val (.int (0 : Int32))] [])) st5 ?_
  refine OGo.go (U' := T5.setTop (mkF m 43 #[.val (.ref sr), .val (.ref dr), .val (.int (NI bs.length)), .val (.int (0 : Int32))] [])) (fun _ k => XS.goto X5.here hx rfl (pc0 := 25) (pc' := 43) rfl (hb hby d_gtb_25) (by decide) (by decide) k) ?_
  refine OGo.ret0 X5 hx hret hlk (hb hby d_gtb_43) ?_ (by decide) (by decide)
  rw [e5]
  exact ⟨rfl, N5, K11, A5⟩
theorem d_pst_0 : decode jdk_68_method_73_code 0 = .ok (.aload_n 0, 1) := by decide +kernel
theorem d_pst_1 : decode jdk_68_method_73_code 1 = .ok (.aload_n 2, 1) := by decide +kernel
theorem d_pst_2 : decode jdk_68_method_73_code 2 = .ok (.invokevirtual 397, 3) := by decide +kernel
theorem d_pst_5 : decode jdk_68_method_73_code 5 = .ok (.aload_n 2, 1) := by decide +kernel
theorem d_pst_6 : decode jdk_68_method_73_code 6 = .ok (.aload_n 0, 1) := by decide +kernel
theorem d_pst_7 : decode jdk_68_method_73_code 7 = .ok (.getfield 15, 3) := by decide +kernel
theorem d_pst_10 : decode jdk_68_method_73_code 10 = .ok (.iload_n 1, 1) := by decide +kernel
theorem d_pst_11 : decode jdk_68_method_73_code 11 = .ok (.aload_n 0, 1) := by decide +kernel
theorem d_pst_12 : decode jdk_68_method_73_code 12 = .ok (.getfield 22, 3) := by decide +kernel
theorem d_pst_15 : decode jdk_68_method_73_code 15 = .ok (.invokevirtual 399, 3) := by decide +kernel
theorem d_pst_18 : decode jdk_68_method_73_code 18 = .ok (.return_, 1) := by decide +kernel
theorem ef_pst (m : MethodId) (br sr : Addr) (bs : List Value) : entryFrame m #[(.ref br), (.int (NI bs.length)), (.ref sr)] 3 = mkF m 0 #[.val (.ref br), .val (.int (NI bs.length)), .val (.ref sr)] [] := by first | (simp [entryFrame, mkF, argsToLocals, Value.category]; done) | rfl
theorem pn_pst : plainFor (⟨"java/lang/AbstractStringBuilder", "putStringAt", "(ILjava/lang/String;)V"⟩ : MethodName) = true := by first | exact plainFor_of_name (by first | (simp [plainName, overriddenIn]; done) | decide +kernel) | decide +kernel
set_option maxRecDepth 65536 in
set_option maxHeartbeats 40000000 in
theorem rm_pst (l : Launch) (Z : State) (a0 : Array Value) (hw : ∀ d ∈ tables_1, d.before a0 Z = true) (br sr : Addr) (bs : List Value) (dr : Addr) (kd : ClassId) (er : Addr) (ke : ClassId) (us : List Value) (cs : Int32) (n0 : Nat) (h0 : Heap) (EB : Exa Z h0 br "java/lang/StringBuilder") (fv : Fld Z h0 br "java/lang/AbstractStringBuilder" "value" "[B" (.ref dr)) (fc : Fld Z h0 br "java/lang/AbstractStringBuilder" "coder" "B" (.int 0)) (fn : Fld Z h0 br "java/lang/AbstractStringBuilder" "count" "I" (.int (NI bs.length))) (Ad : Arv Z h0 dr kd .byte 256 bs (.int 0)) (Es : Exa Z h0 sr "java/lang/String") (sc : Fld Z h0 sr "java/lang/String" "coder" "B" (.int 0)) (sv : Fld Z h0 sr "java/lang/String" "value" "[B" (.ref er)) (Ae : Arv Z h0 er ke .byte (NI us.length) us (.int 0)) (S0 : Sta Z h0 "java/lang/String" "COMPACT_STRINGS" "Z" (.int cs)) (hcs : ¬ cs = 0) (Z0 : n0 ≤ h0.size) (gd : n0 ≤ dr) (hed : er ≠ dr) (hsd : sr ≠ dr) (hlen : bs.length + us.length ≤ 256) (had : br ≠ dr) :
    OMet l Z (⟨"java/lang/AbstractStringBuilder", "putStringAt", "(ILjava/lang/String;)V"⟩ : MethodName) jdk_68_method_73_code 3 none [] ({ frames := 2, cells := 0, slots := 0, locals := 40 } : Room) #[(.ref br), (.int (NI bs.length)), (.ref sr)] h0 (fun v h L => v = none ∧ Fr n0 L ∧ Keep h0 h [dr] ∧ Arv Z h dr kd .byte 256 (bs ++ us) (.int 0)) := by
  refine OMet.of pn_pst ?_
  intro p e s m below meth c T0 X0 hx hby hml hown0 hnm hret hlk hZ e0
  have hown : s.vm.findClass "java/lang/AbstractStringBuilder" = some m.cls := hown0
  refine OGo.go (fun t k => castTop (ef_pst m br sr bs) k) ?_
  refine OGo.go (U' := T0.setTop (mkF m 1 #[.val (.ref br), .val (.int (NI bs.length)), .val (.ref sr)] [(.ref br)])) (fun _ k => XS.aloadN X0.here hx rfl (hb hby d_pst_0) rfl rfl k) ?_
  refine OGo.go (U' := T0.setTop (mkF m 2 #[.val (.ref br), .val (.int (NI bs.length)), .val (.ref sr)] [(.ref sr), (.ref br)])) (fun _ k => XS.aloadN X0.here hx rfl (hb hby d_pst_1) rfl rfl k) ?_
  refine OGo.callP X0 hx hZ (y := (⟨"java/lang/AbstractStringBuilder", "inflateIfNeededFor", "(Ljava/lang/String;)V"⟩ : MethodName)) (C := "java/lang/StringBuilder") hown (hw _ (List.mem_of_getElem? (i := 156) rfl)) (hw _ (List.mem_of_getElem? (i := 158) rfl)) (hw _ (List.mem_of_getElem? (i := 159) rfl)) (hw _ (List.mem_of_getElem? (i := 157) rfl)) (hw _ (List.mem_of_getElem? (i := 57) rfl)) (hw _ (List.mem_of_getElem? (i := 160) rfl)) (by decide) (g := (mkF m 2 #[.val (.ref br), .val (.int (NI bs.length)), .val (.ref sr)] [(.ref sr), (.ref br)])) (a := br) (argsL := [(.ref sr)]) (rest := []) e0 EB (rm_inf l Z a0 hw br sr dr kd bs er ke us cs h0 EB fv fc fn Ad Es sc sv Ae S0 hcs) rfl (by rw [hml]; rfl) (lenOf pd_1 rfl) rfl (W := 0) (by show 2 * 0 + _ ≤ _; exact Nat.le_of_eq rfl) (hb hby d_pst_2) (by decide) (by decide) (by decide) (by decide) ?_
  rintro _ T1 _ X1 ⟨rfl, e1, rfl⟩
  rw [List.append_nil] at X1
  show OGo p e below _ (T1.setTop (mkF m 5 #[.val (.ref br), .val (.int (NI bs.length)), .val (.ref sr)] []))
  refine OGo.go (U' := T1.setTop (mkF m 6 #[.val (.ref br), .val (.int (NI bs.length)), .val (.ref sr)] [(.ref sr)])) (fun _ k => XS.aloadN X1.here hx rfl (hb hby d_pst_5) rfl rfl k) ?_
  refine OGo.go (U' := T1.setTop (mkF m 7 #[.val (.ref br), .val (.int (NI bs.length)), .val (.ref sr)] [(.ref br), (.ref sr)])) (fun _ k => XS.aloadN X1.here hx rfl (hb hby d_pst_6) rfl rfl k) ?_
  obtain ⟨T2, X2, e2, st2⟩ := getF X1 hx hZ hown (host := "") (Or.inl (hw _ (List.mem_of_getElem? (i := 61) rfl))) Via.refl e1 fv (g := (mkF m 7 #[.val (.ref br), .val (.int (NI bs.length)), .val (.ref sr)] [(.ref br), (.ref sr)])) rfl rfl (hb hby d_pst_7)
  refine OGo.go (U' := T2.setTop (mkF m 10 #[.val (.ref br), .val (.int (NI bs.length)), .val (.ref sr)] [(.ref dr), (.ref sr)])) st2 ?_
  refine OGo.go (U' := T2.setTop (mkF m 11 #[.val (.ref br), .val (.int (NI bs.length)), .val (.ref sr)] [(.int (NI bs.length)), (.ref dr), (.ref sr)])) (fun _ k => XS.iloadN X2.here hx rfl (hb hby d_pst_10) rfl k) ?_
  refine OGo.go (U' := T2.setTop (mkF m 12 #[.val (.ref br), .val (.int (NI bs.length)), .val (.ref sr)] [(.ref br), (.int (NI bs.length)), (.ref dr), (.ref sr)])) (fun _ k => XS.aloadN X2.here hx rfl (hb hby d_pst_11) rfl rfl k) ?_
  obtain ⟨T3, X3, e3, st3⟩ := getF X2 hx hZ hown (host := "") (Or.inl (hw _ (List.mem_of_getElem? (i := 63) rfl))) Via.refl e2 fc (g := (mkF m 12 #[.val (.ref br), .val (.int (NI bs.length)), .val (.ref sr)] [(.ref br), (.int (NI bs.length)), (.ref dr), (.ref sr)])) rfl rfl (hb hby d_pst_12)
  refine OGo.go (U' := T3.setTop (mkF m 15 #[.val (.ref br), .val (.int (NI bs.length)), .val (.ref sr)] [(.int (0 : Int32)), (.int (NI bs.length)), (.ref dr), (.ref sr)])) st3 ?_
  refine OGo.callV X3 hx hZ (y := (⟨"java/lang/String", "getBytes", "([BIB)V"⟩ : MethodName)) (C := "java/lang/String") hown (hw _ (List.mem_of_getElem? (i := 162) rfl)) (hw _ (List.mem_of_getElem? (i := 163) rfl)) (hw _ (List.mem_of_getElem? (i := 165) rfl)) (hw _ (List.mem_of_getElem? (i := 164) rfl)) (hw _ (List.mem_of_getElem? (i := 6) rfl)) (hw _ (List.mem_of_getElem? (i := 166) rfl)) (by decide) (g := (mkF m 15 #[.val (.ref br), .val (.int (NI bs.length)), .val (.ref sr)] [(.int (0 : Int32)), (.int (NI bs.length)), (.ref dr), (.ref sr)])) (a := sr) (argsL := [(.ref dr), (.int (NI bs.length)), (.int (0 : Int32))]) (rest := []) e3 Es (rm_gtb l Z a0 hw sr dr bs kd er ke us cs n0 h0 Es sc sv Ae Ad S0 hcs Z0 gd hed hsd hlen) rfl (by rw [hml]; rfl) (lenOf pd_2 rfl) rfl (W := 0) (by show 2 * 0 + _ ≤ _; exact Nat.le_of_eq rfl) (hb hby d_pst_15) (by decide) (by decide) (by decide) (by decide) ?_
  rintro _ T4 L4 X4 ⟨rfl, N4, K4, A4⟩
  have e4 : T4.heap = T4.heap := rfl
  have N5 := Fr.app (Fr.nil n0) N4
  have f6 := own_sta_keep S0 K4 (allS (P := fun x => ∀ cell : Cell, _ → cell.vm.isStatics = false) (Arv.nostat Ad) all0)
  have f7 := Es.keep K4
  have f8 := sc.keep K4 (ninS hsd nin0)
  have f9 := sv.keep K4 (ninS hsd nin0)
  have f10 := Ae.keep K4 (ninS hed nin0)
  have f11 := EB.keep K4
  have f12 := fv.keep K4 (ninS had nin0)
  have f13 := fc.keep K4 (ninS had nin0)
  have f14 := fn.keep K4 (ninS had nin0)
  have K15 := (Keep.refl h0 [dr]).trans K4 (allS (P := fun x => x ∈ _ ∨ _ ≤ x) (Or.inl (List.mem_of_getElem? (i := 0) rfl)) all0)
  show OGo p e below _ (T4.setTop (mkF m 18 #[.val (.ref br), .val (.int (NI bs.length)), .val (.ref sr)] []))
  refine OGo.ret0 X4 hx hret hlk (hb hby d_pst_18) ?_ (by decide) (by decide)
  rw [e4]
  exact ⟨rfl, N5, K15, A4⟩
theorem d_asa_0 : decode jdk_68_method_22_code 0 = .ok (.aload_n 1, 1) := by decide +kernel
theorem d_asa_1 : decode jdk_68_method_22_code 1 = .ok (.ifnonnull 8, 3) := by decide +kernel
theorem d_asa_9 : decode jdk_68_method_22_code 9 = .ok (.aload_n 1, 1) := by decide +kernel
theorem d_asa_10 : decode jdk_68_method_22_code 10 = .ok (.invokevirtual 32, 3) := by decide +kernel
theorem d_asa_13 : decode jdk_68_method_22_code 13 = .ok (.istore_n 2, 1) := by decide +kernel
theorem d_asa_14 : decode jdk_68_method_22_code 14 = .ok (.aload_n 0, 1) := by decide +kernel
theorem d_asa_15 : decode jdk_68_method_22_code 15 = .ok (.aload_n 0, 1) := by decide +kernel
theorem d_asa_16 : decode jdk_68_method_22_code 16 = .ok (.getfield 79, 3) := by decide +kernel
theorem d_asa_19 : decode jdk_68_method_22_code 19 = .ok (.iload_n 2, 1) := by decide +kernel
theorem d_asa_20 : decode jdk_68_method_22_code 20 = .ok (.iadd, 1) := by decide +kernel
theorem d_asa_21 : decode jdk_68_method_22_code 21 = .ok (.invokevirtual 100, 3) := by decide +kernel
theorem d_asa_24 : decode jdk_68_method_22_code 24 = .ok (.aload_n 0, 1) := by decide +kernel
theorem d_asa_25 : decode jdk_68_method_22_code 25 = .ok (.aload_n 0, 1) := by decide +kernel
theorem d_asa_26 : decode jdk_68_method_22_code 26 = .ok (.getfield 79, 3) := by decide +kernel
theorem d_asa_29 : decode jdk_68_method_22_code 29 = .ok (.aload_n 1, 1) := by decide +kernel
theorem d_asa_30 : decode jdk_68_method_22_code 30 = .ok (.invokevirtual 208, 3) := by decide +kernel
theorem d_asa_33 : decode jdk_68_method_22_code 33 = .ok (.aload_n 0, 1) := by decide +kernel
theorem d_asa_34 : decode jdk_68_method_22_code 34 = .ok (.dup, 1) := by decide +kernel
theorem d_asa_35 : decode jdk_68_method_22_code 35 = .ok (.getfield 79, 3) := by decide +kernel
theorem d_asa_38 : decode jdk_68_method_22_code 38 = .ok (.iload_n 2, 1) := by decide +kernel
theorem d_asa_39 : decode jdk_68_method_22_code 39 = .ok (.iadd, 1) := by decide +kernel
theorem d_asa_40 : decode jdk_68_method_22_code 40 = .ok (.putfield 79, 3) := by decide +kernel
theorem d_asa_43 : decode jdk_68_method_22_code 43 = .ok (.aload_n 0, 1) := by decide +kernel
theorem d_asa_44 : decode jdk_68_method_22_code 44 = .ok (.areturn, 1) := by decide +kernel
theorem ef_asa (m : MethodId) (br : Addr) (sr : Addr) : entryFrame m #[(.ref br), (.ref sr)] 3 = mkF m 0 #[.val (.ref br), .val (.ref sr), .unset] [] := by first | (simp [entryFrame, mkF, argsToLocals, Value.category]; done) | rfl
theorem pn_asa : plainFor (⟨"java/lang/AbstractStringBuilder", "append", "(Ljava/lang/String;)Ljava/lang/AbstractStringBuilder;"⟩ : MethodName) = true := by first | exact plainFor_of_name (by first | (simp [plainName, overriddenIn]; done) | decide +kernel) | decide +kernel
set_option maxRecDepth 65536 in
set_option maxHeartbeats 40000000 in
theorem rm_asa (l : Launch) (Z : State) (a0 : Array Value) (hw : ∀ d ∈ tables_1, d.before a0 Z = true) (br : Addr) (sr : Addr) (dr : Addr) (kd : ClassId) (bs : List Value) (er : Addr) (ke : ClassId) (us : List Value) (cs : Int32) (n0 : Nat) (h0 : Heap) (EB : Exa Z h0 br "java/lang/StringBuilder") (fv : Fld Z h0 br "java/lang/AbstractStringBuilder" "value" "[B" (.ref dr)) (fc : Fld Z h0 br "java/lang/AbstractStringBuilder" "coder" "B" (.int 0)) (fn : Fld Z h0 br "java/lang/AbstractStringBuilder" "count" "I" (.int (NI bs.length))) (Ad : Arv Z h0 dr kd .byte 256 bs (.int 0)) (Es : Exa Z h0 sr "java/lang/String") (sc : Fld Z h0 sr "java/lang/String" "coder" "B" (.int 0)) (sv : Fld Z h0 sr "java/lang/String" "value" "[B" (.ref er)) (Ae : Arv Z h0 er ke .byte (NI us.length) us (.int 0)) (S0 : Sta Z h0 "java/lang/String" "COMPACT_STRINGS" "Z" (.int cs)) (hcs : ¬ cs = 0) (Z0 : n0 ≤ h0.size) (gd : n0 ≤ dr) (ga : n0 ≤ br) (hed : er ≠ dr) (hsd : sr ≠ dr) (had : br ≠ dr) (hlen : bs.length + us.length ≤ 256) :
    OMet l Z (⟨"java/lang/AbstractStringBuilder", "append", "(Ljava/lang/String;)Ljava/lang/AbstractStringBuilder;"⟩ : MethodName) jdk_68_method_22_code 3 (some (.object "java/lang/AbstractStringBuilder")) [] ({ frames := 3, cells := 0, slots := 0, locals := 60 } : Room) #[(.ref br), (.ref sr)] h0 (fun v h L => v = some (.ref br) ∧ Fr n0 L ∧ Keep h0 h [br, dr] ∧ Exa Z h br "java/lang/StringBuilder" ∧ Fld Z h br "java/lang/AbstractStringBuilder" "value" "[B" (.ref dr) ∧ Fld Z h br "java/lang/AbstractStringBuilder" "coder" "B" (.int 0) ∧ Fld Z h br "java/lang/AbstractStringBuilder" "count" "I" (.int (NI (bs ++ us).length)) ∧ Arv Z h dr kd .byte 256 (bs ++ us) (.int 0)) := by
  refine OMet.of pn_asa ?_
  intro p e s m below meth c T0 X0 hx hby hml hown0 hnm hret hlk hZ e0
  have hown : s.vm.findClass "java/lang/AbstractStringBuilder" = some m.cls := hown0
  refine OGo.go (fun t k => castTop (ef_asa m br sr) k) ?_
  refine OGo.go (U' := T0.setTop (mkF m 1 #[.val (.ref br), .val (.ref sr), .unset] [(.ref sr)])) (fun _ k => XS.aloadN X0.here hx rfl (hb hby d_asa_0) rfl rfl k) ?_
  refine OGo.go (U' := T0.setTop (mkF m 9 #[.val (.ref br), .val (.ref sr), .unset] [])) (fun _ k => XS.ifnonnullYes X0.here hx rfl (pc0 := 1) (pc' := 9) rfl (hb hby d_asa_1) rfl (by decide) (by decide) k) ?_
  refine OGo.go (U' := T0.setTop (mkF m 10 #[.val (.ref br), .val (.ref sr), .unset] [(.ref sr)])) (fun _ k => XS.aloadN X0.here hx rfl (hb hby d_asa_9) rfl rfl k) ?_
  refine OGo.callV X0 hx hZ (y := (⟨"java/lang/String", "length", "()I"⟩ : MethodName)) (C := "java/lang/String") hown (hw _ (List.mem_of_getElem? (i := 134) rfl)) (hw _ (List.mem_of_getElem? (i := 135) rfl)) (hw _ (List.mem_of_getElem? (i := 137) rfl)) (hw _ (List.mem_of_getElem? (i := 136) rfl)) (hw _ (List.mem_of_getElem? (i := 6) rfl)) (hw _ (List.mem_of_getElem? (i := 138) rfl)) (by decide) (g := (mkF m 10 #[.val (.ref br), .val (.ref sr), .unset] [(.ref sr)])) (a := sr) (argsL := []) (rest := []) e0 Es (rm_len l Z a0 hw sr er ke us cs h0 Es sc sv Ae S0 hcs) rfl (by rw [hml]; rfl) (lenOf pd_3 rfl) rfl (W := 0) (by show 2 * 0 + _ ≤ _; exact Nat.le_of_eq rfl) (hb hby d_asa_10) (by decide) (by decide) (by decide) (by decide) ?_
  rintro _ T1 _ X1 ⟨rfl, e1, rfl⟩
  rw [List.append_nil] at X1
  show OGo p e below _ (T1.setTop (mkF m 13 #[.val (.ref br), .val (.ref sr), .unset] [(.int (NI us.length))]))
  refine OGo.go (U' := T1.setTop (mkF m 14 #[.val (.ref br), .val (.ref sr), .val (.int (NI us.length))] [])) (fun _ k => XS.istoreN X1.here hx rfl (hb hby d_asa_13) rfl (l' := #[.val (.ref br), .val (.ref sr), .val (.int (NI us.length))]) rfl k) ?_
  refine OGo.go (U' := T1.setTop (mkF m 15 #[.val (.ref br), .val (.ref sr), .val (.int (NI us.length))] [(.ref br)])) (fun _ k => XS.aloadN X1.here hx rfl (hb hby d_asa_14) rfl rfl k) ?_
  refine OGo.go (U' := T1.setTop (mkF m 16 #[.val (.ref br), .val (.ref sr), .val (.int (NI us.length))] [(.ref br), (.ref br)])) (fun _ k => XS.aloadN X1.here hx rfl (hb hby d_asa_15) rfl rfl k) ?_
  obtain ⟨T2, X2, e2, st2⟩ := getF X1 hx hZ hown (host := "") (Or.inl (hw _ (List.mem_of_getElem? (i := 144) rfl))) Via.refl e1 fn (g := (mkF m 16 #[.val (.ref br), .val (.ref sr), .val (.int (NI us.length))] [(.ref br), (.ref br)])) rfl rfl (hb hby d_asa_16)
  refine OGo.go (U' := T2.setTop (mkF m 19 #[.val (.ref br), .val (.ref sr), .val (.int (NI us.length))] [(.int (NI bs.length)), (.ref br)])) st2 ?_
  refine OGo.go (U' := T2.setTop (mkF m 20 #[.val (.ref br), .val (.ref sr), .val (.int (NI us.length))] [(.int (NI us.length)), (.int (NI bs.length)), (.ref br)])) (fun _ k => XS.iloadN X2.here hx rfl (hb hby d_asa_19) rfl k) ?_
  refine OGo.go (U' := T2.setTop (mkF m 21 #[.val (.ref br), .val (.ref sr), .val (.int (NI us.length))] [(.int ((NI bs.length) + (NI us.length))), (.ref br)])) (fun _ k => XS.iadd X2.here hx rfl (hb hby d_asa_20) rfl k) ?_
  rw [ni_add]
  refine OGo.callP X2 hx hZ (y := (⟨"java/lang/AbstractStringBuilder", "ensureCapacityInternal", "(I)V"⟩ : MethodName)) (C := "java/lang/StringBuilder") hown (hw _ (List.mem_of_getElem? (i := 146) rfl)) (hw _ (List.mem_of_getElem? (i := 148) rfl)) (hw _ (List.mem_of_getElem? (i := 149) rfl)) (hw _ (List.mem_of_getElem? (i := 147) rfl)) (hw _ (List.mem_of_getElem? (i := 57) rfl)) (hw _ (List.mem_of_getElem? (i := 150) rfl)) (by decide) (g := (mkF m 21 #[.val (.ref br), .val (.ref sr), .val (.int (NI us.length))] [(.int (NI (bs.length + us.length))), (.ref br)])) (a := br) (argsL := [(.int (NI (bs.length + us.length)))]) (rest := []) e2 EB (rm_ens l Z a0 hw br (bs.length + us.length) dr kd bs h0 EB fv fc fn Ad hlen) rfl (by rw [hml]; rfl) (lenOf pd_4 rfl) rfl (W := 0) (by show 2 * 0 + _ ≤ _; exact Nat.le_of_eq rfl) (hb hby d_asa_21) (by decide) (by decide) (by decide) (by decide) ?_
  rintro _ T3 _ X3 ⟨rfl, e3, rfl⟩
  rw [List.append_nil] at X3
  show OGo p e below _ (T3.setTop (mkF m 24 #[.val (.ref br), .val (.ref sr), .val (.int (NI us.length))] []))
  refine OGo.go (U' := T3.setTop (mkF m 25 #[.val (.ref br), .val (.ref sr), .val (.int (NI us.length))] [(.ref br)])) (fun _ k => XS.aloadN X3.here hx rfl (hb hby d_asa_24) rfl rfl k) ?_
  refine OGo.go (U' := T3.setTop (mkF m 26 #[.val (.ref br), .val (.ref sr), .val (.int (NI us.length))] [(.ref br), (.ref br)])) (fun _ k => XS.aloadN X3.here hx rfl (hb hby d_asa_25) rfl rfl k) ?_
  obtain ⟨T4, X4, e4, st4⟩ := getF X3 hx hZ hown (host := "") (Or.inl (hw _ (List.mem_of_getElem? (i := 144) rfl))) Via.refl e3 fn (g := (mkF m 26 #[.val (.ref br), .val (.ref sr), .val (.int (NI us.length))] [(.ref br), (.ref br)])) rfl rfl (hb hby d_asa_26)
  refine OGo.go (U' := T4.setTop (mkF m 29 #[.val (.ref br), .val (.ref sr), .val (.int (NI us.length))] [(.int (NI bs.length)), (.ref br)])) st4 ?_
  refine OGo.go (U' := T4.setTop (mkF m 30 #[.val (.ref br), .val (.ref sr), .val (.int (NI us.length))] [(.ref sr), (.int (NI bs.length)), (.ref br)])) (fun _ k => XS.aloadN X4.here hx rfl (hb hby d_asa_29) rfl rfl k) ?_
  refine OGo.callP X4 hx hZ (y := (⟨"java/lang/AbstractStringBuilder", "putStringAt", "(ILjava/lang/String;)V"⟩ : MethodName)) (C := "java/lang/StringBuilder") hown (hw _ (List.mem_of_getElem? (i := 151) rfl)) (hw _ (List.mem_of_getElem? (i := 153) rfl)) (hw _ (List.mem_of_getElem? (i := 154) rfl)) (hw _ (List.mem_of_getElem? (i := 152) rfl)) (hw _ (List.mem_of_getElem? (i := 57) rfl)) (hw _ (List.mem_of_getElem? (i := 155) rfl)) (by decide) (g := (mkF m 30 #[.val (.ref br), .val (.ref sr), .val (.int (NI us.length))] [(.ref sr), (.int (NI bs.length)), (.ref br)])) (a := br) (argsL := [(.int (NI bs.length)), (.ref sr)]) (rest := []) e4 EB (rm_pst l Z a0 hw br sr bs dr kd er ke us cs n0 h0 EB fv fc fn Ad Es sc sv Ae S0 hcs Z0 gd hed hsd hlen had) rfl (by rw [hml]; rfl) (lenOf pd_5 rfl) rfl (W := 0) (by show 2 * 0 + _ ≤ _; exact Nat.le_of_eq rfl) (hb hby d_asa_30) (by decide) (by decide) (by decide) (by decide) ?_
  rintro _ T5 L5 X5 ⟨rfl, N5, K5, A5⟩
  have e5 : T5.heap = T5.heap := rfl
  have N6 := Fr.app (Fr.nil n0) N5
  have f7 := own_sta_keep S0 K5 (allS (P := fun x => ∀ cell : Cell, _ → cell.vm.isStatics = false) (Arv.nostat Ad) all0)
  have f8 := EB.keep K5
  have f9 := fv.keep K5 (ninS had nin0)
  have f10 := fc.keep K5 (ninS had nin0)
  have f11 := fn.keep K5 (ninS had nin0)
  have K12 := (Keep.refl h0 [br, dr]).trans K5 (allS (P := fun x => x ∈ _ ∨ _ ≤ x) (Or.inl (List.mem_of_getElem? (i := 1) rfl)) all0)
  show OGo p e below _ (T5.setTop (mkF m 33 #[.val (.ref br), .val (.ref sr), .val (.int (NI us.length))] []))
  refine OGo.go (U' := T5.setTop (mkF m 34 #[.val (.ref br), .val (.ref sr), .val (.int (NI us.length))] [(.ref br)])) (fun _ k => XS.aloadN X5.here hx rfl (hb hby d_asa_33) rfl rfl k) ?_
  refine OGo.go (U' := T5.setTop (mkF m 35 #[.val (.ref br), .val (.ref sr), .val (.int (NI us.length))] [(.ref br), (.ref br)])) (fun _ k => XS.dup X5.here hx rfl (hb hby d_asa_34) rfl rfl k) ?_
  obtain ⟨T13, X13, e13, st13⟩ := getF X5 hx hZ hown (host := "") (Or.inl (hw _ (List.mem_of_getElem? (i := 144) rfl))) Via.refl e5 f11 (g := (mkF m 35 #[.val (.ref br), .val (.ref sr), .val (.int (NI us.length))] [(.ref br), (.ref br)])) rfl rfl (hb hby d_asa_35)
  refine OGo.go (U' := T13.setTop (mkF m 38 #[.val (.ref br), .val (.ref sr), .val (.int (NI us.length))] [(.int (NI bs.length)), (.ref br)])) st13 ?_
  refine OGo.go (U' := T13.setTop (mkF m 39 #[.val (.ref br), .val (.ref sr), .val (.int (NI us.length))] [(.int (NI us.length)), (.int (NI bs.length)), (.ref br)])) (fun _ k => XS.iloadN X13.here hx rfl (hb hby d_asa_38) rfl k) ?_
  refine OGo.go (U' := T13.setTop (mkF m 40 #[.val (.ref br), .val (.ref sr), .val (.int (NI us.length))] [(.int ((NI bs.length) + (NI us.length))), (.ref br)])) (fun _ k => XS.iadd X13.here hx rfl (hb hby d_asa_39) rfl k) ?_
  obtain ⟨T14, h14, X14, e14, W14, st14⟩ := putF X13 hx hZ hown (host := "") (Or.inl (hw _ (List.mem_of_getElem? (i := 144) rfl))) Via.refl e13 f11 f8 (Or.inl (hw _ (List.mem_of_getElem? (i := 145) rfl))) (hw _ (List.mem_of_getElem? (i := 48) rfl)) (ty := .int) (by decide) rfl rfl (g := (mkF m 40 #[.val (.ref br), .val (.ref sr), .val (.int (NI us.length))] [(.int ((NI bs.length) + (NI us.length))), (.ref br)])) rfl rfl (hb hby d_asa_40)
  have N15 := Fr.snoc X14 N6 ga
  have f16 := f7.wr W14
  have f17 := f8.wr W14
  have f18 := f9.other W14 (Or.inr (slot_ne (Or.inl (hw _ (List.mem_of_getElem? (i := 62) rfl))) (Or.inl (hw _ (List.mem_of_getElem? (i := 145) rfl))) (by decide) (t := (.array .byte)) (t' := .int) (by decide) (by decide)))
  have f19 := f10.other W14 (Or.inr (slot_ne (Or.inl (hw _ (List.mem_of_getElem? (i := 64) rfl))) (Or.inl (hw _ (List.mem_of_getElem? (i := 145) rfl))) (by decide) (t := .byte) (t' := .int) (by decide) (by decide)))
  have f20 := f11.same W14
  have f21 := A5.other W14 (Ne.symm had)
  have K22 := K12.wr W14 (Or.inl (List.mem_of_getElem? (i := 0) rfl))
  refine OGo.go (U' := T14.setTop (mkF m 43 #[.val (.ref br), .val (.ref sr), .val (.int (NI us.length))] [])) st14 ?_
  refine OGo.go (U' := T14.setTop (mkF m 44 #[.val (.ref br), .val (.ref sr), .val (.int (NI us.length))] [(.ref br)])) (fun _ k => XS.aloadN X14.here hx rfl (hb hby d_asa_43) rfl rfl k) ?_
  refine OGo.retA X14 hx hret hlk rfl rfl (hb hby d_asa_44) ?_ (by decide) (by decide)
  rw [e14]
  exact ⟨rfl, N15, K22, f17, f18, f19, (by rw [List.length_append, ← ni_add]; exact f20), f21⟩
theorem d_sba_0 : decode jdk_67_method_7_code 0 = .ok (.aload_n 0, 1) := by decide +kernel
theorem d_sba_1 : decode jdk_67_method_7_code 1 = .ok (.aload_n 1, 1) := by decide +kernel
theorem d_sba_2 : decode jdk_67_method_7_code 2 = .ok (.invokespecial 29, 3) := by decide +kernel
theorem d_sba_5 : decode jdk_67_method_7_code 5 = .ok (.pop, 1) := by decide +kernel
theorem d_sba_6 : decode jdk_67_method_7_code 6 = .ok (.aload_n 0, 1) := by decide +kernel
theorem d_sba_7 : decode jdk_67_method_7_code 7 = .ok (.areturn, 1) := by decide +kernel
theorem ef_sba (m : MethodId) (br : Addr) (sr : Addr) : entryFrame m #[(.ref br), (.ref sr)] 2 = mkF m 0 #[.val (.ref br), .val (.ref sr)] [] := by first | (simp [entryFrame, mkF, argsToLocals, Value.category]; done) | rfl
theorem pn_sba : plainFor (⟨"java/lang/StringBuilder", "append", "(Ljava/lang/String;)Ljava/lang/StringBuilder;"⟩ : MethodName) = true := by first | exact plainFor_of_name (by first | (simp [plainName, overriddenIn]; done) | decide +kernel) | decide +kernel
set_option maxRecDepth 65536 in
set_option maxHeartbeats 40000000 in
theorem rm_sba (l : Launch) (Z : State) (a0 : Array Value) (hw : ∀ d ∈ tables_1, d.before a0 Z = true) (br : Addr) (sr : Addr) (dr : Addr) (kd : ClassId) (bs : List Value) (er : Addr) (ke : ClassId) (us : List Value) (cs : Int32) (n0 : Nat) (h0 : Heap) (EB : Exa Z h0 br "java/lang/StringBuilder") (fv : Fld Z h0 br "java/lang/AbstractStringBuilder" "value" "[B" (.ref dr)) (fc : Fld Z h0 br "java/lang/AbstractStringBuilder" "coder" "B" (.int 0)) (fn : Fld Z h0 br "java/lang/AbstractStringBuilder" "count" "I" (.int (NI bs.length))) (Ad : Arv Z h0 dr kd .byte 256 bs (.int 0)) (Es : Exa Z h0 sr "java/lang/String") (sc : Fld Z h0 sr "java/lang/String" "coder" "B" (.int 0)) (sv : Fld Z h0 sr "java/lang/String" "value" "[B" (.ref er)) (Ae : Arv Z h0 er ke .byte (NI us.length) us (.int 0)) (S0 : Sta Z h0 "java/lang/String" "COMPACT_STRINGS" "Z" (.int cs)) (hcs : ¬ cs = 0) (Z0 : n0 ≤ h0.size) (gd : n0 ≤ dr) (ga : n0 ≤ br) (hed : er ≠ dr) (hsd : sr ≠ dr) (had : br ≠ dr) (hlen : bs.length + us.length ≤ 256) :
    OMet l Z (⟨"java/lang/StringBuilder", "append", "(Ljava/lang/String;)Ljava/lang/StringBuilder;"⟩ : MethodName) jdk_67_method_7_code 2 (some (.object "java/lang/StringBuilder")) [] ({ frames := 4, cells := 0, slots := 0, locals := 80 } : Room) #[(.ref br), (.ref sr)] h0 (fun v h L => v = some (.ref br) ∧ Fr n0 L ∧ Keep h0 h [br, dr] ∧ Exa Z h br "java/lang/StringBuilder" ∧ Fld Z h br "java/lang/AbstractStringBuilder" "value" "[B" (.ref dr) ∧ Fld Z h br "java/lang/AbstractStringBuilder" "coder" "B" (.int 0) ∧ Fld Z h br "java/lang/AbstractStringBuilder" "count" "I" (.int (NI (bs ++ us).length)) ∧ Arv Z h dr kd .byte 256 (bs ++ us) (.int 0)) := by
  refine OMet.of pn_sba ?_
  intro p e s m below meth c T0 X0 hx hby hml hown0 hnm hret hlk hZ e0
  have hown : s.vm.findClass "java/lang/StringBuilder" = some m.cls := hown0
  refine OGo.go (fun t k => castTop (ef_sba m br sr) k) ?_
  refine OGo.go (U' := T0.setTop (mkF m 1 #[.val (.ref br), .val (.ref sr)] [(.ref br)])) (fun _ k => XS.aloadN X0.here hx rfl (hb hby d_sba_0) rfl rfl k) ?_
  refine OGo.go (U' := T0.setTop (mkF m 2 #[.val (.ref br), .val (.ref sr)] [(.ref sr), (.ref br)])) (fun _ k => XS.aloadN X0.here hx rfl (hb hby d_sba_1) rfl rfl k) ?_
  refine OGo.callU X0 hx hZ (C := "java/lang/StringBuilder") (y := (⟨"java/lang/AbstractStringBuilder", "append", "(Ljava/lang/String;)Ljava/lang/AbstractStringBuilder;"⟩ : MethodName)) (z := (⟨"java/lang/AbstractStringBuilder", "ensureCapacityInternal", "(I)V"⟩ : MethodName)) hown (hw _ (List.mem_of_getElem? (i := 129) rfl)) (hw _ (List.mem_of_getElem? (i := 149) rfl)) rfl (hw _ (List.mem_of_getElem? (i := 130) rfl)) (hw _ (List.mem_of_getElem? (i := 131) rfl)) (by decide) (hw _ (List.mem_of_getElem? (i := 57) rfl)) (hw _ (List.mem_of_getElem? (i := 133) rfl)) (by decide) (g := (mkF m 2 #[.val (.ref br), .val (.ref sr)] [(.ref sr), (.ref br)])) (a := br) (argsL := [(.ref sr)]) (rest := []) e0 EB (rm_asa l Z a0 hw br sr dr kd bs er ke us cs n0 h0 EB fv fc fn Ad Es sc sv Ae S0 hcs Z0 gd ga hed hsd had hlen) rfl (by rw [hml]; rfl) (lenOf pd_6 rfl) rfl (W := 0) (by show 2 * 0 + _ ≤ _; exact Nat.le_of_eq rfl) (hb hby d_sba_2) (by decide) (by decide) (by decide) (by decide) ?_
  rintro _ T1 L1 X1 ⟨rfl, N1, K1, Ea1, va1, ca1, na1, A1⟩
  have e1 : T1.heap = T1.heap := rfl
  have N2 := Fr.app (Fr.nil n0) N1
  have f3 := own_sta_keep S0 K1 (allS (P := fun x => ∀ cell : Cell, _ → cell.vm.isStatics = false) (own_plain EB) (allS (P := fun x => ∀ cell : Cell, _ → cell.vm.isStatics = false) (Arv.nostat Ad) all0))
  have f4 := EB.keep K1
  have K5 := (Keep.refl h0 [br, dr]).trans K1 (allS (P := fun x => x ∈ _ ∨ _ ≤ x) (Or.inl (List.mem_of_getElem? (i := 0) rfl)) (allS (P := fun x => x ∈ _ ∨ _ ≤ x) (Or.inl (List.mem_of_getElem? (i := 1) rfl)) all0))
  show OGo p e below _ (T1.setTop (mkF m 5 #[.val (.ref br), .val (.ref sr)] [(.ref br)]))
  refine OGo.go (U' := T1.setTop (mkF m 6 #[.val (.ref br), .val (.ref sr)] [])) (fun _ k => XS.pop X1.here hx rfl (hb hby d_sba_5) rfl rfl k) ?_
  refine OGo.go (U' := T1.setTop (mkF m 7 #[.val (.ref br), .val (.ref sr)] [(.ref br)])) (fun _ k => XS.aloadN X1.here hx rfl (hb hby d_sba_6) rfl rfl k) ?_
  refine OGo.retA X1 hx hret hlk rfl rfl (hb hby d_sba_7) ?_ (by decide) (by decide)
  rw [e1]
  exact ⟨rfl, N2, K5, Ea1, va1, ca1, na1, A1⟩
theorem d_gva_0 : decode jdk_68_method_64_code 0 = .ok (.aload_n 0, 1) := by decide +kernel
theorem d_gva_1 : decode jdk_68_method_64_code 1 = .ok (.getfield 15, 3) := by decide +kernel
theorem d_gva_4 : decode jdk_68_method_64_code 4 = .ok (.areturn, 1) := by decide +kernel
theorem ef_gva (m : MethodId) (br : Addr) : entryFrame m #[(.ref br)] 1 = mkF m 0 #[.val (.ref br)] [] := by first | (simp [entryFrame, mkF, argsToLocals, Value.category]; done) | rfl
theorem pn_gva : plainFor (⟨"java/lang/AbstractStringBuilder", "getValue", "()[B"⟩ : MethodName) = true := by first | exact plainFor_of_name (by first | (simp [plainName, overriddenIn]; done) | decide +kernel) | decide +kernel
set_option maxRecDepth 65536 in
set_option maxHeartbeats 40000000 in
theorem rm_gva (l : Launch) (Z : State) (a0 : Array Value) (hw : ∀ d ∈ tables_1, d.before a0 Z = true) (br : Addr) (dr : Addr) (kd : ClassId) (bs : List Value) (h0 : Heap) (EB : Exa Z h0 br "java/lang/StringBuilder") (fv : Fld Z h0 br "java/lang/AbstractStringBuilder" "value" "[B" (.ref dr)) (fc : Fld Z h0 br "java/lang/AbstractStringBuilder" "coder" "B" (.int 0)) (fn : Fld Z h0 br "java/lang/AbstractStringBuilder" "count" "I" (.int (NI bs.length))) (Ad : Arv Z h0 dr kd .byte 256 bs (.int 0)) :
    OMet l Z (⟨"java/lang/AbstractStringBuilder", "getValue", "()[B"⟩ : MethodName) jdk_68_method_64_code 1 (some (.array .byte)) [] ({ frames := 0, cells := 0, slots := 0, locals := 0 } : Room) #[(.ref br)] h0 (OPure (some (.ref dr)) h0) := by
  refine OMet.of pn_gva ?_
  intro p e s m below meth c T0 X0 hx hby hml hown0 hnm hret hlk hZ e0
  have hown : s.vm.findClass "java/lang/AbstractStringBuilder" = some m.cls := hown0
  refine OGo.go (fun t k => castTop (ef_gva m br) k) ?_
  refine OGo.go (U' := T0.setTop (mkF m 1 #[.val (.ref br)] [(.ref br)])) (fun _ k => XS.aloadN X0.here hx rfl (hb hby d_gva_0) rfl rfl k) ?_
  obtain ⟨T1, X1, e1, st1⟩ := getF X0 hx hZ hown (host := "") (Or.inl (hw _ (List.mem_of_getElem? (i := 61) rfl))) Via.refl e0 fv (g := (mkF m 1 #[.val (.ref br)] [(.ref br)])) rfl rfl (hb hby d_gva_1)
  refine OGo.go (U' := T1.setTop (mkF m 4 #[.val (.ref br)] [(.ref dr)])) st1 ?_
  refine OGo.retA X1 hx hret hlk rfl rfl (hb hby d_gva_4) ?_ (by decide) (by decide)
  exact ⟨rfl, e1, rfl⟩
theorem d_aln_0 : decode jdk_68_method_6_code 0 = .ok (.aload_n 0, 1) := by decide +kernel
theorem d_aln_1 : decode jdk_68_method_6_code 1 = .ok (.getfield 79, 3) := by decide +kernel
theorem d_aln_4 : decode jdk_68_method_6_code 4 = .ok (.ireturn, 1) := by decide +kernel
theorem ef_aln (m : MethodId) (br : Addr) : entryFrame m #[(.ref br)] 1 = mkF m 0 #[.val (.ref br)] [] := by first | (simp [entryFrame, mkF, argsToLocals, Value.category]; done) | rfl
theorem pn_aln : plainFor (⟨"java/lang/AbstractStringBuilder", "length", "()I"⟩ : MethodName) = true := by first | exact plainFor_of_name (by first | (simp [plainName, overriddenIn]; done) | decide +kernel) | decide +kernel
set_option maxRecDepth 65536 in
set_option maxHeartbeats 40000000 in
theorem rm_aln (l : Launch) (Z : State) (a0 : Array Value) (hw : ∀ d ∈ tables_1, d.before a0 Z = true) (br : Addr) (dr : Addr) (kd : ClassId) (bs : List Value) (h0 : Heap) (EB : Exa Z h0 br "java/lang/StringBuilder") (fv : Fld Z h0 br "java/lang/AbstractStringBuilder" "value" "[B" (.ref dr)) (fc : Fld Z h0 br "java/lang/AbstractStringBuilder" "coder" "B" (.int 0)) (fn : Fld Z h0 br "java/lang/AbstractStringBuilder" "count" "I" (.int (NI bs.length))) (Ad : Arv Z h0 dr kd .byte 256 bs (.int 0)) :
    OMet l Z (⟨"java/lang/AbstractStringBuilder", "length", "()I"⟩ : MethodName) jdk_68_method_6_code 1 (some .int) [] ({ frames := 0, cells := 0, slots := 0, locals := 0 } : Room) #[(.ref br)] h0 (OPure (some (.int (NI bs.length))) h0) := by
  refine OMet.of pn_aln ?_
  intro p e s m below meth c T0 X0 hx hby hml hown0 hnm hret hlk hZ e0
  have hown : s.vm.findClass "java/lang/AbstractStringBuilder" = some m.cls := hown0
  refine OGo.go (fun t k => castTop (ef_aln m br) k) ?_
  refine OGo.go (U' := T0.setTop (mkF m 1 #[.val (.ref br)] [(.ref br)])) (fun _ k => XS.aloadN X0.here hx rfl (hb hby d_aln_0) rfl rfl k) ?_
  obtain ⟨T1, X1, e1, st1⟩ := getF X0 hx hZ hown (host := "") (Or.inl (hw _ (List.mem_of_getElem? (i := 144) rfl))) Via.refl e0 fn (g := (mkF m 1 #[.val (.ref br)] [(.ref br)])) rfl rfl (hb hby d_aln_1)
  refine OGo.go (U' := T1.setTop (mkF m 4 #[.val (.ref br)] [(.int (NI bs.length))])) st1 ?_
  refine OGo.retI X1 hx hret hlk (hb hby d_aln_4) ?_ (by decide) (by decide)
  exact ⟨congrArg (fun z => some (Value.int z)) (rfl), e1, rfl⟩
theorem d_sln_0 : decode jdk_67_method_93_code 0 = .ok (.aload_n 0, 1) := by decide +kernel
theorem d_sln_1 : decode jdk_67_method_93_code 1 = .ok (.invokespecial 343, 3) := by decide +kernel
theorem d_sln_4 : decode jdk_67_method_93_code 4 = .ok (.ireturn, 1) := by decide +kernel
theorem ef_sln (m : MethodId) (br : Addr) : entryFrame m #[(.ref br)] 1 = mkF m 0 #[.val (.ref br)] [] := by first | (simp [entryFrame, mkF, argsToLocals, Value.category]; done) | rfl
theorem pn_sln : plainFor (⟨"java/lang/StringBuilder", "length", "()I"⟩ : MethodName) = true := by first | exact plainFor_of_name (by first | (simp [plainName, overriddenIn]; done) | decide +kernel) | decide +kernel
set_option maxRecDepth 65536 in
set_option maxHeartbeats 40000000 in
theorem rm_sln (l : Launch) (Z : State) (a0 : Array Value) (hw : ∀ d ∈ tables_1, d.before a0 Z = true) (br : Addr) (dr : Addr) (kd : ClassId) (bs : List Value) (h0 : Heap) (EB : Exa Z h0 br "java/lang/StringBuilder") (fv : Fld Z h0 br "java/lang/AbstractStringBuilder" "value" "[B" (.ref dr)) (fc : Fld Z h0 br "java/lang/AbstractStringBuilder" "coder" "B" (.int 0)) (fn : Fld Z h0 br "java/lang/AbstractStringBuilder" "count" "I" (.int (NI bs.length))) (Ad : Arv Z h0 dr kd .byte 256 bs (.int 0)) :
    OMet l Z (⟨"java/lang/StringBuilder", "length", "()I"⟩ : MethodName) jdk_67_method_93_code 1 (some .int) [] ({ frames := 1, cells := 0, slots := 0, locals := 12 } : Room) #[(.ref br)] h0 (OPure (some (.int (NI bs.length))) h0) := by
  refine OMet.of pn_sln ?_
  intro p e s m below meth c T0 X0 hx hby hml hown0 hnm hret hlk hZ e0
  have hown : s.vm.findClass "java/lang/StringBuilder" = some m.cls := hown0
  refine OGo.go (fun t k => castTop (ef_sln m br) k) ?_
  refine OGo.go (U' := T0.setTop (mkF m 1 #[.val (.ref br)] [(.ref br)])) (fun _ k => XS.aloadN X0.here hx rfl (hb hby d_sln_0) rfl rfl k) ?_
  refine OGo.callU X0 hx hZ (C := "java/lang/StringBuilder") (y := (⟨"java/lang/AbstractStringBuilder", "length", "()I"⟩ : MethodName)) (z := (⟨"java/lang/AbstractStringBuilder", "ensureCapacityInternal", "(I)V"⟩ : MethodName)) hown (hw _ (List.mem_of_getElem? (i := 200) rfl)) (hw _ (List.mem_of_getElem? (i := 149) rfl)) rfl (hw _ (List.mem_of_getElem? (i := 196) rfl)) (hw _ (List.mem_of_getElem? (i := 131) rfl)) (by decide) (hw _ (List.mem_of_getElem? (i := 57) rfl)) (hw _ (List.mem_of_getElem? (i := 201) rfl)) (by decide) (g := (mkF m 1 #[.val (.ref br)] [(.ref br)])) (a := br) (argsL := []) (rest := []) e0 EB (rm_aln l Z a0 hw br dr kd bs h0 EB fv fc fn Ad) rfl (by rw [hml]; rfl) (lenOf pd_3 rfl) rfl (W := 0) (by show 2 * 0 + _ ≤ _; exact Nat.le_of_eq rfl) (hb hby d_sln_1) (by decide) (by decide) (by decide) (by decide) ?_
  rintro _ T1 _ X1 ⟨rfl, e1, rfl⟩
  rw [List.append_nil] at X1
  show OGo p e below _ (T1.setTop (mkF m 4 #[.val (.ref br)] [(.int (NI bs.length))]))
  refine OGo.retI X1 hx hret hlk (hb hby d_sln_4) ?_ (by decide) (by decide)
  exact ⟨congrArg (fun z => some (Value.int z)) (rfl), e1, rfl⟩
theorem d_ail_0 : decode jdk_68_method_68_code 0 = .ok (.getstatic 18, 3) := by decide +kernel
theorem d_ail_3 : decode jdk_68_method_68_code 3 = .ok (.ifCond .eq 14, 3) := by decide +kernel
theorem d_ail_6 : decode jdk_68_method_68_code 6 = .ok (.aload_n 0, 1) := by decide +kernel
theorem d_ail_7 : decode jdk_68_method_68_code 7 = .ok (.getfield 22, 3) := by decide +kernel
theorem d_ail_10 : decode jdk_68_method_68_code 10 = .ok (.ifCond .ne 7, 3) := by decide +kernel
theorem d_ail_13 : decode jdk_68_method_68_code 13 = .ok (.iconst 1, 1) := by decide +kernel
theorem d_ail_14 : decode jdk_68_method_68_code 14 = .ok (.goto 4, 3) := by decide +kernel
theorem d_ail_18 : decode jdk_68_method_68_code 18 = .ok (.ireturn, 1) := by decide +kernel
theorem ef_ail (m : MethodId) (br : Addr) : entryFrame m #[(.ref br)] 1 = mkF m 0 #[.val (.ref br)] [] := by first | (simp [entryFrame, mkF, argsToLocals, Value.category]; done) | rfl
theorem pn_ail : plainFor (⟨"java/lang/AbstractStringBuilder", "isLatin1", "()Z"⟩ : MethodName) = true := by first | exact plainFor_of_name (by first | (simp [plainName, overriddenIn]; done) | decide +kernel) | decide +kernel
set_option maxRecDepth 65536 in
set_option maxHeartbeats 40000000 in
theorem rm_ail (l : Launch) (Z : State) (a0 : Array Value) (hw : ∀ d ∈ tables_1, d.before a0 Z = true) (br : Addr) (dr : Addr) (kd : ClassId) (bs : List Value) (cs : Int32) (h0 : Heap) (EB : Exa Z h0 br "java/lang/StringBuilder") (fv : Fld Z h0 br "java/lang/AbstractStringBuilder" "value" "[B" (.ref dr)) (fc : Fld Z h0 br "java/lang/AbstractStringBuilder" "coder" "B" (.int 0)) (fn : Fld Z h0 br "java/lang/AbstractStringBuilder" "count" "I" (.int (NI bs.length))) (Ad : Arv Z h0 dr kd .byte 256 bs (.int 0)) (S0 : Sta Z h0 "java/lang/String" "COMPACT_STRINGS" "Z" (.int cs)) (hcs : ¬ cs = 0) :
    OMet l Z (⟨"java/lang/AbstractStringBuilder", "isLatin1", "()Z"⟩ : MethodName) jdk_68_method_68_code 1 (some .boolean) [] ({ frames := 0, cells := 0, slots := 0, locals := 0 } : Room) #[(.ref br)] h0 (OPure (some (.int 1)) h0) := by
  refine OMet.of pn_ail ?_
  intro p e s m below meth c T0 X0 hx hby hml hown0 hnm hret hlk hZ e0
  have hown : s.vm.findClass "java/lang/AbstractStringBuilder" = some m.cls := hown0
  refine OGo.go (fun t k => castTop (ef_ail m br) k) ?_
  obtain ⟨T1, X1, e1, st1⟩ := getS2 X0 hx hZ hown (host := "") (Or.inl (hw _ (List.mem_of_getElem? (i := 60) rfl))) Via.refl e0 S0 (g := (mkF m 0 #[.val (.ref br)] [])) rfl (hb hby d_ail_0)
  refine OGo.go (U' := T1.setTop (mkF m 3 #[.val (.ref br)] [(.int cs)])) st1 ?_
  refine OGo.go (U' := T1.setTop (mkF m 6 #[.val (.ref br)] [])) (fun _ k => XS.ifNo X1.here hx rfl (hb hby d_ail_3) rfl ((if0 _ _).trans (feq hcs).1) k) ?_
  refine OGo.go (U' := T1.setTop (mkF m 7 #[.val (.ref br)] [(.ref br)])) (fun _ k => XS.aloadN X1.here hx rfl (hb hby d_ail_6) rfl rfl k) ?_
  obtain ⟨T2, X2, e2, st2⟩ := getF X1 hx hZ hown (host := "") (Or.inl (hw _ (List.mem_of_getElem? (i := 63) rfl))) Via.refl e1 fc (g := (mkF m 7 #[.val (.ref br)] [(.ref br)])) rfl rfl (hb hby d_ail_7)
  refine OGo.go (U' := T2.setTop (mkF m 10 #[.val (.ref br)] [(.int (0 : Int32))])) st2 ?_
  refine OGo.go (U' := T2.setTop (mkF m 13 #[.val (.ref br)] [])) (fun _ k => XS.ifNo X2.here hx rfl (hb hby d_ail_10) rfl ((if0 _ _).trans (teq rfl).2) k) ?_
  refine OGo.go (U' := T2.setTop (mkF m 14 #[.val (.ref br)] [(.int (1 : Int32))])) (fun _ k => XS.iconst X2.here hx rfl (hb hby d_ail_13) k) ?_
  refine OGo.go (U' := T2.setTop (mkF m 18 #[.val (.ref br)] [(.int (1 : Int32))])) (fun _ k => XS.goto X2.here hx rfl (pc0 := 14) (pc' := 18) rfl (hb hby d_ail_14) (by decide) (by decide) k) ?_
  refine OGo.retN X2 hx (t := .boolean) hret hlk (by simp) (hb hby d_ail_18) ?_ (by decide) (by decide)
  exact ⟨congrArg (fun z => some (Value.int z)) (nar_b1), e2, rfl⟩
theorem d_ckl_0 : decode jdk_65_method_131_code 0 = .ok (.iload_n 1, 1) := by decide +kernel
theorem d_ckl_1 : decode jdk_65_method_131_code 1 = .ok (.iload_n 0, 1) := by decide +kernel
theorem d_ckl_2 : decode jdk_65_method_131_code 2 = .ok (.if_icmp .ge 35, 3) := by decide +kernel
theorem d_ckl_37 : decode jdk_65_method_131_code 37 = .ok (.return_, 1) := by decide +kernel
theorem ef_ckl (m : MethodId) (q : Nat) : entryFrame m #[(.int (0 : Int32)), (.int (NI q))] 2 = mkF m 0 #[.val (.int (0 : Int32)), .val (.int (NI q))] [] := by first | (simp [entryFrame, mkF, argsToLocals, Value.category]; done) | rfl
theorem pn_ckl : plainFor (⟨"java/util/Arrays", "checkLength", "(II)V"⟩ : MethodName) = true := by first | exact plainFor_of_name (by first | (simp [plainName, overriddenIn]; done) | decide +kernel) | decide +kernel
set_option maxRecDepth 65536 in
set_option maxHeartbeats 40000000 in
theorem rm_ckl (l : Launch) (Z : State) (a0 : Array Value) (hw : ∀ d ∈ tables_1, d.before a0 Z = true) (q : Nat)  (h0 : Heap) (hq : q ≤ 256) :
    OMet l Z (⟨"java/util/Arrays", "checkLength", "(II)V"⟩ : MethodName) jdk_65_method_131_code 2 none [] ({ frames := 0, cells := 0, slots := 0, locals := 0 } : Room) #[(.int (0 : Int32)), (.int (NI q))] h0 (OPure none h0) := by
  refine OMet.of pn_ckl ?_
  intro p e s m below meth c T0 X0 hx hby hml hown0 hnm hret hlk hZ e0
  have hown : s.vm.findClass "java/util/Arrays" = some m.cls := hown0
  refine OGo.go (fun t k => castTop (ef_ckl m q) k) ?_
  refine OGo.go (U' := T0.setTop (mkF m 1 #[.val (.int (0 : Int32)), .val (.int (NI q))] [(.int (NI q))])) (fun _ k => XS.iloadN X0.here hx rfl (hb hby d_ckl_0) rfl k) ?_
  refine OGo.go (U' := T0.setTop (mkF m 2 #[.val (.int (0 : Int32)), .val (.int (NI q))] [(.int (0 : Int32)), (.int (NI q))])) (fun _ k => XS.iloadN X0.here hx rfl (hb hby d_ckl_1) rfl k) ?_
  refine OGo.go (U' := T0.setTop (mkF m 37 #[.val (.int (0 : Int32)), .val (.int (NI q))] [])) (fun _ k => XS.icmpYes X0.here hx rfl (pc0 := 2) (pc' := 37) rfl (hb hby d_ckl_2) rfl (flt (ni_nn (by omega))).2.1 (by decide) (by decide) k) ?_
  refine OGo.ret0 X0 hx hret hlk (hb hby d_ckl_37) ?_ (by decide) (by decide)
  exact ⟨rfl, e0, rfl⟩
theorem d_min_0 : decode jdk_29_method_69_code 0 = .ok (.iload_n 0, 1) := by decide +kernel
theorem d_min_1 : decode jdk_29_method_69_code 1 = .ok (.iload_n 1, 1) := by decide +kernel
theorem d_min_2 : decode jdk_29_method_69_code 2 = .ok (.if_icmp .gt 7, 3) := by decide +kernel
theorem d_min_5 : decode jdk_29_method_69_code 5 = .ok (.iload_n 0, 1) := by decide +kernel
theorem d_min_6 : decode jdk_29_method_69_code 6 = .ok (.goto 4, 3) := by decide +kernel
theorem d_min_9 : decode jdk_29_method_69_code 9 = .ok (.iload_n 1, 1) := by decide +kernel
theorem d_min_10 : decode jdk_29_method_69_code 10 = .ok (.ireturn, 1) := by decide +kernel
theorem ef_min (m : MethodId) (q : Nat) : entryFrame m #[(.int (256 : Int32)), (.int (NI q))] 2 = mkF m 0 #[.val (.int (256 : Int32)), .val (.int (NI q))] [] := by first | (simp [entryFrame, mkF, argsToLocals, Value.category]; done) | rfl
theorem pn_min : plainFor (⟨"java/lang/Math", "min", "(II)I"⟩ : MethodName) = true := by first | exact plainFor_of_name (by first | (simp [plainName, overriddenIn]; done) | decide +kernel) | decide +kernel
set_option maxRecDepth 65536 in
set_option maxHeartbeats 40000000 in
theorem rm_min (l : Launch) (Z : State) (a0 : Array Value) (hw : ∀ d ∈ tables_1, d.before a0 Z = true) (q : Nat)  (h0 : Heap) (hq : q ≤ 256) :
    OMet l Z (⟨"java/lang/Math", "min", "(II)I"⟩ : MethodName) jdk_29_method_69_code 2 (some .int) [] ({ frames := 0, cells := 0, slots := 0, locals := 0 } : Room) #[(.int (256 : Int32)), (.int (NI q))] h0 (OPure (some (.int (NI q))) h0) := by
  refine OMet.of pn_min ?_
  intro p e s m below meth c T0 X0 hx hby hml hown0 hnm hret hlk hZ e0
  have hown : s.vm.findClass "java/lang/Math" = some m.cls := hown0
  refine OGo.go (fun t k => castTop (ef_min m q) k) ?_
  refine OGo.go (U' := T0.setTop (mkF m 1 #[.val (.int (256 : Int32)), .val (.int (NI q))] [(.int (256 : Int32))])) (fun _ k => XS.iloadN X0.here hx rfl (hb hby d_min_0) rfl k) ?_
  refine OGo.go (U' := T0.setTop (mkF m 2 #[.val (.int (256 : Int32)), .val (.int (NI q))] [(.int (NI q)), (.int (256 : Int32))])) (fun _ k => XS.iloadN X0.here hx rfl (hb hby d_min_1) rfl k) ?_
  by_cases hc1 : (NI q) < (256 : Int32)
  · skip
    refine OGo.go (U' := T0.setTop (mkF m 9 #[.val (.int (256 : Int32)), .val (.int (NI q))] [])) (fun _ k => XS.icmpYes X0.here hx rfl (pc0 := 2) (pc' := 9) rfl (hb hby d_min_2) rfl (tlt hc1).2.2.1 (by decide) (by decide) k) ?_
    refine OGo.go (U' := T0.setTop (mkF m 10 #[.val (.int (256 : Int32)), .val (.int (NI q))] [(.int (NI q))])) (fun _ k => XS.iloadN X0.here hx rfl (hb hby d_min_9) rfl k) ?_
    refine OGo.retI X0 hx hret hlk (hb hby d_min_10) ?_ (by decide) (by decide)
    exact ⟨congrArg (fun z => some (Value.int z)) (rfl), e0, rfl⟩
  · skip
    refine OGo.go (U' := T0.setTop (mkF m 5 #[.val (.int (256 : Int32)), .val (.int (NI q))] [])) (fun _ k => XS.icmpNo X0.here hx rfl (hb hby d_min_2) rfl (flt hc1).2.2.1 k) ?_
    refine OGo.go (U' := T0.setTop (mkF m 6 #[.val (.int (256 : Int32)), .val (.int (NI q))] [(.int (256 : Int32))])) (fun _ k => XS.iloadN X0.here hx rfl (hb hby d_min_5) rfl k) ?_
    refine OGo.go (U' := T0.setTop (mkF m 10 #[.val (.int (256 : Int32)), .val (.int (NI q))] [(.int (256 : Int32))])) (fun _ k => XS.goto X0.here hx rfl (pc0 := 6) (pc' := 10) rfl (hb hby d_min_6) (by decide) (by decide) k) ?_
    refine OGo.retI X0 hx hret hlk (hb hby d_min_10) ?_ (by decide) (by decide)
    exact ⟨congrArg (fun z => some (Value.int z)) (own_min hq hc1), e0, rfl⟩
theorem d_crb_0 : decode jdk_65_method_133_code 0 = .ok (.iload_n 1, 1) := by decide +kernel
theorem d_crb_1 : decode jdk_65_method_133_code 1 = .ok (.iload_n 2, 1) := by decide +kernel
theorem d_crb_2 : decode jdk_65_method_133_code 2 = .ok (.invokestatic 343, 3) := by decide +kernel
theorem d_crb_5 : decode jdk_65_method_133_code 5 = .ok (.iload_n 2, 1) := by decide +kernel
theorem d_crb_6 : decode jdk_65_method_133_code 6 = .ok (.iload_n 1, 1) := by decide +kernel
theorem d_crb_7 : decode jdk_65_method_133_code 7 = .ok (.isub, 1) := by decide +kernel
theorem d_crb_8 : decode jdk_65_method_133_code 8 = .ok (.istore_n 3, 1) := by decide +kernel
theorem d_crb_9 : decode jdk_65_method_133_code 9 = .ok (.iload_n 3, 1) := by decide +kernel
theorem d_crb_10 : decode jdk_65_method_133_code 10 = .ok (.newarray .byte, 2) := by decide +kernel
theorem d_crb_12 : decode jdk_65_method_133_code 12 = .ok (.astore 4, 2) := by decide +kernel
theorem d_crb_14 : decode jdk_65_method_133_code 14 = .ok (.aload_n 0, 1) := by decide +kernel
theorem d_crb_15 : decode jdk_65_method_133_code 15 = .ok (.iload_n 1, 1) := by decide +kernel
theorem d_crb_16 : decode jdk_65_method_133_code 16 = .ok (.aload 4, 2) := by decide +kernel
theorem d_crb_18 : decode jdk_65_method_133_code 18 = .ok (.iconst 0, 1) := by decide +kernel
theorem d_crb_19 : decode jdk_65_method_133_code 19 = .ok (.aload_n 0, 1) := by decide +kernel
theorem d_crb_20 : decode jdk_65_method_133_code 20 = .ok (.arraylength, 1) := by decide +kernel
theorem d_crb_21 : decode jdk_65_method_133_code 21 = .ok (.iload_n 1, 1) := by decide +kernel
theorem d_crb_22 : decode jdk_65_method_133_code 22 = .ok (.isub, 1) := by decide +kernel
theorem d_crb_23 : decode jdk_65_method_133_code 23 = .ok (.iload_n 3, 1) := by decide +kernel
theorem d_crb_24 : decode jdk_65_method_133_code 24 = .ok (.invokestatic 304, 3) := by decide +kernel
theorem d_crb_27 : decode jdk_65_method_133_code 27 = .ok (.invokestatic 150, 3) := by decide +kernel
theorem d_crb_30 : decode jdk_65_method_133_code 30 = .ok (.aload 4, 2) := by decide +kernel
theorem d_crb_32 : decode jdk_65_method_133_code 32 = .ok (.areturn, 1) := by decide +kernel
theorem ef_crb (m : MethodId) (dr : Addr) (bs : List Value) : entryFrame m #[(.ref dr), (.int (0 : Int32)), (.int (NI bs.length))] 5 = mkF m 0 #[.val (.ref dr), .val (.int (0 : Int32)), .val (.int (NI bs.length)), .unset, .unset] [] := by first | (simp [entryFrame, mkF, argsToLocals, Value.category]; done) | rfl
theorem pn_crb : plainFor (⟨"java/util/Arrays", "copyOfRangeByte", "([BII)[B"⟩ : MethodName) = true := by first | exact plainFor_of_name (by first | (simp [plainName, overriddenIn]; done) | decide +kernel) | decide +kernel
set_option maxRecDepth 65536 in
set_option maxHeartbeats 40000000 in
theorem rm_crb (l : Launch) (Z : State) (a0 : Array Value) (hw : ∀ d ∈ tables_1, d.before a0 Z = true) (dr : Addr) (bs : List Value) (kd : ClassId) (n0 : Nat) (h0 : Heap) (Z0 : n0 ≤ h0.size) (Ad : Arv Z h0 dr kd .byte 256 bs (.int 0)) (hlt : bs.length < 256) :
    OMet l Z (⟨"java/util/Arrays", "copyOfRangeByte", "([BII)[B"⟩ : MethodName) jdk_65_method_133_code 5 (some (.array .byte)) [] ({ frames := 1, cells := 1, slots := 256, locals := 25 } : Room) #[(.ref dr), (.int (0 : Int32)), (.int (NI bs.length))] h0 (fun v h L => ∃ (b : Addr) (k : ClassId), v = some (.ref b) ∧ Fr n0 L ∧ Keep h0 h [] ∧ Arv Z h b k .byte (NI bs.length) bs (.int 0) ∧ h0.size ≤ b) := by
  refine OMet.of pn_crb ?_
  intro p e s m below meth c T0 X0 hx hby hml hown0 hnm hret hlk hZ e0
  have hown : s.vm.findClass "java/util/Arrays" = some m.cls := hown0
  refine OGo.go (fun t k => castTop (ef_crb m dr bs) k) ?_
  refine OGo.go (U' := T0.setTop (mkF m 1 #[.val (.ref dr), .val (.int (0 : Int32)), .val (.int (NI bs.length)), .unset, .unset] [(.int (0 : Int32))])) (fun _ k => XS.iloadN X0.here hx rfl (hb hby d_crb_0) rfl k) ?_
  refine OGo.go (U' := T0.setTop (mkF m 2 #[.val (.ref dr), .val (.int (0 : Int32)), .val (.int (NI bs.length)), .unset, .unset] [(.int (NI bs.length)), (.int (0 : Int32))])) (fun _ k => XS.iloadN X0.here hx rfl (hb hby d_crb_1) rfl k) ?_
  refine OGo.callS X0 hx hZ (y := (⟨"java/util/Arrays", "checkLength", "(II)V"⟩ : MethodName)) hown (hw _ (List.mem_of_getElem? (i := 214) rfl)) (hw _ (List.mem_of_getElem? (i := 215) rfl)) (hw _ (List.mem_of_getElem? (i := 209) rfl)) (hw _ (List.mem_of_getElem? (i := 216) rfl)) (by decide) (g := (mkF m 2 #[.val (.ref dr), .val (.int (0 : Int32)), .val (.int (NI bs.length)), .unset, .unset] [(.int (NI bs.length)), (.int (0 : Int32))])) (argsL := [(.int (0 : Int32)), (.int (NI bs.length))]) (rest := []) e0 (rm_ckl l Z a0 hw bs.length h0 (by omega)) rfl (by rw [hml]; rfl) (lenOf pd_7 rfl) rfl (W := 0) (by show 2 * 0 + _ ≤ _; exact Nat.le_of_eq rfl) (hb hby d_crb_2) (by decide) (by decide) (by decide) (by decide) ?_
  rintro _ T1 _ X1 ⟨rfl, e1, rfl⟩
  rw [List.append_nil] at X1
  show OGo p e below _ (T1.setTop (mkF m 5 #[.val (.ref dr), .val (.int (0 : Int32)), .val (.int (NI bs.length)), .unset, .unset] []))
  refine OGo.go (U' := T1.setTop (mkF m 6 #[.val (.ref dr), .val (.int (0 : Int32)), .val (.int (NI bs.length)), .unset, .unset] [(.int (NI bs.length))])) (fun _ k => XS.iloadN X1.here hx rfl (hb hby d_crb_5) rfl k) ?_
  refine OGo.go (U' := T1.setTop (mkF m 7 #[.val (.ref dr), .val (.int (0 : Int32)), .val (.int (NI bs.length)), .unset, .unset] [(.int (0 : Int32)), (.int (NI bs.length))])) (fun _ k => XS.iloadN X1.here hx rfl (hb hby d_crb_6) rfl k) ?_
  refine OGo.go (U' := T1.setTop (mkF m 8 #[.val (.ref dr), .val (.int (0 : Int32)), .val (.int (NI bs.length)), .unset, .unset] [(.int ((NI bs.length) - (0 : Int32)))])) (fun _ k => XS.isub X1.here hx rfl (hb hby d_crb_7) rfl k) ?_
  rw [own_sub0]
  refine OGo.go (U' := T1.setTop (mkF m 9 #[.val (.ref dr), .val (.int (0 : Int32)), .val (.int (NI bs.length)), .val (.int (NI bs.length)), .unset] [])) (fun _ k => XS.istoreN X1.here hx rfl (hb hby d_crb_8) rfl (l' := #[.val (.ref dr), .val (.int (0 : Int32)), .val (.int (NI bs.length)), .val (.int (NI bs.length)), .unset]) rfl k) ?_
  refine OGo.go (U' := T1.setTop (mkF m 10 #[.val (.ref dr), .val (.int (0 : Int32)), .val (.int (NI bs.length)), .val (.int (NI bs.length)), .unset] [(.int (NI bs.length))])) (fun _ k => XS.iloadN X1.here hx rfl (hb hby d_crb_9) rfl k) ?_
  obtain ⟨T2, h2, k2, X2, e2, E2, A2, st2⟩ := newP X1 hx hZ (hw _ (List.mem_of_getElem? (i := 19) rfl)) e1 (g := (mkF m 10 #[.val (.ref dr), .val (.int (0 : Int32)), .val (.int (NI bs.length)), .val (.int (NI bs.length)), .unset] [(.int (NI bs.length))])) rfl (hb hby d_crb_10) rfl (n := (NI bs.length)) (ni_nn (by omega)) (cap := 256) (by rw [ni_nat (by omega)]; omega) (by decide) (by decide) (by decide)
  obtain ⟨b2, gb2⟩ : ∃ z, z = h0.size := ⟨_, rfl⟩
  rw [← gb2] at A2 st2
  have ne3 : dr ≠ b2 := Nat.ne_of_lt (Nat.lt_of_lt_of_le Ad.lt (Nat.le_of_eq gb2.symm))
  have g4 : n0 ≤ b2 := Nat.le_trans Z0 (Nat.le_of_eq gb2.symm)
  have sz5 := Nat.le_trans (Keep.refl h0 []).1 (Nat.le_of_eq gb2.symm)
  have f6 := Ad.ext E2
  have K7 := (Keep.refl h0 []).ext E2
  have V2 : Arv Z h2 b2 k2 .byte (NI bs.length) [] (.int 0) := Arv.new A2 (ni_nn (by omega))
  refine OGo.go (U' := T2.setTop (mkF m 12 #[.val (.ref dr), .val (.int (0 : Int32)), .val (.int (NI bs.length)), .val (.int (NI bs.length)), .unset] [(.ref b2)])) st2 ?_
  refine OGo.go (U' := T2.setTop (mkF m 14 #[.val (.ref dr), .val (.int (0 : Int32)), .val (.int (NI bs.length)), .val (.int (NI bs.length)), .val (.ref b2)] [])) (fun _ k => XS.astore X2.here hx rfl (hb hby d_crb_12) rfl rfl (l' := #[.val (.ref dr), .val (.int (0 : Int32)), .val (.int (NI bs.length)), .val (.int (NI bs.length)), .val (.ref b2)]) rfl k) ?_
  refine OGo.go (U' := T2.setTop (mkF m 15 #[.val (.ref dr), .val (.int (0 : Int32)), .val (.int (NI bs.length)), .val (.int (NI bs.length)), .val (.ref b2)] [(.ref dr)])) (fun _ k => XS.aloadN X2.here hx rfl (hb hby d_crb_14) rfl rfl k) ?_
  refine OGo.go (U' := T2.setTop (mkF m 16 #[.val (.ref dr), .val (.int (0 : Int32)), .val (.int (NI bs.length)), .val (.int (NI bs.length)), .val (.ref b2)] [(.int (0 : Int32)), (.ref dr)])) (fun _ k => XS.iloadN X2.here hx rfl (hb hby d_crb_15) rfl k) ?_
  refine OGo.go (U' := T2.setTop (mkF m 18 #[.val (.ref dr), .val (.int (0 : Int32)), .val (.int (NI bs.length)), .val (.int (NI bs.length)), .val (.ref b2)] [(.ref b2), (.int (0 : Int32)), (.ref dr)])) (fun _ k => XS.aload X2.here hx rfl (hb hby d_crb_16) rfl rfl k) ?_
  refine OGo.go (U' := T2.setTop (mkF m 19 #[.val (.ref dr), .val (.int (0 : Int32)), .val (.int (NI bs.length)), .val (.int (NI bs.length)), .val (.ref b2)] [(.int (0 : Int32)), (.ref b2), (.int (0 : Int32)), (.ref dr)])) (fun _ k => XS.iconst X2.here hx rfl (hb hby d_crb_18) k) ?_
  refine OGo.go (U' := T2.setTop (mkF m 20 #[.val (.ref dr), .val (.int (0 : Int32)), .val (.int (NI bs.length)), .val (.int (NI bs.length)), .val (.ref b2)] [(.ref dr), (.int (0 : Int32)), (.ref b2), (.int (0 : Int32)), (.ref dr)])) (fun _ k => XS.aloadN X2.here hx rfl (hb hby d_crb_19) rfl rfl k) ?_
  refine OGo.go (U' := T2.setTop (mkF m 21 #[.val (.ref dr), .val (.int (0 : Int32)), .val (.int (NI bs.length)), .val (.int (NI bs.length)), .val (.ref b2)] [(.int (256 : Int32)), (.int (0 : Int32)), (.ref b2), (.int (0 : Int32)), (.ref dr)])) (fun _ k => Arv.len' X2 hx hZ e2 f6 (g := (mkF m 20 #[.val (.ref dr), .val (.int (0 : Int32)), .val (.int (NI bs.length)), .val (.int (NI bs.length)), .val (.ref b2)] [(.ref dr), (.int (0 : Int32)), (.ref b2), (.int (0 : Int32)), (.ref dr)])) rfl rfl (hb hby d_crb_20) _ k) ?_
  refine OGo.go (U' := T2.setTop (mkF m 22 #[.val (.ref dr), .val (.int (0 : Int32)), .val (.int (NI bs.length)), .val (.int (NI bs.length)), .val (.ref b2)] [(.int (0 : Int32)), (.int (256 : Int32)), (.int (0 : Int32)), (.ref b2), (.int (0 : Int32)), (.ref dr)])) (fun _ k => XS.iloadN X2.here hx rfl (hb hby d_crb_21) rfl k) ?_
  refine OGo.go (U' := T2.setTop (mkF m 23 #[.val (.ref dr), .val (.int (0 : Int32)), .val (.int (NI bs.length)), .val (.int (NI bs.length)), .val (.ref b2)] [(.int ((256 : Int32) - (0 : Int32))), (.int (0 : Int32)), (.ref b2), (.int (0 : Int32)), (.ref dr)])) (fun _ k => XS.isub X2.here hx rfl (hb hby d_crb_22) rfl k) ?_
  rw [own_sub0]
  refine OGo.go (U' := T2.setTop (mkF m 24 #[.val (.ref dr), .val (.int (0 : Int32)), .val (.int (NI bs.length)), .val (.int (NI bs.length)), .val (.ref b2)] [(.int (NI bs.length)), (.int (256 : Int32)), (.int (0 : Int32)), (.ref b2), (.int (0 : Int32)), (.ref dr)])) (fun _ k => XS.iloadN X2.here hx rfl (hb hby d_crb_23) rfl k) ?_
  refine OGo.callS X2 hx hZ (y := (⟨"java/lang/Math", "min", "(II)I"⟩ : MethodName)) hown (hw _ (List.mem_of_getElem? (i := 217) rfl)) (hw _ (List.mem_of_getElem? (i := 218) rfl)) (hw _ (List.mem_of_getElem? (i := 219) rfl)) (hw _ (List.mem_of_getElem? (i := 220) rfl)) (by decide) (g := (mkF m 24 #[.val (.ref dr), .val (.int (0 : Int32)), .val (.int (NI bs.length)), .val (.int (NI bs.length)), .val (.ref b2)] [(.int (NI bs.length)), (.int (256 : Int32)), (.int (0 : Int32)), (.ref b2), (.int (0 : Int32)), (.ref dr)])) (argsL := [(.int (256 : Int32)), (.int (NI bs.length))]) (rest := [(.int (0 : Int32)), (.ref b2), (.int (0 : Int32)), (.ref dr)]) e2 (rm_min l Z a0 hw bs.length h2 (by omega)) rfl (by rw [hml]; rfl) (lenOf pd_8 rfl) rfl (W := 4) (by show 2 * 0 + _ ≤ _; exact Nat.le_of_eq rfl) (hb hby d_crb_24) (by decide) (by decide) (by decide) (by decide) ?_
  rintro _ T9 _ X9 ⟨rfl, e9, rfl⟩
  rw [List.append_nil] at X9
  show OGo p e below _ (T9.setTop (mkF m 27 #[.val (.ref dr), .val (.int (0 : Int32)), .val (.int (NI bs.length)), .val (.int (NI bs.length)), .val (.ref b2)] [(.int (NI bs.length)), (.int (0 : Int32)), (.ref b2), (.int (0 : Int32)), (.ref dr)]))
  obtain ⟨T10, h10, L10, X10, e10, N10, K10, A10, st10⟩ := own_cp2 X9 hx hZ hown (hw _ (List.mem_of_getElem? (i := 221) rfl)) (hw _ (List.mem_of_getElem? (i := 170) rfl)) (hw _ (List.mem_of_getElem? (i := 168) rfl)) (hw _ (List.mem_of_getElem? (i := 169) rfl)) e9 f6 V2 (by omega) (Fr.nil n0) g4 (g := (mkF m 27 #[.val (.ref dr), .val (.int (0 : Int32)), .val (.int (NI bs.length)), .val (.int (NI bs.length)), .val (.ref b2)] [(.int (NI bs.length)), (.int (0 : Int32)), (.ref b2), (.int (0 : Int32)), (.ref dr)])) rfl (by rw [hml]; rfl) rfl (hb hby d_crb_27) (by decide) (W := 0) (by show 2 * 0 + _ ≤ _; exact Nat.le_of_eq rfl) (by decide)
  have f11 := f6.keep K10 (ninS ne3 nin0)
  have K12 := K7.trans K10 (allS (P := fun x => x ∈ _ ∨ _ ≤ x) (Or.inr sz5) all0)
  refine OGo.go (U' := T10.setTop (mkF m 30 #[.val (.ref dr), .val (.int (0 : Int32)), .val (.int (NI bs.length)), .val (.int (NI bs.length)), .val (.ref b2)] [])) st10 ?_
  refine OGo.go (U' := T10.setTop (mkF m 32 #[.val (.ref dr), .val (.int (0 : Int32)), .val (.int (NI bs.length)), .val (.int (NI bs.length)), .val (.ref b2)] [(.ref b2)])) (fun _ k => XS.aload X10.here hx rfl (hb hby d_crb_30) rfl rfl k) ?_
  refine OGo.retA X10 hx hret hlk rfl rfl (hb hby d_crb_32) ?_ (by decide) (by decide)
  rw [e10]
  exact ⟨b2, k2, rfl, N10, K12, A10, sz5⟩
theorem d_cor_0 : decode jdk_65_method_132_code 0 = .ok (.iload_n 1, 1) := by decide +kernel
theorem d_cor_1 : decode jdk_65_method_132_code 1 = .ok (.ifCond .ne 9, 3) := by decide +kernel
theorem d_cor_4 : decode jdk_65_method_132_code 4 = .ok (.iload_n 2, 1) := by decide +kernel
theorem d_cor_5 : decode jdk_65_method_132_code 5 = .ok (.aload_n 0, 1) := by decide +kernel
theorem d_cor_6 : decode jdk_65_method_132_code 6 = .ok (.arraylength, 1) := by decide +kernel
theorem d_cor_7 : decode jdk_65_method_132_code 7 = .ok (.if_icmp .eq 10, 3) := by decide +kernel
theorem d_cor_10 : decode jdk_65_method_132_code 10 = .ok (.aload_n 0, 1) := by decide +kernel
theorem d_cor_11 : decode jdk_65_method_132_code 11 = .ok (.iload_n 1, 1) := by decide +kernel
theorem d_cor_12 : decode jdk_65_method_132_code 12 = .ok (.iload_n 2, 1) := by decide +kernel
theorem d_cor_13 : decode jdk_65_method_132_code 13 = .ok (.invokestatic 339, 3) := by decide +kernel
theorem d_cor_16 : decode jdk_65_method_132_code 16 = .ok (.areturn, 1) := by decide +kernel
theorem ef_cor (m : MethodId) (dr : Addr) (bs : List Value) : entryFrame m #[(.ref dr), (.int (0 : Int32)), (.int (NI bs.length))] 3 = mkF m 0 #[.val (.ref dr), .val (.int (0 : Int32)), .val (.int (NI bs.length))] [] := by first | (simp [entryFrame, mkF, argsToLocals, Value.category]; done) | rfl
theorem pn_cor : plainFor (⟨"java/util/Arrays", "copyOfRange", "([BII)[B"⟩ : MethodName) = true := by first | exact plainFor_of_name (by first | (simp [plainName, overriddenIn]; done) | decide +kernel) | decide +kernel
set_option maxRecDepth 65536 in
set_option maxHeartbeats 40000000 in
theorem rm_cor (l : Launch) (Z : State) (a0 : Array Value) (hw : ∀ d ∈ tables_1, d.before a0 Z = true) (dr : Addr) (bs : List Value) (kd : ClassId) (n0 : Nat) (h0 : Heap) (Z0 : n0 ≤ h0.size) (Ad : Arv Z h0 dr kd .byte 256 bs (.int 0)) (hlt : bs.length < 256) :
    OMet l Z (⟨"java/util/Arrays", "copyOfRange", "([BII)[B"⟩ : MethodName) jdk_65_method_132_code 3 (some (.array .byte)) [] ({ frames := 2, cells := 1, slots := 256, locals := 45 } : Room) #[(.ref dr), (.int (0 : Int32)), (.int (NI bs.length))] h0 (fun v h L => ∃ (b : Addr) (k : ClassId), v = some (.ref b) ∧ Fr n0 L ∧ Keep h0 h [] ∧ Arv Z h b k .byte (NI bs.length) bs (.int 0) ∧ h0.size ≤ b) := by
  refine OMet.of pn_cor ?_
  intro p e s m below meth c T0 X0 hx hby hml hown0 hnm hret hlk hZ e0
  have hown : s.vm.findClass "java/util/Arrays" = some m.cls := hown0
  refine OGo.go (fun t k => castTop (ef_cor m dr bs) k) ?_
  refine OGo.go (U' := T0.setTop (mkF m 1 #[.val (.ref dr), .val (.int (0 : Int32)), .val (.int (NI bs.length))] [(.int (0 : Int32))])) (fun _ k => XS.iloadN X0.here hx rfl (hb hby d_cor_0) rfl k) ?_
  refine OGo.go (U' := T0.setTop (mkF m 4 #[.val (.ref dr), .val (.int (0 : Int32)), .val (.int (NI bs.length))] [])) (fun _ k => XS.ifNo X0.here hx rfl (hb hby d_cor_1) rfl ((if0 _ _).trans (teq rfl).2) k) ?_
  refine OGo.go (U' := T0.setTop (mkF m 5 #[.val (.ref dr), .val (.int (0 : Int32)), .val (.int (NI bs.length))] [(.int (NI bs.length))])) (fun _ k => XS.iloadN X0.here hx rfl (hb hby d_cor_4) rfl k) ?_
  refine OGo.go (U' := T0.setTop (mkF m 6 #[.val (.ref dr), .val (.int (0 : Int32)), .val (.int (NI bs.length))] [(.ref dr), (.int (NI bs.length))])) (fun _ k => XS.aloadN X0.here hx rfl (hb hby d_cor_5) rfl rfl k) ?_
  refine OGo.go (U' := T0.setTop (mkF m 7 #[.val (.ref dr), .val (.int (0 : Int32)), .val (.int (NI bs.length))] [(.int (256 : Int32)), (.int (NI bs.length))])) (fun _ k => Arv.len' X0 hx hZ e0 Ad (g := (mkF m 6 #[.val (.ref dr), .val (.int (0 : Int32)), .val (.int (NI bs.length))] [(.ref dr), (.int (NI bs.length))])) rfl rfl (hb hby d_cor_6) _ k) ?_
  refine OGo.go (U' := T0.setTop (mkF m 10 #[.val (.ref dr), .val (.int (0 : Int32)), .val (.int (NI bs.length))] [])) (fun _ k => XS.icmpNo X0.here hx rfl (hb hby d_cor_7) rfl (feq (own_ne256 hlt)).1 k) ?_
  refine OGo.go (U' := T0.setTop (mkF m 11 #[.val (.ref dr), .val (.int (0 : Int32)), .val (.int (NI bs.length))] [(.ref dr)])) (fun _ k => XS.aloadN X0.here hx rfl (hb hby d_cor_10) rfl rfl k) ?_
  refine OGo.go (U' := T0.setTop (mkF m 12 #[.val (.ref dr), .val (.int (0 : Int32)), .val (.int (NI bs.length))] [(.int (0 : Int32)), (.ref dr)])) (fun _ k => XS.iloadN X0.here hx rfl (hb hby d_cor_11) rfl k) ?_
  refine OGo.go (U' := T0.setTop (mkF m 13 #[.val (.ref dr), .val (.int (0 : Int32)), .val (.int (NI bs.length))] [(.int (NI bs.length)), (.int (0 : Int32)), (.ref dr)])) (fun _ k => XS.iloadN X0.here hx rfl (hb hby d_cor_12) rfl k) ?_
  refine OGo.callS X0 hx hZ (y := (⟨"java/util/Arrays", "copyOfRangeByte", "([BII)[B"⟩ : MethodName)) hown (hw _ (List.mem_of_getElem? (i := 211) rfl)) (hw _ (List.mem_of_getElem? (i := 212) rfl)) (hw _ (List.mem_of_getElem? (i := 209) rfl)) (hw _ (List.mem_of_getElem? (i := 213) rfl)) (by decide) (g := (mkF m 13 #[.val (.ref dr), .val (.int (0 : Int32)), .val (.int (NI bs.length))] [(.int (NI bs.length)), (.int (0 : Int32)), (.ref dr)])) (argsL := [(.ref dr), (.int (0 : Int32)), (.int (NI bs.length))]) (rest := []) e0 (rm_crb l Z a0 hw dr bs kd n0 h0 Z0 Ad hlt) rfl (by rw [hml]; rfl) (lenOf pd_9 rfl) rfl (W := 0) (by show 2 * 0 + _ ≤ _; exact Nat.le_of_eq rfl) (hb hby d_cor_13) (by decide) (by decide) (by decide) (by decide) ?_
  rintro _ T2 L2 X2 ⟨b2, k2, rfl, N2, K2, A2, gb2⟩
  have e2 : T2.heap = T2.heap := rfl
  have N3 := Fr.app (Fr.nil n0) N2
  have ne4 : dr ≠ b2 := Nat.ne_of_lt (Nat.lt_of_lt_of_le Ad.lt gb2)
  have g5 : n0 ≤ b2 := Nat.le_trans Z0 gb2
  have sz6 := Nat.le_trans (Keep.refl h0 []).1 gb2
  have f7 := Ad.keep K2 nin0
  have K8 := (Keep.refl h0 []).trans K2 all0
  show OGo p e below _ (T2.setTop (mkF m 16 #[.val (.ref dr), .val (.int (0 : Int32)), .val (.int (NI bs.length))] [(.ref b2)]))
  refine OGo.retA X2 hx hret hlk rfl rfl (hb hby d_cor_16) ?_ (by decide) (by decide)
  rw [e2]
  exact ⟨b2, k2, rfl, N3, K8, A2, sz6⟩
theorem d_sia_0 : decode jdk_42_method_150_code 0 = .ok (.aload_n 0, 1) := by decide +kernel
theorem d_sia_1 : decode jdk_42_method_150_code 1 = .ok (.invokespecial 1, 3) := by decide +kernel
theorem d_sia_4 : decode jdk_42_method_150_code 4 = .ok (.aload_n 1, 1) := by decide +kernel
theorem d_sia_5 : decode jdk_42_method_150_code 5 = .ok (.invokevirtual 552, 3) := by decide +kernel
theorem d_sia_8 : decode jdk_42_method_150_code 8 = .ok (.astore_n 3, 1) := by decide +kernel
theorem d_sia_9 : decode jdk_42_method_150_code 9 = .ok (.aload_n 1, 1) := by decide +kernel
theorem d_sia_10 : decode jdk_42_method_150_code 10 = .ok (.invokevirtual 549, 3) := by decide +kernel
theorem d_sia_13 : decode jdk_42_method_150_code 13 = .ok (.istore 4, 2) := by decide +kernel
theorem d_sia_15 : decode jdk_42_method_150_code 15 = .ok (.aload_n 1, 1) := by decide +kernel
theorem d_sia_16 : decode jdk_42_method_150_code 16 = .ok (.invokevirtual 1047, 3) := by decide +kernel
theorem d_sia_19 : decode jdk_42_method_150_code 19 = .ok (.ifCond .eq 22, 3) := by decide +kernel
theorem d_sia_22 : decode jdk_42_method_150_code 22 = .ok (.aload_n 0, 1) := by decide +kernel
theorem d_sia_23 : decode jdk_42_method_150_code 23 = .ok (.iconst 0, 1) := by decide +kernel
theorem d_sia_24 : decode jdk_42_method_150_code 24 = .ok (.putfield 15, 3) := by decide +kernel
theorem d_sia_27 : decode jdk_42_method_150_code 27 = .ok (.aload_n 0, 1) := by decide +kernel
theorem d_sia_28 : decode jdk_42_method_150_code 28 = .ok (.aload_n 3, 1) := by decide +kernel
theorem d_sia_29 : decode jdk_42_method_150_code 29 = .ok (.iconst 0, 1) := by decide +kernel
theorem d_sia_30 : decode jdk_42_method_150_code 30 = .ok (.iload 4, 2) := by decide +kernel
theorem d_sia_32 : decode jdk_42_method_150_code 32 = .ok (.invokestatic 54, 3) := by decide +kernel
theorem d_sia_35 : decode jdk_42_method_150_code 35 = .ok (.putfield 9, 3) := by decide +kernel
theorem d_sia_38 : decode jdk_42_method_150_code 38 = .ok (.goto 59, 3) := by decide +kernel
theorem d_sia_97 : decode jdk_42_method_150_code 97 = .ok (.return_, 1) := by decide +kernel
theorem ef_sia (m : MethodId) (sr br : Addr) : entryFrame m #[(.ref sr), (.ref br), .null] 5 = mkF m 0 #[.val (.ref sr), .val (.ref br), .val .null, .unset, .unset] [] := by first | (simp [entryFrame, mkF, argsToLocals, Value.category]; done) | rfl
theorem pn_sia : plainFor (⟨"java/lang/String", "<init>", "(Ljava/lang/AbstractStringBuilder;Ljava/lang/Void;)V"⟩ : MethodName) = true := by first | exact plainFor_of_name (by first | (simp [plainName, overriddenIn]; done) | decide +kernel) | decide +kernel
set_option maxRecDepth 65536 in
set_option maxHeartbeats 40000000 in
theorem rm_sia (l : Launch) (Z : State) (a0 : Array Value) (hw : ∀ d ∈ tables_1, d.before a0 Z = true) (sr br : Addr) (dr : Addr) (kd : ClassId) (bs : List Value) (u_value u_coder : Value) (cs : Int32) (n0 : Nat) (h0 : Heap) (Z0 : n0 ≤ h0.size) (Es : Exa Z h0 sr "java/lang/String") (F_value : Fld Z h0 sr "java/lang/String" "value" "[B" u_value) (F_coder : Fld Z h0 sr "java/lang/String" "coder" "B" u_coder) (gs : n0 ≤ sr) (hsb : sr ≠ br) (hsd : sr ≠ dr) (hlt : bs.length < 256) (EB : Exa Z h0 br "java/lang/StringBuilder") (fv : Fld Z h0 br "java/lang/AbstractStringBuilder" "value" "[B" (.ref dr)) (fc : Fld Z h0 br "java/lang/AbstractStringBuilder" "coder" "B" (.int 0)) (fn : Fld Z h0 br "java/lang/AbstractStringBuilder" "count" "I" (.int (NI bs.length))) (Ad : Arv Z h0 dr kd .byte 256 bs (.int 0)) (S0 : Sta Z h0 "java/lang/String" "COMPACT_STRINGS" "Z" (.int cs)) (hcs : ¬ cs = 0) :
    OMet l Z (⟨"java/lang/String", "<init>", "(Ljava/lang/AbstractStringBuilder;Ljava/lang/Void;)V"⟩ : MethodName) jdk_42_method_150_code 5 none [] ({ frames := 3, cells := 1, slots := 256, locals := 65 } : Room) #[(.ref sr), (.ref br), .null] h0 (fun v h L => v = none ∧ Fr n0 L ∧ Keep h0 h [sr] ∧ Exa Z h sr "java/lang/String" ∧ Fld Z h sr "java/lang/String" "coder" "B" (.int 0) ∧ ∃ (b : Addr) (k : ClassId), Fld Z h sr "java/lang/String" "value" "[B" (.ref b) ∧ Arv Z h b k .byte (NI bs.length) bs (.int 0) ∧ h0.size ≤ b) := by
  refine OMet.of pn_sia ?_
  intro p e s m below meth c T0 X0 hx hby hml hown0 hnm hret hlk hZ e0
  have hown : s.vm.findClass "java/lang/String" = some m.cls := hown0
  refine OGo.go (fun t k => castTop (ef_sia m sr br) k) ?_
  refine OGo.go (U' := T0.setTop (mkF m 1 #[.val (.ref sr), .val (.ref br), .val .null, .unset, .unset] [(.ref sr)])) (fun _ k => XS.aloadN X0.here hx rfl (hb hby d_sia_0) rfl rfl k) ?_
  obtain ⟨T1, X1, e1, st1⟩ := initO X0 hx hZ hown (hw _ (List.mem_of_getElem? (i := 15) rfl)) (hw _ (List.mem_of_getElem? (i := 16) rfl)) (hw _ (List.mem_of_getElem? (i := 17) rfl)) e0 (g := (mkF m 1 #[.val (.ref sr), .val (.ref br), .val .null, .unset, .unset] [(.ref sr)])) rfl (by rw [hml]; rfl) rfl (hb hby d_sia_1) (by decide) (W := 0) (by show 2 * 0 + _ ≤ _; exact Nat.le_of_eq rfl) (by decide)
  refine OGo.go (U' := T1.setTop (mkF m 4 #[.val (.ref sr), .val (.ref br), .val .null, .unset, .unset] [])) st1 ?_
  refine OGo.go (U' := T1.setTop (mkF m 5 #[.val (.ref sr), .val (.ref br), .val .null, .unset, .unset] [(.ref br)])) (fun _ k => XS.aloadN X1.here hx rfl (hb hby d_sia_4) rfl rfl k) ?_
  refine OGo.callV X1 hx hZ (y := (⟨"java/lang/AbstractStringBuilder", "getValue", "()[B"⟩ : MethodName)) (C := "java/lang/StringBuilder") hown (hw _ (List.mem_of_getElem? (i := 189) rfl)) (hw _ (List.mem_of_getElem? (i := 190) rfl)) (hw _ (List.mem_of_getElem? (i := 192) rfl)) (hw _ (List.mem_of_getElem? (i := 191) rfl)) (hw _ (List.mem_of_getElem? (i := 57) rfl)) (hw _ (List.mem_of_getElem? (i := 193) rfl)) (by decide) (g := (mkF m 5 #[.val (.ref sr), .val (.ref br), .val .null, .unset, .unset] [(.ref br)])) (a := br) (argsL := []) (rest := []) e1 EB (rm_gva l Z a0 hw br dr kd bs h0 EB fv fc fn Ad) rfl (by rw [hml]; rfl) (lenOf pd_10 rfl) rfl (W := 0) (by show 2 * 0 + _ ≤ _; exact Nat.le_of_eq rfl) (hb hby d_sia_5) (by decide) (by decide) (by decide) (by decide) ?_
  rintro _ T2 _ X2 ⟨rfl, e2, rfl⟩
  rw [List.append_nil] at X2
  show OGo p e below _ (T2.setTop (mkF m 8 #[.val (.ref sr), .val (.ref br), .val .null, .unset, .unset] [(.ref dr)]))
  refine OGo.go (U' := T2.setTop (mkF m 9 #[.val (.ref sr), .val (.ref br), .val .null, .val (.ref dr), .unset] [])) (fun _ k => XS.astoreN X2.here hx rfl (hb hby d_sia_8) rfl rfl (l' := #[.val (.ref sr), .val (.ref br), .val .null, .val (.ref dr), .unset]) rfl k) ?_
  refine OGo.go (U' := T2.setTop (mkF m 10 #[.val (.ref sr), .val (.ref br), .val .null, .val (.ref dr), .unset] [(.ref br)])) (fun _ k => XS.aloadN X2.here hx rfl (hb hby d_sia_9) rfl rfl k) ?_
  refine OGo.callVz X2 hx hZ (x := (⟨"java/lang/AbstractStringBuilder", "length", "()I"⟩ : MethodName)) (y := (⟨"java/lang/StringBuilder", "length", "()I"⟩ : MethodName)) (z := (⟨"java/lang/AbstractStringBuilder", "ensureCapacityInternal", "(I)V"⟩ : MethodName)) (C := "java/lang/StringBuilder") hown (hw _ (List.mem_of_getElem? (i := 194) rfl)) (hw _ (List.mem_of_getElem? (i := 195) rfl)) (hw _ (List.mem_of_getElem? (i := 197) rfl)) (hw _ (List.mem_of_getElem? (i := 149) rfl)) rfl (hw _ (List.mem_of_getElem? (i := 196) rfl)) (hw _ (List.mem_of_getElem? (i := 198) rfl)) (hw _ (List.mem_of_getElem? (i := 49) rfl)) (hw _ (List.mem_of_getElem? (i := 199) rfl)) (by decide) (g := (mkF m 10 #[.val (.ref sr), .val (.ref br), .val .null, .val (.ref dr), .unset] [(.ref br)])) (a := br) (argsL := []) (rest := []) e2 EB (rm_sln l Z a0 hw br dr kd bs h0 EB fv fc fn Ad) rfl (by rw [hml]; rfl) (lenOf pd_3 rfl) rfl (W := 0) (by show 2 * 0 + _ ≤ _; exact Nat.le_of_eq rfl) (hb hby d_sia_10) (by decide) (by decide) (by decide) (by decide) ?_
  rintro _ T3 _ X3 ⟨rfl, e3, rfl⟩
  rw [List.append_nil] at X3
  show OGo p e below _ (T3.setTop (mkF m 13 #[.val (.ref sr), .val (.ref br), .val .null, .val (.ref dr), .unset] [(.int (NI bs.length))]))
  refine OGo.go (U' := T3.setTop (mkF m 15 #[.val (.ref sr), .val (.ref br), .val .null, .val (.ref dr), .val (.int (NI bs.length))] [])) (fun _ k => XS.istore X3.here hx rfl (hb hby d_sia_13) rfl (l' := #[.val (.ref sr), .val (.ref br), .val .null, .val (.ref dr), .val (.int (NI bs.length))]) rfl k) ?_
  refine OGo.go (U' := T3.setTop (mkF m 16 #[.val (.ref sr), .val (.ref br), .val .null, .val (.ref dr), .val (.int (NI bs.length))] [(.ref br)])) (fun _ k => XS.aloadN X3.here hx rfl (hb hby d_sia_15) rfl rfl k) ?_
  refine OGo.callV X3 hx hZ (y := (⟨"java/lang/AbstractStringBuilder", "isLatin1", "()Z"⟩ : MethodName)) (C := "java/lang/StringBuilder") hown (hw _ (List.mem_of_getElem? (i := 202) rfl)) (hw _ (List.mem_of_getElem? (i := 203) rfl)) (hw _ (List.mem_of_getElem? (i := 205) rfl)) (hw _ (List.mem_of_getElem? (i := 204) rfl)) (hw _ (List.mem_of_getElem? (i := 57) rfl)) (hw _ (List.mem_of_getElem? (i := 206) rfl)) (by decide) (g := (mkF m 16 #[.val (.ref sr), .val (.ref br), .val .null, .val (.ref dr), .val (.int (NI bs.length))] [(.ref br)])) (a := br) (argsL := []) (rest := []) e3 EB (rm_ail l Z a0 hw br dr kd bs cs h0 EB fv fc fn Ad S0 hcs) rfl (by rw [hml]; rfl) (lenOf pd_11 rfl) rfl (W := 0) (by show 2 * 0 + _ ≤ _; exact Nat.le_of_eq rfl) (hb hby d_sia_16) (by decide) (by decide) (by decide) (by decide) ?_
  rintro _ T4 _ X4 ⟨rfl, e4, rfl⟩
  rw [List.append_nil] at X4
  show OGo p e below _ (T4.setTop (mkF m 19 #[.val (.ref sr), .val (.ref br), .val .null, .val (.ref dr), .val (.int (NI bs.length))] [(.int (1 : Int32))]))
  refine OGo.go (U' := T4.setTop (mkF m 22 #[.val (.ref sr), .val (.ref br), .val .null, .val (.ref dr), .val (.int (NI bs.length))] [])) (fun _ k => XS.ifNo X4.here hx rfl (hb hby d_sia_19) rfl ((if0 _ _).trans (feq (by decide)).1) k) ?_
  refine OGo.go (U' := T4.setTop (mkF m 23 #[.val (.ref sr), .val (.ref br), .val .null, .val (.ref dr), .val (.int (NI bs.length))] [(.ref sr)])) (fun _ k => XS.aloadN X4.here hx rfl (hb hby d_sia_22) rfl rfl k) ?_
  refine OGo.go (U' := T4.setTop (mkF m 24 #[.val (.ref sr), .val (.ref br), .val .null, .val (.ref dr), .val (.int (NI bs.length))] [(.int (0 : Int32)), (.ref sr)])) (fun _ k => XS.iconst X4.here hx rfl (hb hby d_sia_23) k) ?_
  obtain ⟨T5, h5, X5, e5, W5, st5⟩ := putFN X4 hx hZ hown (hw _ (List.mem_of_getElem? (i := 25) rfl)) Via.refl e4 F_coder Es (Or.inr ⟨(hw _ (List.mem_of_getElem? (i := 21) rfl)), rfl, hnm⟩) (hw _ (List.mem_of_getElem? (i := 5) rfl)) (ty := .byte) (v' := (.int (nar .byte (0 : Int32)))) (by decide) rfl (fits_nar_byte _) (g := (mkF m 24 #[.val (.ref sr), .val (.ref br), .val .null, .val (.ref dr), .val (.int (NI bs.length))] [(.int (0 : Int32)), (.ref sr)])) rfl rfl (hb hby d_sia_24)
  have N6 := Fr.snoc X5 (Fr.nil n0) gs
  have f7 := EB.wr W5
  have f8 := fv.other W5 (Or.inl (Ne.symm hsb))
  have f9 := fc.other W5 (Or.inl (Ne.symm hsb))
  have f10 := fn.other W5 (Or.inl (Ne.symm hsb))
  have f11 := Ad.other W5 (Ne.symm hsd)
  have f12 := S0.wr W5
  have f13 := Es.wr W5
  have f14 := F_value.other W5 (Or.inr (slot_ne (Or.inr (hw _ (List.mem_of_getElem? (i := 20) rfl))) (Or.inr (hw _ (List.mem_of_getElem? (i := 21) rfl))) (by decide) (t := (.array .byte)) (t' := .byte) (by decide) (by decide)))
  have f15 := F_coder.same W5
  have K16 := (Keep.refl h0 [sr]).wr W5 (Or.inl (List.mem_of_getElem? (i := 0) rfl))
  refine OGo.go (U' := T5.setTop (mkF m 27 #[.val (.ref sr), .val (.ref br), .val .null, .val (.ref dr), .val (.int (NI bs.length))] [])) st5 ?_
  refine OGo.go (U' := T5.setTop (mkF m 28 #[.val (.ref sr), .val (.ref br), .val .null, .val (.ref dr), .val (.int (NI bs.length))] [(.ref sr)])) (fun _ k => XS.aloadN X5.here hx rfl (hb hby d_sia_27) rfl rfl k) ?_
  refine OGo.go (U' := T5.setTop (mkF m 29 #[.val (.ref sr), .val (.ref br), .val .null, .val (.ref dr), .val (.int (NI bs.length))] [(.ref dr), (.ref sr)])) (fun _ k => XS.aloadN X5.here hx rfl (hb hby d_sia_28) rfl rfl k) ?_
  refine OGo.go (U' := T5.setTop (mkF m 30 #[.val (.ref sr), .val (.ref br), .val .null, .val (.ref dr), .val (.int (NI bs.length))] [(.int (0 : Int32)), (.ref dr), (.ref sr)])) (fun _ k => XS.iconst X5.here hx rfl (hb hby d_sia_29) k) ?_
  refine OGo.go (U' := T5.setTop (mkF m 32 #[.val (.ref sr), .val (.ref br), .val .null, .val (.ref dr), .val (.int (NI bs.length))] [(.int (NI bs.length)), (.int (0 : Int32)), (.ref dr), (.ref sr)])) (fun _ k => XS.iload X5.here hx rfl (hb hby d_sia_30) rfl k) ?_
  refine OGo.callS X5 hx hZ (y := (⟨"java/util/Arrays", "copyOfRange", "([BII)[B"⟩ : MethodName)) hown (hw _ (List.mem_of_getElem? (i := 207) rfl)) (hw _ (List.mem_of_getElem? (i := 208) rfl)) (hw _ (List.mem_of_getElem? (i := 209) rfl)) (hw _ (List.mem_of_getElem? (i := 210) rfl)) (by decide) (g := (mkF m 32 #[.val (.ref sr), .val (.ref br), .val .null, .val (.ref dr), .val (.int (NI bs.length))] [(.int (NI bs.length)), (.int (0 : Int32)), (.ref dr), (.ref sr)])) (argsL := [(.ref dr), (.int (0 : Int32)), (.int (NI bs.length))]) (rest := [(.ref sr)]) e5 (rm_cor l Z a0 hw dr bs kd n0 h5 (Nat.le_trans Z0 (Keep.of_wr W5).1) f11 hlt) rfl (by rw [hml]; rfl) (lenOf pd_9 rfl) rfl (W := 1) (by show 2 * 0 + _ ≤ _; exact Nat.le_of_eq rfl) (hb hby d_sia_32) (by decide) (by decide) (by decide) (by decide) ?_
  rintro _ T17 L17 X17 ⟨b17, k17, rfl, N17, K17, A17, gb17⟩
  have e17 : T17.heap = T17.heap := rfl
  have N18 := Fr.app N6 N17
  have ne19 : br ≠ b17 := Nat.ne_of_lt (Nat.lt_of_lt_of_le f7.lt gb17)
  have ne20 : dr ≠ b17 := Nat.ne_of_lt (Nat.lt_of_lt_of_le f11.lt gb17)
  have ne21 : sr ≠ b17 := Nat.ne_of_lt (Nat.lt_of_lt_of_le f13.lt gb17)
  have g22 : n0 ≤ b17 := Nat.le_trans (Nat.le_trans Z0 (Keep.of_wr W5).1) gb17
  have sz23 := Nat.le_trans K16.1 gb17
  have f24 := f7.keep K17
  have f25 := f8.keep K17 nin0
  have f26 := f9.keep K17 nin0
  have f27 := f10.keep K17 nin0
  have f28 := f11.keep K17 nin0
  have f29 := own_sta_keep f12 K17 all0
  have f30 := f13.keep K17
  have f31 := f14.keep K17 nin0
  have f32 := f15.keep K17 nin0
  have K33 := K16.trans K17 all0
  show OGo p e below _ (T17.setTop (mkF m 35 #[.val (.ref sr), .val (.ref br), .val .null, .val (.ref dr), .val (.int (NI bs.length))] [(.ref b17), (.ref sr)]))
  obtain ⟨T34, h34, X34, e34, W34, st34⟩ := putF X17 hx hZ hown (host := "") (Or.inl (hw _ (List.mem_of_getElem? (i := 24) rfl))) Via.refl e17 f31 f30 (Or.inr ⟨(hw _ (List.mem_of_getElem? (i := 20) rfl)), rfl, hnm⟩) (hw _ (List.mem_of_getElem? (i := 5) rfl)) (ty := (.array .byte)) (by decide) rfl rfl (g := (mkF m 35 #[.val (.ref sr), .val (.ref br), .val .null, .val (.ref dr), .val (.int (NI bs.length))] [(.ref b17), (.ref sr)])) rfl rfl (hb hby d_sia_35)
  have N35 := Fr.snoc X34 N18 gs
  have f36 := f24.wr W34
  have f37 := f25.other W34 (Or.inl (Ne.symm hsb))
  have f38 := f26.other W34 (Or.inl (Ne.symm hsb))
  have f39 := f27.other W34 (Or.inl (Ne.symm hsb))
  have f40 := f28.other W34 (Ne.symm hsd)
  have f41 := f29.wr W34
  have f42 := f30.wr W34
  have f43 := f31.same W34
  have f44 := f32.other W34 (Or.inr (slot_ne (Or.inr (hw _ (List.mem_of_getElem? (i := 21) rfl))) (Or.inr (hw _ (List.mem_of_getElem? (i := 20) rfl))) (by decide) (t := .byte) (t' := (.array .byte)) (by decide) (by decide)))
  have f45 := A17.other W34 (Ne.symm ne21)
  have K46 := K33.wr W34 (Or.inl (List.mem_of_getElem? (i := 0) rfl))
  refine OGo.go (U' := T34.setTop (mkF m 38 #[.val (.ref sr), .val (.ref br), .val .null, .val (.ref dr), .val (.int (NI bs.length))] [])) st34 ?_
  refine OGo.go (U' := T34.setTop (mkF m 97 #[.val (.ref sr), .val (.ref br), .val .null, .val (.ref dr), .val (.int (NI bs.length))] [])) (fun _ k => XS.goto X34.here hx rfl (pc0 := 38) (pc' := 97) rfl (hb hby d_sia_38) (by decide) (by decide) k) ?_
  refine OGo.ret0 X34 hx hret hlk (hb hby d_sia_97) ?_ (by decide) (by decide)
  rw [e34]
  exact ⟨rfl, N35, K46, f42, (show nar .byte (0 : Int32) = 0 from by decide) ▸ f44, b17, k17, f43, f45, sz23⟩
theorem d_sis_0 : decode jdk_42_method_53_code 0 = .ok (.aload_n 0, 1) := by decide +kernel
theorem d_sis_1 : decode jdk_42_method_53_code 1 = .ok (.aload_n 1, 1) := by decide +kernel
theorem d_sis_2 : decode jdk_42_method_53_code 2 = .ok (.aconst_null, 1) := by decide +kernel
theorem d_sis_3 : decode jdk_42_method_53_code 3 = .ok (.invokespecial 489, 3) := by decide +kernel
theorem d_sis_6 : decode jdk_42_method_53_code 6 = .ok (.return_, 1) := by decide +kernel
theorem ef_sis (m : MethodId) (sr : Addr) (br : Addr) : entryFrame m #[(.ref sr), (.ref br)] 2 = mkF m 0 #[.val (.ref sr), .val (.ref br)] [] := by first | (simp [entryFrame, mkF, argsToLocals, Value.category]; done) | rfl
theorem pn_sis : plainFor (⟨"java/lang/String", "<init>", "(Ljava/lang/StringBuilder;)V"⟩ : MethodName) = true := by first | exact plainFor_of_name (by first | (simp [plainName, overriddenIn]; done) | decide +kernel) | decide +kernel
set_option maxRecDepth 65536 in
set_option maxHeartbeats 40000000 in
theorem rm_sis (l : Launch) (Z : State) (a0 : Array Value) (hw : ∀ d ∈ tables_1, d.before a0 Z = true) (sr : Addr) (br : Addr) (dr : Addr) (kd : ClassId) (bs : List Value) (u_value u_coder : Value) (cs : Int32) (n0 : Nat) (h0 : Heap) (Z0 : n0 ≤ h0.size) (Es : Exa Z h0 sr "java/lang/String") (F_value : Fld Z h0 sr "java/lang/String" "value" "[B" u_value) (F_coder : Fld Z h0 sr "java/lang/String" "coder" "B" u_coder) (gs : n0 ≤ sr) (hsb : sr ≠ br) (hsd : sr ≠ dr) (hlt : bs.length < 256) (EB : Exa Z h0 br "java/lang/StringBuilder") (fv : Fld Z h0 br "java/lang/AbstractStringBuilder" "value" "[B" (.ref dr)) (fc : Fld Z h0 br "java/lang/AbstractStringBuilder" "coder" "B" (.int 0)) (fn : Fld Z h0 br "java/lang/AbstractStringBuilder" "count" "I" (.int (NI bs.length))) (Ad : Arv Z h0 dr kd .byte 256 bs (.int 0)) (S0 : Sta Z h0 "java/lang/String" "COMPACT_STRINGS" "Z" (.int cs)) (hcs : ¬ cs = 0) :
    OMet l Z (⟨"java/lang/String", "<init>", "(Ljava/lang/StringBuilder;)V"⟩ : MethodName) jdk_42_method_53_code 2 none [] ({ frames := 4, cells := 1, slots := 256, locals := 85 } : Room) #[(.ref sr), (.ref br)] h0 (fun v h L => v = none ∧ Fr n0 L ∧ Keep h0 h [sr] ∧ Exa Z h sr "java/lang/String" ∧ Fld Z h sr "java/lang/String" "coder" "B" (.int 0) ∧ ∃ (b : Addr) (k : ClassId), Fld Z h sr "java/lang/String" "value" "[B" (.ref b) ∧ Arv Z h b k .byte (NI bs.length) bs (.int 0) ∧ h0.size ≤ b) := by
  refine OMet.of pn_sis ?_
  intro p e s m below meth c T0 X0 hx hby hml hown0 hnm hret hlk hZ e0
  have hown : s.vm.findClass "java/lang/String" = some m.cls := hown0
  refine OGo.go (fun t k => castTop (ef_sis m sr br) k) ?_
  refine OGo.go (U' := T0.setTop (mkF m 1 #[.val (.ref sr), .val (.ref br)] [(.ref sr)])) (fun _ k => XS.aloadN X0.here hx rfl (hb hby d_sis_0) rfl rfl k) ?_
  refine OGo.go (U' := T0.setTop (mkF m 2 #[.val (.ref sr), .val (.ref br)] [(.ref br), (.ref sr)])) (fun _ k => XS.aloadN X0.here hx rfl (hb hby d_sis_1) rfl rfl k) ?_
  refine OGo.go (U' := T0.setTop (mkF m 3 #[.val (.ref sr), .val (.ref br)] [.null, (.ref br), (.ref sr)])) (fun _ k => XS.aconstNull X0.here hx rfl (hb hby d_sis_2) k) ?_
  refine OGo.callI X0 hx hZ (y := (⟨"java/lang/String", "<init>", "(Ljava/lang/AbstractStringBuilder;Ljava/lang/Void;)V"⟩ : MethodName)) rfl hown (hw _ (List.mem_of_getElem? (i := 186) rfl)) (hw _ (List.mem_of_getElem? (i := 187) rfl)) (hw _ (List.mem_of_getElem? (i := 6) rfl)) (hw _ (List.mem_of_getElem? (i := 188) rfl)) (by decide) (g := (mkF m 3 #[.val (.ref sr), .val (.ref br)] [.null, (.ref br), (.ref sr)])) (a := sr) (argsL := [(.ref br), .null]) (rest := []) e0 (rm_sia l Z a0 hw sr br dr kd bs u_value u_coder cs n0 h0 Z0 Es F_value F_coder gs hsb hsd hlt EB fv fc fn Ad S0 hcs) rfl (by rw [hml]; rfl) (lenOf pd_12 rfl) rfl (W := 0) (by show 2 * 0 + _ ≤ _; exact Nat.le_of_eq rfl) (hb hby d_sis_3) (by decide) (by decide) (by decide) (by decide) ?_
  rintro _ T1 L1 X1 ⟨rfl, N1, K1, Es1, sc1, b1, k1, sv1, A1, gb1⟩
  have e1 : T1.heap = T1.heap := rfl
  have N2 := Fr.app (Fr.nil n0) N1
  have f3 := EB.keep K1
  have f4 := fv.keep K1 (ninS (Ne.symm hsb) nin0)
  have f5 := fc.keep K1 (ninS (Ne.symm hsb) nin0)
  have f6 := fn.keep K1 (ninS (Ne.symm hsb) nin0)
  have f7 := Ad.keep K1 (ninS (Ne.symm hsd) nin0)
  have f8 := own_sta_keep S0 K1 (allS (P := fun x => ∀ cell : Cell, _ → cell.vm.isStatics = false) (own_plain Es) all0)
  have f9 := Es.keep K1
  have K10 := (Keep.refl h0 [sr]).trans K1 (allS (P := fun x => x ∈ _ ∨ _ ≤ x) (Or.inl (List.mem_of_getElem? (i := 0) rfl)) all0)
  have sz1 := Nat.le_trans (Keep.refl h0 [sr]).1 gb1
  have gg1 : n0 ≤ b1 := Nat.le_trans Z0 gb1
  show OGo p e below _ (T1.setTop (mkF m 6 #[.val (.ref sr), .val (.ref br)] []))
  refine OGo.ret0 X1 hx hret hlk (hb hby d_sis_6) ?_ (by decide) (by decide)
  rw [e1]
  exact ⟨rfl, N2, K10, Es1, sc1, b1, k1, sv1, A1, sz1⟩
theorem d_tos_0 : decode jdk_67_method_42_code 0 = .ok (.new 18, 3) := by decide +kernel
theorem d_tos_3 : decode jdk_67_method_42_code 3 = .ok (.dup, 1) := by decide +kernel
theorem d_tos_4 : decode jdk_67_method_42_code 4 = .ok (.aload_n 0, 1) := by decide +kernel
theorem d_tos_5 : decode jdk_67_method_42_code 5 = .ok (.invokespecial 137, 3) := by decide +kernel
theorem d_tos_8 : decode jdk_67_method_42_code 8 = .ok (.areturn, 1) := by decide +kernel
theorem ef_tos (m : MethodId) (br : Addr) : entryFrame m #[(.ref br)] 1 = mkF m 0 #[.val (.ref br)] [] := by first | (simp [entryFrame, mkF, argsToLocals, Value.category]; done) | rfl
theorem pn_tos : plainFor (⟨"java/lang/StringBuilder", "toString", "()Ljava/lang/String;"⟩ : MethodName) = true := by first | exact plainFor_of_name (by first | (simp [plainName, overriddenIn]; done) | decide +kernel) | decide +kernel
set_option maxRecDepth 65536 in
set_option maxHeartbeats 40000000 in
theorem rm_tos (l : Launch) (Z : State) (a0 : Array Value) (hw : ∀ d ∈ tables_1, d.before a0 Z = true) (br : Addr) (dr : Addr) (kd : ClassId) (bs : List Value) (cs : Int32) (n0 : Nat) (h0 : Heap) (Z0 : n0 ≤ h0.size) (hlt : bs.length < 256) (EB : Exa Z h0 br "java/lang/StringBuilder") (fv : Fld Z h0 br "java/lang/AbstractStringBuilder" "value" "[B" (.ref dr)) (fc : Fld Z h0 br "java/lang/AbstractStringBuilder" "coder" "B" (.int 0)) (fn : Fld Z h0 br "java/lang/AbstractStringBuilder" "count" "I" (.int (NI bs.length))) (Ad : Arv Z h0 dr kd .byte 256 bs (.int 0)) (S0 : Sta Z h0 "java/lang/String" "COMPACT_STRINGS" "Z" (.int cs)) (hcs : ¬ cs = 0) :
    OMet l Z (⟨"java/lang/StringBuilder", "toString", "()Ljava/lang/String;"⟩ : MethodName) jdk_67_method_42_code 1 (some (.object "java/lang/String")) [] ({ frames := 5, cells := 2, slots := 260, locals := 105 } : Room) #[(.ref br)] h0 (fun v h L => ∃ (a b : Addr) (k : ClassId), v = some (.ref a) ∧ Fr n0 L ∧ Keep h0 h [] ∧ Exa Z h a "java/lang/String" ∧ Fld Z h a "java/lang/String" "coder" "B" (.int 0) ∧ Fld Z h a "java/lang/String" "value" "[B" (.ref b) ∧ Arv Z h b k .byte (NI bs.length) bs (.int 0) ∧ h0.size ≤ a ∧ h0.size ≤ b) := by
  refine OMet.of pn_tos ?_
  intro p e s m below meth c T0 X0 hx hby hml hown0 hnm hret hlk hZ e0
  have hown : s.vm.findClass "java/lang/StringBuilder" = some m.cls := hown0
  refine OGo.go (fun t k => castTop (ef_tos m br) k) ?_
  obtain ⟨T1, h1, X1, e1, E1, A1, D1, -, st1⟩ := newO X0 hx hZ hown (hw _ (List.mem_of_getElem? (i := 182) rfl)) (hw _ (List.mem_of_getElem? (i := 5) rfl)) (hw _ (List.mem_of_getElem? (i := 6) rfl)) e0 (g := (mkF m 0 #[.val (.ref br)] [])) rfl (hb hby d_tos_0) (by decide) (by decide)
  obtain ⟨b1, gb1⟩ : ∃ z, z = h0.size := ⟨_, rfl⟩
  rw [← gb1] at A1 D1 st1
  have ne2 : br ≠ b1 := Nat.ne_of_lt (Nat.lt_of_lt_of_le EB.lt (Nat.le_of_eq gb1.symm))
  have ne3 : dr ≠ b1 := Nat.ne_of_lt (Nat.lt_of_lt_of_le Ad.lt (Nat.le_of_eq gb1.symm))
  have g4 : n0 ≤ b1 := Nat.le_trans Z0 (Nat.le_of_eq gb1.symm)
  have sz5 := Nat.le_trans (Keep.refl h0 []).1 (Nat.le_of_eq gb1.symm)
  have f6 := EB.ext E1
  have f7 := fv.ext E1
  have f8 := fc.ext E1
  have f9 := fn.ext E1
  have f10 := Ad.ext E1
  have f11 := S0.ext E1
  have K12 := (Keep.refl h0 []).ext E1
  have f13 : Fld Z h1 b1 "java/lang/String" "value" "[B" .null := D1 (Or.inr (hw _ (List.mem_of_getElem? (i := 20) rfl))) (ty := (.array .byte)) (by decide)
  have f14 : Fld Z h1 b1 "java/lang/String" "coder" "B" (.int (0 : Int32)) := D1 (Or.inr (hw _ (List.mem_of_getElem? (i := 21) rfl))) (ty := .byte) (by decide)
  refine OGo.go (U' := T1.setTop (mkF m 3 #[.val (.ref br)] [(.ref b1)])) st1 ?_
  refine OGo.go (U' := T1.setTop (mkF m 4 #[.val (.ref br)] [(.ref b1), (.ref b1)])) (fun _ k => XS.dup X1.here hx rfl (hb hby d_tos_3) rfl rfl k) ?_
  refine OGo.go (U' := T1.setTop (mkF m 5 #[.val (.ref br)] [(.ref br), (.ref b1), (.ref b1)])) (fun _ k => XS.aloadN X1.here hx rfl (hb hby d_tos_4) rfl rfl k) ?_
  refine OGo.callI X1 hx hZ (y := (⟨"java/lang/String", "<init>", "(Ljava/lang/StringBuilder;)V"⟩ : MethodName)) rfl hown (hw _ (List.mem_of_getElem? (i := 183) rfl)) (hw _ (List.mem_of_getElem? (i := 184) rfl)) (hw _ (List.mem_of_getElem? (i := 6) rfl)) (hw _ (List.mem_of_getElem? (i := 185) rfl)) (by decide) (g := (mkF m 5 #[.val (.ref br)] [(.ref br), (.ref b1), (.ref b1)])) (a := b1) (argsL := [(.ref br)]) (rest := [(.ref b1)]) e1 (rm_sis l Z a0 hw b1 br dr kd bs .null (.int (0 : Int32)) cs n0 h1 (Nat.le_trans Z0 E1.1) A1 f13 f14 g4 (Ne.symm ne2) (Ne.symm ne3) hlt f6 f7 f8 f9 f10 f11 hcs) rfl (by rw [hml]; rfl) (lenOf pd_13 rfl) rfl (W := 1) (by show 2 * 0 + _ ≤ _; exact Nat.le_of_eq rfl) (hb hby d_tos_5) (by decide) (by decide) (by decide) (by decide) ?_
  rintro _ T15 L15 X15 ⟨rfl, N15, K15, Es15, sc15, b15, k15, sv15, A15, gb15⟩
  have e15 : T15.heap = T15.heap := rfl
  have N16 := Fr.app (Fr.nil n0) N15
  have f17 := f6.keep K15
  have f18 := f7.keep K15 (ninS ne2 nin0)
  have f19 := f8.keep K15 (ninS ne2 nin0)
  have f20 := f9.keep K15 (ninS ne2 nin0)
  have f21 := f10.keep K15 (ninS ne3 nin0)
  have f22 := own_sta_keep f11 K15 (allS (P := fun x => ∀ cell : Cell, _ → cell.vm.isStatics = false) (own_plain A1) all0)
  have f23 := A1.keep K15
  have K24 := K12.trans K15 (allS (P := fun x => x ∈ _ ∨ _ ≤ x) (Or.inr sz5) all0)
  have sz15 := Nat.le_trans K12.1 gb15
  have gg15 : n0 ≤ b15 := Nat.le_trans (Nat.le_trans Z0 E1.1) gb15
  show OGo p e below _ (T15.setTop (mkF m 8 #[.val (.ref br)] [(.ref b1)]))
  refine OGo.retA X15 hx hret hlk rfl rfl (hb hby d_tos_8) ?_ (by decide) (by decide)
  rw [e15]
  exact ⟨b1, b15, k15, rfl, N16, K24, Es15, sc15, sv15, A15, sz5, sz15⟩
theorem d_txt_0 : decode prog_33_method_2_code 0 = .ok (.aload_n 0, 1) := by decide +kernel
theorem d_txt_1 : decode prog_33_method_2_code 1 = .ok (.getfield 12, 3) := by decide +kernel
theorem d_txt_4 : decode prog_33_method_2_code 4 = .ok (.invokevirtual 42, 3) := by decide +kernel
theorem d_txt_7 : decode prog_33_method_2_code 7 = .ok (.areturn, 1) := by decide +kernel
theorem ef_txt (m : MethodId) (xr : Addr) : entryFrame m #[(.ref xr)] 1 = mkF m 0 #[.val (.ref xr)] [] := by first | (simp [entryFrame, mkF, argsToLocals, Value.category]; done) | rfl
theorem pn_txt : plainFor (⟨"com/example/loomwire/loomwire/soap/XmlWriter", "text", "()Ljava/lang/String;"⟩ : MethodName) = true := by first | exact plainFor_of_name (by first | (simp [plainName, overriddenIn]; done) | decide +kernel) | decide +kernel
set_option maxRecDepth 65536 in
set_option maxHeartbeats 40000000 in
theorem rm_txt (l : Launch) (Z : State) (a0 : Array Value) (hw : ∀ d ∈ tables_1, d.before a0 Z = true) (xr : Addr) (br : Addr) (dr : Addr) (kd : ClassId) (bs : List Value) (cs : Int32) (n0 : Nat) (h0 : Heap) (Z0 : n0 ≤ h0.size) (hlt : bs.length < 256) (Ex : Exa Z h0 xr "com/example/loomwire/loomwire/soap/XmlWriter") (fo : Fld Z h0 xr "com/example/loomwire/loomwire/soap/XmlWriter" "out" "Ljava/lang/StringBuilder;" (.ref br)) (EB : Exa Z h0 br "java/lang/StringBuilder") (fv : Fld Z h0 br "java/lang/AbstractStringBuilder" "value" "[B" (.ref dr)) (fc : Fld Z h0 br "java/lang/AbstractStringBuilder" "coder" "B" (.int 0)) (fn : Fld Z h0 br "java/lang/AbstractStringBuilder" "count" "I" (.int (NI bs.length))) (Ad : Arv Z h0 dr kd .byte 256 bs (.int 0)) (S0 : Sta Z h0 "java/lang/String" "COMPACT_STRINGS" "Z" (.int cs)) (hcs : ¬ cs = 0) :
    OMet l Z (⟨"com/example/loomwire/loomwire/soap/XmlWriter", "text", "()Ljava/lang/String;"⟩ : MethodName) prog_33_method_2_code 1 (some (.object "java/lang/String")) [] ({ frames := 6, cells := 2, slots := 260, locals := 120 } : Room) #[(.ref xr)] h0 (fun v h L => ∃ (a b : Addr) (k : ClassId), v = some (.ref a) ∧ Fr n0 L ∧ Keep h0 h [] ∧ Exa Z h a "java/lang/String" ∧ Fld Z h a "java/lang/String" "coder" "B" (.int 0) ∧ Fld Z h a "java/lang/String" "value" "[B" (.ref b) ∧ Arv Z h b k .byte (NI bs.length) bs (.int 0) ∧ h0.size ≤ a ∧ h0.size ≤ b) := by
  refine OMet.of pn_txt ?_
  intro p e s m below meth c T0 X0 hx hby hml hown0 hnm hret hlk hZ e0
  have hown : s.vm.findClass "com/example/loomwire/loomwire/soap/XmlWriter" = some m.cls := hown0
  refine OGo.go (fun t k => castTop (ef_txt m xr) k) ?_
  refine OGo.go (U' := T0.setTop (mkF m 1 #[.val (.ref xr)] [(.ref xr)])) (fun _ k => XS.aloadN X0.here hx rfl (hb hby d_txt_0) rfl rfl k) ?_
  obtain ⟨T1, X1, e1, st1⟩ := getF X0 hx hZ hown (host := "") (Or.inl (hw _ (List.mem_of_getElem? (i := 65) rfl))) Via.refl e0 fo (g := (mkF m 1 #[.val (.ref xr)] [(.ref xr)])) rfl rfl (hb hby d_txt_1)
  refine OGo.go (U' := T1.setTop (mkF m 4 #[.val (.ref xr)] [(.ref br)])) st1 ?_
  refine OGo.callV X1 hx hZ (y := (⟨"java/lang/StringBuilder", "toString", "()Ljava/lang/String;"⟩ : MethodName)) (C := "java/lang/StringBuilder") hown (hw _ (List.mem_of_getElem? (i := 177) rfl)) (hw _ (List.mem_of_getElem? (i := 178) rfl)) (hw _ (List.mem_of_getElem? (i := 180) rfl)) (hw _ (List.mem_of_getElem? (i := 179) rfl)) (hw _ (List.mem_of_getElem? (i := 49) rfl)) (hw _ (List.mem_of_getElem? (i := 181) rfl)) (by decide) (g := (mkF m 4 #[.val (.ref xr)] [(.ref br)])) (a := br) (argsL := []) (rest := []) e1 EB (rm_tos l Z a0 hw br dr kd bs cs n0 h0 Z0 hlt EB fv fc fn Ad S0 hcs) rfl (by rw [hml]; rfl) (lenOf pd_14 rfl) rfl (W := 0) (by show 2 * 0 + _ ≤ _; exact Nat.le_of_eq rfl) (hb hby d_txt_4) (by decide) (by decide) (by decide) (by decide) ?_
  rintro _ T2 L2 X2 ⟨a2, b2, k2, rfl, N2, K2, Es2, sc2, sv2, A2, ga2, gb2⟩
  have e2 : T2.heap = T2.heap := rfl
  have N3 := Fr.app (Fr.nil n0) N2
  have ne4 : br ≠ a2 := Nat.ne_of_lt (Nat.lt_of_lt_of_le EB.lt ga2)
  have ne5 : dr ≠ a2 := Nat.ne_of_lt (Nat.lt_of_lt_of_le Ad.lt ga2)
  have ne6 : xr ≠ a2 := Nat.ne_of_lt (Nat.lt_of_lt_of_le Ex.lt ga2)
  have g7 : n0 ≤ a2 := Nat.le_trans Z0 ga2
  have sz8 := Nat.le_trans (Keep.refl h0 []).1 ga2
  have f9 := EB.keep K2
  have f10 := fv.keep K2 nin0
  have f11 := fc.keep K2 nin0
  have f12 := fn.keep K2 nin0
  have f13 := Ad.keep K2 nin0
  have f14 := own_sta_keep S0 K2 all0
  have f15 := Ex.keep K2
  have f16 := fo.keep K2 nin0
  have K17 := (Keep.refl h0 []).trans K2 all0
  have ne18 : br ≠ b2 := Nat.ne_of_lt (Nat.lt_of_lt_of_le EB.lt gb2)
  have ne19 : dr ≠ b2 := Nat.ne_of_lt (Nat.lt_of_lt_of_le Ad.lt gb2)
  have ne20 : xr ≠ b2 := Nat.ne_of_lt (Nat.lt_of_lt_of_le Ex.lt gb2)
  have sz2 := Nat.le_trans (Keep.refl h0 []).1 gb2
  show OGo p e below _ (T2.setTop (mkF m 7 #[.val (.ref xr)] [(.ref a2)]))
  refine OGo.retA X2 hx hret hlk rfl rfl (hb hby d_txt_7) ?_ (by decide) (by decide)
  rw [e2]
  exact ⟨a2, b2, k2, rfl, N3, K17, Es2, sc2, sv2, A2, sz8, sz2⟩
theorem d_pci_0 : decode jdk_41_method_11_code 0 = .ok (.iload_n 0, 1) := by decide +kernel
theorem d_pci_1 : decode jdk_41_method_11_code 1 = .ok (.ifCond .lt 8, 3) := by decide +kernel
theorem d_pci_4 : decode jdk_41_method_11_code 4 = .ok (.iload_n 0, 1) := by decide +kernel
theorem d_pci_5 : decode jdk_41_method_11_code 5 = .ok (.iload_n 1, 1) := by decide +kernel
theorem d_pci_6 : decode jdk_41_method_11_code 6 = .ok (.if_icmp .lt 10, 3) := by decide +kernel
theorem d_pci_16 : decode jdk_41_method_11_code 16 = .ok (.iload_n 0, 1) := by decide +kernel
theorem d_pci_17 : decode jdk_41_method_11_code 17 = .ok (.ireturn, 1) := by decide +kernel
theorem ef_pci (m : MethodId) (ix : Int32) (us : List Value) (fm : Value) (hfm : fm.isRef = true) : entryFrame m #[(.int ix), (.int (NI us.length)), fm] 3 = mkF m 0 #[.val (.int ix), .val (.int (NI us.length)), .val fm] [] := by cases fm <;> first | (simp [Value.isRef] at hfm; done) | (simp [entryFrame, mkF, argsToLocals, Value.category]; done)
theorem pn_pci : plainFor (⟨"jdk/internal/util/Preconditions", "checkIndex", "(IILjava/util/function/BiFunction;)I"⟩ : MethodName) = true := by first | exact plainFor_of_name (by first | (simp [plainName, overriddenIn]; done) | decide +kernel) | decide +kernel
set_option maxRecDepth 65536 in
set_option maxHeartbeats 40000000 in
theorem rm_pci (l : Launch) (Z : State) (a0 : Array Value) (hw : ∀ d ∈ tables_1, d.before a0 Z = true) (ix : Int32) (us : List Value) (fm : Value)  (h0 : Heap) (hfm : fm.isRef = true) (hi0 : ¬ ix < 0) (hi1 : ix < (NI us.length)) :
    OMet l Z (⟨"jdk/internal/util/Preconditions", "checkIndex", "(IILjava/util/function/BiFunction;)I"⟩ : MethodName) jdk_41_method_11_code 3 (some .int) [] ({ frames := 0, cells := 0, slots := 0, locals := 0 } : Room) #[(.int ix), (.int (NI us.length)), fm] h0 (OPure (some (.int ix)) h0) := by
  refine OMet.of pn_pci ?_
  intro p e s m below meth c T0 X0 hx hby hml hown0 hnm hret hlk hZ e0
  have hown : s.vm.findClass "jdk/internal/util/Preconditions" = some m.cls := hown0
  refine OGo.go (fun t k => castTop (ef_pci m ix us fm hfm) k) ?_
  refine OGo.go (U' := T0.setTop (mkF m 1 #[.val (.int ix), .val (.int (NI us.length)), .val fm] [(.int ix)])) (fun _ k => XS.iloadN X0.here hx rfl (hb hby d_pci_0) rfl k) ?_
  refine OGo.go (U' := T0.setTop (mkF m 4 #[.val (.int ix), .val (.int (NI us.length)), .val fm] [])) (fun _ k => XS.ifNo X0.here hx rfl (hb hby d_pci_1) rfl ((if0 _ _).trans (flt hi0).1) k) ?_
  refine OGo.go (U' := T0.setTop (mkF m 5 #[.val (.int ix), .val (.int (NI us.length)), .val fm] [(.int ix)])) (fun _ k => XS.iloadN X0.here hx rfl (hb hby d_pci_4) rfl k) ?_
  refine OGo.go (U' := T0.setTop (mkF m 6 #[.val (.int ix), .val (.int (NI us.length)), .val fm] [(.int (NI us.length)), (.int ix)])) (fun _ k => XS.iloadN X0.here hx rfl (hb hby d_pci_5) rfl k) ?_
  refine OGo.go (U' := T0.setTop (mkF m 16 #[.val (.int ix), .val (.int (NI us.length)), .val fm] [])) (fun _ k => XS.icmpYes X0.here hx rfl (pc0 := 6) (pc' := 16) rfl (hb hby d_pci_6) rfl (tlt hi1).1 (by decide) (by decide) k) ?_
  refine OGo.go (U' := T0.setTop (mkF m 17 #[.val (.int ix), .val (.int (NI us.length)), .val fm] [(.int ix)])) (fun _ k => XS.iloadN X0.here hx rfl (hb hby d_pci_16) rfl k) ?_
  refine OGo.retI X0 hx hret hlk (hb hby d_pci_17) ?_ (by decide) (by decide)
  exact ⟨congrArg (fun z => some (Value.int z)) (rfl), e0, rfl⟩
theorem d_cki_0 : decode jdk_42_method_155_code 0 = .ok (.iload_n 0, 1) := by decide +kernel
theorem d_cki_1 : decode jdk_42_method_155_code 1 = .ok (.iload_n 1, 1) := by decide +kernel
theorem d_cki_2 : decode jdk_42_method_155_code 2 = .ok (.getstatic 1053, 3) := by decide +kernel
theorem d_cki_5 : decode jdk_42_method_155_code 5 = .ok (.invokestatic 1059, 3) := by decide +kernel
theorem d_cki_8 : decode jdk_42_method_155_code 8 = .ok (.pop, 1) := by decide +kernel
theorem d_cki_9 : decode jdk_42_method_155_code 9 = .ok (.return_, 1) := by decide +kernel
theorem ef_cki (m : MethodId) (ix : Int32) (us : List Value) : entryFrame m #[(.int ix), (.int (NI us.length))] 2 = mkF m 0 #[.val (.int ix), .val (.int (NI us.length))] [] := by first | (simp [entryFrame, mkF, argsToLocals, Value.category]; done) | rfl
theorem pn_cki : plainFor (⟨"java/lang/String", "checkIndex", "(II)V"⟩ : MethodName) = true := by first | exact plainFor_of_name (by first | (simp [plainName, overriddenIn]; done) | decide +kernel) | decide +kernel
set_option maxRecDepth 65536 in
set_option maxHeartbeats 40000000 in
theorem rm_cki (l : Launch) (Z : State) (a0 : Array Value) (hw : ∀ d ∈ tables_1, d.before a0 Z = true) (ix : Int32) (us : List Value) (fm : Value) (h0 : Heap) (SF : Sta Z h0 "jdk/internal/util/Preconditions" "SIOOBE_FORMATTER" "Ljava/util/function/BiFunction;" fm) (hfm : fm.isRef = true) (hi0 : ¬ ix < 0) (hi1 : ix < (NI us.length)) :
    OMet l Z (⟨"java/lang/String", "checkIndex", "(II)V"⟩ : MethodName) jdk_42_method_155_code 2 none [] ({ frames := 1, cells := 0, slots := 0, locals := 14 } : Room) #[(.int ix), (.int (NI us.length))] h0 (OPure none h0) := by
  refine OMet.of pn_cki ?_
  intro p e s m below meth c T0 X0 hx hby hml hown0 hnm hret hlk hZ e0
  have hown : s.vm.findClass "java/lang/String" = some m.cls := hown0
  refine OGo.go (fun t k => castTop (ef_cki m ix us) k) ?_
  refine OGo.go (U' := T0.setTop (mkF m 1 #[.val (.int ix), .val (.int (NI us.length))] [(.int ix)])) (fun _ k => XS.iloadN X0.here hx rfl (hb hby d_cki_0) rfl k) ?_
  refine OGo.go (U' := T0.setTop (mkF m 2 #[.val (.int ix), .val (.int (NI us.length))] [(.int (NI us.length)), (.int ix)])) (fun _ k => XS.iloadN X0.here hx rfl (hb hby d_cki_1) rfl k) ?_
  obtain ⟨T1, X1, e1, st1⟩ := getS2 X0 hx hZ hown (host := "") (Or.inl (hw _ (List.mem_of_getElem? (i := 249) rfl))) Via.refl e0 SF (g := (mkF m 2 #[.val (.int ix), .val (.int (NI us.length))] [(.int (NI us.length)), (.int ix)])) rfl (hb hby d_cki_2)
  refine OGo.go (U' := T1.setTop (mkF m 5 #[.val (.int ix), .val (.int (NI us.length))] [fm, (.int (NI us.length)), (.int ix)])) st1 ?_
  refine OGo.callS X1 hx hZ (y := (⟨"jdk/internal/util/Preconditions", "checkIndex", "(IILjava/util/function/BiFunction;)I"⟩ : MethodName)) hown (hw _ (List.mem_of_getElem? (i := 251) rfl)) (hw _ (List.mem_of_getElem? (i := 252) rfl)) (hw _ (List.mem_of_getElem? (i := 250) rfl)) (hw _ (List.mem_of_getElem? (i := 253) rfl)) (by decide) (g := (mkF m 5 #[.val (.int ix), .val (.int (NI us.length))] [fm, (.int (NI us.length)), (.int ix)])) (argsL := [(.int ix), (.int (NI us.length)), fm]) (rest := []) e1 (rm_pci l Z a0 hw ix us fm h0 hfm hi0 hi1) rfl (by rw [hml]; rfl) (lenOf pd_15 rfl) rfl (W := 0) (by show 2 * 0 + _ ≤ _; exact Nat.le_of_eq rfl) (hb hby d_cki_5) (by decide) (by decide) (by decide) (by decide) ?_
  rintro _ T2 _ X2 ⟨rfl, e2, rfl⟩
  rw [List.append_nil] at X2
  show OGo p e below _ (T2.setTop (mkF m 8 #[.val (.int ix), .val (.int (NI us.length))] [(.int ix)]))
  refine OGo.go (U' := T2.setTop (mkF m 9 #[.val (.int ix), .val (.int (NI us.length))] [])) (fun _ k => XS.pop X2.here hx rfl (hb hby d_cki_8) rfl rfl k) ?_
  refine OGo.ret0 X2 hx hret hlk (hb hby d_cki_9) ?_ (by decide) (by decide)
  exact ⟨rfl, e2, rfl⟩
theorem d_chL_0 : decode jdk_43_method_2_code 0 = .ok (.iload_n 1, 1) := by decide +kernel
theorem d_chL_1 : decode jdk_43_method_2_code 1 = .ok (.aload_n 0, 1) := by decide +kernel
theorem d_chL_2 : decode jdk_43_method_2_code 2 = .ok (.arraylength, 1) := by decide +kernel
theorem d_chL_3 : decode jdk_43_method_2_code 3 = .ok (.invokestatic 9, 3) := by decide +kernel
theorem d_chL_6 : decode jdk_43_method_2_code 6 = .ok (.aload_n 0, 1) := by decide +kernel
theorem d_chL_7 : decode jdk_43_method_2_code 7 = .ok (.iload_n 1, 1) := by decide +kernel
theorem d_chL_8 : decode jdk_43_method_2_code 8 = .ok (.baload, 1) := by decide +kernel
theorem d_chL_9 : decode jdk_43_method_2_code 9 = .ok (.sipush 255, 3) := by decide +kernel
theorem d_chL_12 : decode jdk_43_method_2_code 12 = .ok (.iand, 1) := by decide +kernel
theorem d_chL_13 : decode jdk_43_method_2_code 13 = .ok (.i2c, 1) := by decide +kernel
theorem d_chL_14 : decode jdk_43_method_2_code 14 = .ok (.ireturn, 1) := by decide +kernel
theorem ef_chL (m : MethodId) (er : Addr) (ix : Int32) : entryFrame m #[(.ref er), (.int ix)] 2 = mkF m 0 #[.val (.ref er), .val (.int ix)] [] := by first | (simp [entryFrame, mkF, argsToLocals, Value.category]; done) | rfl
theorem pn_chL : plainFor (⟨"java/lang/StringLatin1", "charAt", "([BI)C"⟩ : MethodName) = true := by first | exact plainFor_of_name (by first | (simp [plainName, overriddenIn]; done) | decide +kernel) | decide +kernel
set_option maxRecDepth 65536 in
set_option maxHeartbeats 40000000 in
theorem rm_chL (l : Launch) (Z : State) (a0 : Array Value) (hw : ∀ d ∈ tables_1, d.before a0 Z = true) (er : Addr) (ix : Int32) (ke : ClassId) (us : List Value) (uu : Int32) (fm : Value) (h0 : Heap) (Ae : Arv Z h0 er ke .byte (NI us.length) us (.int 0)) (SF : Sta Z h0 "jdk/internal/util/Preconditions" "SIOOBE_FORMATTER" "Ljava/util/function/BiFunction;" fm) (hfm : fm.isRef = true) (hi0 : ¬ ix < 0) (hi1 : ix < (NI us.length)) (huu : us.getD ix.toNatClampNeg (.int 0) = .int uu) :
    OMet l Z (⟨"java/lang/StringLatin1", "charAt", "([BI)C"⟩ : MethodName) jdk_43_method_2_code 2 (some .char) [] ({ frames := 2, cells := 0, slots := 0, locals := 30 } : Room) #[(.ref er), (.int ix)] h0 (OPure (some (.int (nar .char (uu &&& (255 : Int32)).toUInt32.toUInt16.toUInt32.toInt32))) h0) := by
  refine OMet.of pn_chL ?_
  intro p e s m below meth c T0 X0 hx hby hml hown0 hnm hret hlk hZ e0
  have hown : s.vm.findClass "java/lang/StringLatin1" = some m.cls := hown0
  refine OGo.go (fun t k => castTop (ef_chL m er ix) k) ?_
  refine OGo.go (U' := T0.setTop (mkF m 1 #[.val (.ref er), .val (.int ix)] [(.int ix)])) (fun _ k => XS.iloadN X0.here hx rfl (hb hby d_chL_0) rfl k) ?_
  refine OGo.go (U' := T0.setTop (mkF m 2 #[.val (.ref er), .val (.int ix)] [(.ref er), (.int ix)])) (fun _ k => XS.aloadN X0.here hx rfl (hb hby d_chL_1) rfl rfl k) ?_
  refine OGo.go (U' := T0.setTop (mkF m 3 #[.val (.ref er), .val (.int ix)] [(.int (NI us.length)), (.int ix)])) (fun _ k => Arv.len' X0 hx hZ e0 Ae (g := (mkF m 2 #[.val (.ref er), .val (.int ix)] [(.ref er), (.int ix)])) rfl rfl (hb hby d_chL_2) _ k) ?_
  refine OGo.callS X0 hx hZ (y := (⟨"java/lang/String", "checkIndex", "(II)V"⟩ : MethodName)) hown (hw _ (List.mem_of_getElem? (i := 246) rfl)) (hw _ (List.mem_of_getElem? (i := 247) rfl)) (hw _ (List.mem_of_getElem? (i := 6) rfl)) (hw _ (List.mem_of_getElem? (i := 248) rfl)) (by decide) (g := (mkF m 3 #[.val (.ref er), .val (.int ix)] [(.int (NI us.length)), (.int ix)])) (argsL := [(.int ix), (.int (NI us.length))]) (rest := []) e0 (rm_cki l Z a0 hw ix us fm h0 SF hfm hi0 hi1) rfl (by rw [hml]; rfl) (lenOf pd_7 rfl) rfl (W := 0) (by show 2 * 0 + _ ≤ _; exact Nat.le_of_eq rfl) (hb hby d_chL_3) (by decide) (by decide) (by decide) (by decide) ?_
  rintro _ T2 _ X2 ⟨rfl, e2, rfl⟩
  rw [List.append_nil] at X2
  show OGo p e below _ (T2.setTop (mkF m 6 #[.val (.ref er), .val (.int ix)] []))
  refine OGo.go (U' := T2.setTop (mkF m 7 #[.val (.ref er), .val (.int ix)] [(.ref er)])) (fun _ k => XS.aloadN X2.here hx rfl (hb hby d_chL_6) rfl rfl k) ?_
  refine OGo.go (U' := T2.setTop (mkF m 8 #[.val (.ref er), .val (.int ix)] [(.int ix), (.ref er)])) (fun _ k => XS.iloadN X2.here hx rfl (hb hby d_chL_7) rfl k) ?_
  refine OGo.go (U' := T2.setTop (mkF m 9 #[.val (.ref er), .val (.int ix)] [(.int uu)])) (fun _ k => Arv.ldB X2 hx hZ e2 Ae (j := ix) ⟨hi0, hi1⟩ (v := .int uu) huu (g := (mkF m 8 #[.val (.ref er), .val (.int ix)] [(.int ix), (.ref er)])) rfl rfl (hb hby d_chL_8) _ k) ?_
  refine OGo.go (U' := T2.setTop (mkF m 12 #[.val (.ref er), .val (.int ix)] [(.int (255 : Int32)), (.int uu)])) (fun _ k => XS.sipush X2.here hx rfl (hb hby d_chL_9) k) ?_
  refine OGo.go (U' := T2.setTop (mkF m 13 #[.val (.ref er), .val (.int ix)] [(.int (uu &&& (255 : Int32)))])) (fun _ k => XS.iand X2.here hx rfl (hb hby d_chL_12) rfl k) ?_
  refine OGo.go (U' := T2.setTop (mkF m 14 #[.val (.ref er), .val (.int ix)] [(.int ((uu &&& (255 : Int32)).toUInt32.toUInt16.toUInt32.toInt32))])) (fun _ k => XS.i2c X2.here hx rfl (hb hby d_chL_13) rfl k) ?_
  refine OGo.retN X2 hx (t := .char) hret hlk (by simp) (hb hby d_chL_14) ?_ (by decide) (by decide)
  exact ⟨congrArg (fun z => some (Value.int z)) (rfl), e2, rfl⟩
theorem d_isL_0 : decode jdk_42_method_154_code 0 = .ok (.getstatic 38, 3) := by decide +kernel
theorem d_isL_3 : decode jdk_42_method_154_code 3 = .ok (.ifCond .eq 14, 3) := by decide +kernel
theorem d_isL_6 : decode jdk_42_method_154_code 6 = .ok (.aload_n 0, 1) := by decide +kernel
theorem d_isL_7 : decode jdk_42_method_154_code 7 = .ok (.getfield 15, 3) := by decide +kernel
theorem d_isL_10 : decode jdk_42_method_154_code 10 = .ok (.ifCond .ne 7, 3) := by decide +kernel
theorem d_isL_13 : decode jdk_42_method_154_code 13 = .ok (.iconst 1, 1) := by decide +kernel
theorem d_isL_14 : decode jdk_42_method_154_code 14 = .ok (.goto 4, 3) := by decide +kernel
theorem d_isL_18 : decode jdk_42_method_154_code 18 = .ok (.ireturn, 1) := by decide +kernel
theorem ef_isL (m : MethodId) (sr : Addr) : entryFrame m #[(.ref sr)] 1 = mkF m 0 #[.val (.ref sr)] [] := by first | (simp [entryFrame, mkF, argsToLocals, Value.category]; done) | rfl
theorem pn_isL : plainFor (⟨"java/lang/String", "isLatin1", "()Z"⟩ : MethodName) = true := by first | exact plainFor_of_name (by first | (simp [plainName, overriddenIn]; done) | decide +kernel) | decide +kernel
set_option maxRecDepth 65536 in
set_option maxHeartbeats 40000000 in
theorem rm_isL (l : Launch) (Z : State) (a0 : Array Value) (hw : ∀ d ∈ tables_1, d.before a0 Z = true) (sr : Addr) (er : Addr) (ke : ClassId) (us : List Value) (cs : Int32) (h0 : Heap) (Es : Exa Z h0 sr "java/lang/String") (sc : Fld Z h0 sr "java/lang/String" "coder" "B" (.int 0)) (sv : Fld Z h0 sr "java/lang/String" "value" "[B" (.ref er)) (Ae : Arv Z h0 er ke .byte (NI us.length) us (.int 0)) (S0 : Sta Z h0 "java/lang/String" "COMPACT_STRINGS" "Z" (.int cs)) (hcs : ¬ cs = 0) :
    OMet l Z (⟨"java/lang/String", "isLatin1", "()Z"⟩ : MethodName) jdk_42_method_154_code 1 (some .boolean) [] ({ frames := 0, cells := 0, slots := 0, locals := 0 } : Room) #[(.ref sr)] h0 (OPure (some (.int 1)) h0) := by
  refine OMet.of pn_isL ?_
  intro p e s m below meth c T0 X0 hx hby hml hown0 hnm hret hlk hZ e0
  have hown : s.vm.findClass "java/lang/String" = some m.cls := hown0
  refine OGo.go (fun t k => castTop (ef_isL m sr) k) ?_
  obtain ⟨T1, X1, e1, st1⟩ := getS2 X0 hx hZ hown (host := "") (Or.inl (hw _ (List.mem_of_getElem? (i := 29) rfl))) Via.refl e0 S0 (g := (mkF m 0 #[.val (.ref sr)] [])) rfl (hb hby d_isL_0)
  refine OGo.go (U' := T1.setTop (mkF m 3 #[.val (.ref sr)] [(.int cs)])) st1 ?_
  refine OGo.go (U' := T1.setTop (mkF m 6 #[.val (.ref sr)] [])) (fun _ k => XS.ifNo X1.here hx rfl (hb hby d_isL_3) rfl ((if0 _ _).trans (feq hcs).1) k) ?_
  refine OGo.go (U' := T1.setTop (mkF m 7 #[.val (.ref sr)] [(.ref sr)])) (fun _ k => XS.aloadN X1.here hx rfl (hb hby d_isL_6) rfl rfl k) ?_
  obtain ⟨T2, X2, e2, st2⟩ := getF X1 hx hZ hown (host := "") (Or.inl (hw _ (List.mem_of_getElem? (i := 25) rfl))) Via.refl e1 sc (g := (mkF m 7 #[.val (.ref sr)] [(.ref sr)])) rfl rfl (hb hby d_isL_7)
  refine OGo.go (U' := T2.setTop (mkF m 10 #[.val (.ref sr)] [(.int (0 : Int32))])) st2 ?_
  refine OGo.go (U' := T2.setTop (mkF m 13 #[.val (.ref sr)] [])) (fun _ k => XS.ifNo X2.here hx rfl (hb hby d_isL_10) rfl ((if0 _ _).trans (teq rfl).2) k) ?_
  refine OGo.go (U' := T2.setTop (mkF m 14 #[.val (.ref sr)] [(.int (1 : Int32))])) (fun _ k => XS.iconst X2.here hx rfl (hb hby d_isL_13) k) ?_
  refine OGo.go (U' := T2.setTop (mkF m 18 #[.val (.ref sr)] [(.int (1 : Int32))])) (fun _ k => XS.goto X2.here hx rfl (pc0 := 14) (pc' := 18) rfl (hb hby d_isL_14) (by decide) (by decide) k) ?_
  refine OGo.retN X2 hx (t := .boolean) hret hlk (by simp) (hb hby d_isL_18) ?_ (by decide) (by decide)
  exact ⟨congrArg (fun z => some (Value.int z)) (nar_b1), e2, rfl⟩
theorem d_cha_0 : decode jdk_42_method_56_code 0 = .ok (.aload_n 0, 1) := by decide +kernel
theorem d_cha_1 : decode jdk_42_method_56_code 1 = .ok (.invokevirtual 492, 3) := by decide +kernel
theorem d_cha_4 : decode jdk_42_method_56_code 4 = .ok (.ifCond .eq 12, 3) := by decide +kernel
theorem d_cha_7 : decode jdk_42_method_56_code 7 = .ok (.aload_n 0, 1) := by decide +kernel
theorem d_cha_8 : decode jdk_42_method_56_code 8 = .ok (.getfield 9, 3) := by decide +kernel
theorem d_cha_11 : decode jdk_42_method_56_code 11 = .ok (.iload_n 1, 1) := by decide +kernel
theorem d_cha_12 : decode jdk_42_method_56_code 12 = .ok (.invokestatic 495, 3) := by decide +kernel
theorem d_cha_15 : decode jdk_42_method_56_code 15 = .ok (.ireturn, 1) := by decide +kernel
theorem ef_cha (m : MethodId) (sr : Addr) (ix : Int32) : entryFrame m #[(.ref sr), (.int ix)] 2 = mkF m 0 #[.val (.ref sr), .val (.int ix)] [] := by first | (simp [entryFrame, mkF, argsToLocals, Value.category]; done) | rfl
theorem pn_cha : plainFor (⟨"java/lang/String", "charAt", "(I)C"⟩ : MethodName) = true := by first | exact plainFor_of_name (by first | (simp [plainName, overriddenIn]; done) | decide +kernel) | decide +kernel
set_option maxRecDepth 65536 in
set_option maxHeartbeats 40000000 in
theorem rm_cha (l : Launch) (Z : State) (a0 : Array Value) (hw : ∀ d ∈ tables_1, d.before a0 Z = true) (sr : Addr) (ix : Int32) (er : Addr) (ke : ClassId) (us : List Value) (cs : Int32) (uu : Int32) (fm : Value) (h0 : Heap) (Es : Exa Z h0 sr "java/lang/String") (sc : Fld Z h0 sr "java/lang/String" "coder" "B" (.int 0)) (sv : Fld Z h0 sr "java/lang/String" "value" "[B" (.ref er)) (Ae : Arv Z h0 er ke .byte (NI us.length) us (.int 0)) (S0 : Sta Z h0 "java/lang/String" "COMPACT_STRINGS" "Z" (.int cs)) (hcs : ¬ cs = 0) (SF : Sta Z h0 "jdk/internal/util/Preconditions" "SIOOBE_FORMATTER" "Ljava/util/function/BiFunction;" fm) (hfm : fm.isRef = true) (hi0 : ¬ ix < 0) (hi1 : ix < (NI us.length)) (huu : us.getD ix.toNatClampNeg (.int 0) = .int uu) :
    OMet l Z (⟨"java/lang/String", "charAt", "(I)C"⟩ : MethodName) jdk_42_method_56_code 2 (some .char) [] ({ frames := 3, cells := 0, slots := 0, locals := 46 } : Room) #[(.ref sr), (.int ix)] h0 (OPure (some (.int (nar .char (nar .char (uu &&& (255 : Int32)).toUInt32.toUInt16.toUInt32.toInt32)))) h0) := by
  refine OMet.of pn_cha ?_
  intro p e s m below meth c T0 X0 hx hby hml hown0 hnm hret hlk hZ e0
  have hown : s.vm.findClass "java/lang/String" = some m.cls := hown0
  refine OGo.go (fun t k => castTop (ef_cha m sr ix) k) ?_
  refine OGo.go (U' := T0.setTop (mkF m 1 #[.val (.ref sr), .val (.int ix)] [(.ref sr)])) (fun _ k => XS.aloadN X0.here hx rfl (hb hby d_cha_0) rfl rfl k) ?_
  refine OGo.callV X0 hx hZ (y := (⟨"java/lang/String", "isLatin1", "()Z"⟩ : MethodName)) (C := "java/lang/String") hown (hw _ (List.mem_of_getElem? (i := 238) rfl)) (hw _ (List.mem_of_getElem? (i := 239) rfl)) (hw _ (List.mem_of_getElem? (i := 241) rfl)) (hw _ (List.mem_of_getElem? (i := 240) rfl)) (hw _ (List.mem_of_getElem? (i := 6) rfl)) (hw _ (List.mem_of_getElem? (i := 242) rfl)) (by decide) (g := (mkF m 1 #[.val (.ref sr), .val (.int ix)] [(.ref sr)])) (a := sr) (argsL := []) (rest := []) e0 Es (rm_isL l Z a0 hw sr er ke us cs h0 Es sc sv Ae S0 hcs) rfl (by rw [hml]; rfl) (lenOf pd_11 rfl) rfl (W := 0) (by show 2 * 0 + _ ≤ _; exact Nat.le_of_eq rfl) (hb hby d_cha_1) (by decide) (by decide) (by decide) (by decide) ?_
  rintro _ T1 _ X1 ⟨rfl, e1, rfl⟩
  rw [List.append_nil] at X1
  show OGo p e below _ (T1.setTop (mkF m 4 #[.val (.ref sr), .val (.int ix)] [(.int (1 : Int32))]))
  refine OGo.go (U' := T1.setTop (mkF m 7 #[.val (.ref sr), .val (.int ix)] [])) (fun _ k => XS.ifNo X1.here hx rfl (hb hby d_cha_4) rfl ((if0 _ _).trans (feq (by decide)).1) k) ?_
  refine OGo.go (U' := T1.setTop (mkF m 8 #[.val (.ref sr), .val (.int ix)] [(.ref sr)])) (fun _ k => XS.aloadN X1.here hx rfl (hb hby d_cha_7) rfl rfl k) ?_
  obtain ⟨T2, X2, e2, st2⟩ := getF X1 hx hZ hown (host := "") (Or.inl (hw _ (List.mem_of_getElem? (i := 24) rfl))) Via.refl e1 sv (g := (mkF m 8 #[.val (.ref sr), .val (.int ix)] [(.ref sr)])) rfl rfl (hb hby d_cha_8)
  refine OGo.go (U' := T2.setTop (mkF m 11 #[.val (.ref sr), .val (.int ix)] [(.ref er)])) st2 ?_
  refine OGo.go (U' := T2.setTop (mkF m 12 #[.val (.ref sr), .val (.int ix)] [(.int ix), (.ref er)])) (fun _ k => XS.iloadN X2.here hx rfl (hb hby d_cha_11) rfl k) ?_
  refine OGo.callS X2 hx hZ (y := (⟨"java/lang/StringLatin1", "charAt", "([BI)C"⟩ : MethodName)) hown (hw _ (List.mem_of_getElem? (i := 243) rfl)) (hw _ (List.mem_of_getElem? (i := 244) rfl)) (hw _ (List.mem_of_getElem? (i := 230) rfl)) (hw _ (List.mem_of_getElem? (i := 245) rfl)) (by decide) (g := (mkF m 12 #[.val (.ref sr), .val (.int ix)] [(.int ix), (.ref er)])) (argsL := [(.ref er), (.int ix)]) (rest := []) e2 (rm_chL l Z a0 hw er ix ke us uu fm h0 Ae SF hfm hi0 hi1 huu) rfl (by rw [hml]; rfl) (lenOf pd_16 rfl) rfl (W := 0) (by show 2 * 0 + _ ≤ _; exact Nat.le_of_eq rfl) (hb hby d_cha_12) (by decide) (by decide) (by decide) (by decide) ?_
  rintro _ T3 _ X3 ⟨rfl, e3, rfl⟩
  rw [List.append_nil] at X3
  show OGo p e below _ (T3.setTop (mkF m 15 #[.val (.ref sr), .val (.int ix)] [(.int (nar .char (uu &&& (255 : Int32)).toUInt32.toUInt16.toUInt32.toInt32))]))
  refine OGo.retN X3 hx (t := .char) hret hlk (by simp) (hb hby d_cha_15) ?_ (by decide) (by decide)
  exact ⟨congrArg (fun z => some (Value.int z)) (rfl), e3, rfl⟩
theorem d_eql_0 : decode jdk_43_method_13_code 0 = .ok (.aload_n 0, 1) := by decide +kernel
theorem d_eql_1 : decode jdk_43_method_13_code 1 = .ok (.arraylength, 1) := by decide +kernel
theorem d_eql_2 : decode jdk_43_method_13_code 2 = .ok (.aload_n 1, 1) := by decide +kernel
theorem d_eql_3 : decode jdk_43_method_13_code 3 = .ok (.arraylength, 1) := by decide +kernel
theorem d_eql_4 : decode jdk_43_method_13_code 4 = .ok (.if_icmp .ne 30, 3) := by decide +kernel
theorem d_eql_7 : decode jdk_43_method_13_code 7 = .ok (.iconst 0, 1) := by decide +kernel
theorem d_eql_8 : decode jdk_43_method_13_code 8 = .ok (.istore_n 2, 1) := by decide +kernel
theorem d_eql_9 : decode jdk_43_method_13_code 9 = .ok (.iload_n 2, 1) := by decide +kernel
theorem d_eql_10 : decode jdk_43_method_13_code 10 = .ok (.aload_n 0, 1) := by decide +kernel
theorem d_eql_11 : decode jdk_43_method_13_code 11 = .ok (.arraylength, 1) := by decide +kernel
theorem d_eql_12 : decode jdk_43_method_13_code 12 = .ok (.if_icmp .ge 20, 3) := by decide +kernel
theorem d_eql_15 : decode jdk_43_method_13_code 15 = .ok (.aload_n 0, 1) := by decide +kernel
theorem d_eql_16 : decode jdk_43_method_13_code 16 = .ok (.iload_n 2, 1) := by decide +kernel
theorem d_eql_17 : decode jdk_43_method_13_code 17 = .ok (.baload, 1) := by decide +kernel
theorem d_eql_18 : decode jdk_43_method_13_code 18 = .ok (.aload_n 1, 1) := by decide +kernel
theorem d_eql_19 : decode jdk_43_method_13_code 19 = .ok (.iload_n 2, 1) := by decide +kernel
theorem d_eql_20 : decode jdk_43_method_13_code 20 = .ok (.baload, 1) := by decide +kernel
theorem d_eql_21 : decode jdk_43_method_13_code 21 = .ok (.if_icmp .eq 5, 3) := by decide +kernel
theorem d_eql_26 : decode jdk_43_method_13_code 26 = .ok (.iinc 2 1, 3) := by decide +kernel
theorem d_eql_29 : decode jdk_43_method_13_code 29 = .ok (.goto (-20), 3) := by decide +kernel
theorem d_eql_32 : decode jdk_43_method_13_code 32 = .ok (.iconst 1, 1) := by decide +kernel
theorem d_eql_33 : decode jdk_43_method_13_code 33 = .ok (.ireturn, 1) := by decide +kernel
theorem ef_eql (m : MethodId) (er : Addr) (fr : Addr) : entryFrame m #[(.ref er), (.ref fr)] 3 = mkF m 0 #[.val (.ref er), .val (.ref fr), .unset] [] := by first | (simp [entryFrame, mkF, argsToLocals, Value.category]; done) | rfl
theorem pn_eql : plainFor (⟨"java/lang/StringLatin1", "equals", "([B[B)Z"⟩ : MethodName) = true := by first | exact plainFor_of_name (by first | (simp [plainName, overriddenIn]; done) | decide +kernel) | decide +kernel
set_option maxRecDepth 65536 in
set_option maxHeartbeats 40000000 in
theorem rm_eql (l : Launch) (Z : State) (a0 : Array Value) (hw : ∀ d ∈ tables_1, d.before a0 Z = true) (er : Addr) (fr : Addr) (ke kf : ClassId) (us : List Value) (h0 : Heap) (Ae : Arv Z h0 er ke .byte (NI us.length) us (.int 0)) (Af : Arv Z h0 fr kf .byte (NI us.length) us (.int 0)) (hul : us.length ≤ 4000) :
    OMet l Z (⟨"java/lang/StringLatin1", "equals", "([B[B)Z"⟩ : MethodName) jdk_43_method_13_code 3 (some .boolean) [] ({ frames := 0, cells := 0, slots := 0, locals := 0 } : Room) #[(.ref er), (.ref fr)] h0 (OPure (some (.int 1)) h0) := by
  refine OMet.of pn_eql ?_
  intro p e s m below meth c T0 X0 hx hby hml hown0 hnm hret hlk hZ e0
  have hown : s.vm.findClass "java/lang/StringLatin1" = some m.cls := hown0
  refine OGo.go (fun t k => castTop (ef_eql m er fr) k) ?_
  refine OGo.go (U' := T0.setTop (mkF m 1 #[.val (.ref er), .val (.ref fr), .unset] [(.ref er)])) (fun _ k => XS.aloadN X0.here hx rfl (hb hby d_eql_0) rfl rfl k) ?_
  refine OGo.go (U' := T0.setTop (mkF m 2 #[.val (.ref er), .val (.ref fr), .unset] [(.int (NI us.length))])) (fun _ k => Arv.len' X0 hx hZ e0 Ae (g := (mkF m 1 #[.val (.ref er), .val (.ref fr), .unset] [(.ref er)])) rfl rfl (hb hby d_eql_1) _ k) ?_
  refine OGo.go (U' := T0.setTop (mkF m 3 #[.val (.ref er), .val (.ref fr), .unset] [(.ref fr), (.int (NI us.length))])) (fun _ k => XS.aloadN X0.here hx rfl (hb hby d_eql_2) rfl rfl k) ?_
  refine OGo.go (U' := T0.setTop (mkF m 4 #[.val (.ref er), .val (.ref fr), .unset] [(.int (NI us.length)), (.int (NI us.length))])) (fun _ k => Arv.len' X0 hx hZ e0 Af (g := (mkF m 3 #[.val (.ref er), .val (.ref fr), .unset] [(.ref fr), (.int (NI us.length))])) rfl rfl (hb hby d_eql_3) _ k) ?_
  refine OGo.go (U' := T0.setTop (mkF m 7 #[.val (.ref er), .val (.ref fr), .unset] [])) (fun _ k => XS.icmpNo X0.here hx rfl (hb hby d_eql_4) rfl (teq rfl).2 k) ?_
  refine OGo.go (U' := T0.setTop (mkF m 8 #[.val (.ref er), .val (.ref fr), .unset] [(.int (0 : Int32))])) (fun _ k => XS.iconst X0.here hx rfl (hb hby d_eql_7) k) ?_
  refine OGo.go (U' := T0.setTop (mkF m 9 #[.val (.ref er), .val (.ref fr), .val (.int (0 : Int32))] [])) (fun _ k => XS.istoreN X0.here hx rfl (hb hby d_eql_8) rfl (l' := #[.val (.ref er), .val (.ref fr), .val (.int (0 : Int32))]) rfl k) ?_
  have loop : ∀ (k i : Nat), i + k = us.length → OGo p e below (OEnd s 0 0 (OPure (some (.int 1)) h0)) (T0.setTop (mkF m 9 #[.val (.ref er), .val (.ref fr), .val (.int (NI i))] [])) := by
    intro k
    induction k with
    | zero =>
      intro i hi
      refine OGo.go (U' := T0.setTop (mkF m 10 #[.val (.ref er), .val (.ref fr), .val (.int (NI i))] [(.int (NI i))])) (fun _ k => XS.iloadN X0.here hx rfl (hb hby d_eql_9) rfl k) ?_
      refine OGo.go (U' := T0.setTop (mkF m 11 #[.val (.ref er), .val (.ref fr), .val (.int (NI i))] [(.ref er), (.int (NI i))])) (fun _ k => XS.aloadN X0.here hx rfl (hb hby d_eql_10) rfl rfl k) ?_
      refine OGo.go (U' := T0.setTop (mkF m 12 #[.val (.ref er), .val (.ref fr), .val (.int (NI i))] [(.int (NI us.length)), (.int (NI i))])) (fun _ k => Arv.len' X0 hx hZ e0 Ae (g := (mkF m 11 #[.val (.ref er), .val (.ref fr), .val (.int (NI i))] [(.ref er), (.int (NI i))])) rfl rfl (hb hby d_eql_11) _ k) ?_
      refine OGo.go (U' := T0.setTop (mkF m 32 #[.val (.ref er), .val (.ref fr), .val (.int (NI i))] [])) (fun _ k => XS.icmpYes X0.here hx rfl (pc0 := 12) (pc' := 32) rfl (hb hby d_eql_12) rfl (flt (fun q => absurd ((ni_lt (by omega) (by omega)).mp q) (by omega))).2.1 (by decide) (by decide) k) ?_
      refine OGo.go (U' := T0.setTop (mkF m 33 #[.val (.ref er), .val (.ref fr), .val (.int (NI i))] [(.int (1 : Int32))])) (fun _ k => XS.iconst X0.here hx rfl (hb hby d_eql_32) k) ?_
      refine OGo.retN X0 hx (t := .boolean) hret hlk (by simp) (hb hby d_eql_33) ?_ (by decide) (by decide)
      exact ⟨congrArg (fun z => some (Value.int z)) (nar_b1), e0, rfl⟩
    | succ k ih =>
      intro i hi
      obtain ⟨u, hu⟩ := own_int Ae (i := i) (by rw [ni_nat (by omega)]; omega)
      have hj : ¬ NI i < 0 ∧ NI i < NI us.length := ⟨ni_nn (by omega), (ni_lt (by omega) (by omega)).mpr (by omega)⟩
      have hu2 : us.getD (NI i).toNatClampNeg (.int 0) = .int u := by rw [ni_nat (by omega)]; exact hu
      refine OGo.go (U' := T0.setTop (mkF m 10 #[.val (.ref er), .val (.ref fr), .val (.int (NI i))] [(.int (NI i))])) (fun _ k => XS.iloadN X0.here hx rfl (hb hby d_eql_9) rfl k) ?_
      refine OGo.go (U' := T0.setTop (mkF m 11 #[.val (.ref er), .val (.ref fr), .val (.int (NI i))] [(.ref er), (.int (NI i))])) (fun _ k => XS.aloadN X0.here hx rfl (hb hby d_eql_10) rfl rfl k) ?_
      refine OGo.go (U' := T0.setTop (mkF m 12 #[.val (.ref er), .val (.ref fr), .val (.int (NI i))] [(.int (NI us.length)), (.int (NI i))])) (fun _ k => Arv.len' X0 hx hZ e0 Ae (g := (mkF m 11 #[.val (.ref er), .val (.ref fr), .val (.int (NI i))] [(.ref er), (.int (NI i))])) rfl rfl (hb hby d_eql_11) _ k) ?_
      refine OGo.go (U' := T0.setTop (mkF m 15 #[.val (.ref er), .val (.ref fr), .val (.int (NI i))] [])) (fun _ k => XS.icmpNo X0.here hx rfl (hb hby d_eql_12) rfl (tlt hj.2).2.1 k) ?_
      refine OGo.go (U' := T0.setTop (mkF m 16 #[.val (.ref er), .val (.ref fr), .val (.int (NI i))] [(.ref er)])) (fun _ k => XS.aloadN X0.here hx rfl (hb hby d_eql_15) rfl rfl k) ?_
      refine OGo.go (U' := T0.setTop (mkF m 17 #[.val (.ref er), .val (.ref fr), .val (.int (NI i))] [(.int (NI i)), (.ref er)])) (fun _ k => XS.iloadN X0.here hx rfl (hb hby d_eql_16) rfl k) ?_
      refine OGo.go (U' := T0.setTop (mkF m 18 #[.val (.ref er), .val (.ref fr), .val (.int (NI i))] [(.int u)])) (fun _ k => Arv.ldB X0 hx hZ e0 Ae (j := NI i) hj (v := .int u) hu2 (g := (mkF m 17 #[.val (.ref er), .val (.ref fr), .val (.int (NI i))] [(.int (NI i)), (.ref er)])) rfl rfl (hb hby d_eql_17) _ k) ?_
      refine OGo.go (U' := T0.setTop (mkF m 19 #[.val (.ref er), .val (.ref fr), .val (.int (NI i))] [(.ref fr), (.int u)])) (fun _ k => XS.aloadN X0.here hx rfl (hb hby d_eql_18) rfl rfl k) ?_
      refine OGo.go (U' := T0.setTop (mkF m 20 #[.val (.ref er), .val (.ref fr), .val (.int (NI i))] [(.int (NI i)), (.ref fr), (.int u)])) (fun _ k => XS.iloadN X0.here hx rfl (hb hby d_eql_19) rfl k) ?_
      refine OGo.go (U' := T0.setTop (mkF m 21 #[.val (.ref er), .val (.ref fr), .val (.int (NI i))] [(.int u), (.int u)])) (fun _ k => Arv.ldB X0 hx hZ e0 Af (j := NI i) hj (v := .int u) hu2 (g := (mkF m 20 #[.val (.ref er), .val (.ref fr), .val (.int (NI i))] [(.int (NI i)), (.ref fr), (.int u)])) rfl rfl (hb hby d_eql_20) _ k) ?_
      refine OGo.go (U' := T0.setTop (mkF m 26 #[.val (.ref er), .val (.ref fr), .val (.int (NI i))] [])) (fun _ k => XS.icmpYes X0.here hx rfl (pc0 := 21) (pc' := 26) rfl (hb hby d_eql_21) rfl (teq rfl).1 (by decide) (by decide) k) ?_
      refine OGo.go (U' := T0.setTop (mkF m 29 #[.val (.ref er), .val (.ref fr), .val (.int ((NI i) + (1 : Int32)))] [])) (fun _ k => XS.iinc X0.here hx rfl (hb hby d_eql_26) rfl (l' := #[.val (.ref er), .val (.ref fr), .val (.int ((NI i) + (1 : Int32)))]) rfl k) ?_
      refine OGo.go (U' := T0.setTop (mkF m 9 #[.val (.ref er), .val (.ref fr), .val (.int ((NI i) + (1 : Int32)))] [])) (fun _ k => XS.goto X0.here hx rfl (pc0 := 29) (pc' := 9) rfl (hb hby d_eql_29) (by decide) (by decide) k) ?_
      rw [ni_succ]
      exact ih (i + 1) (by omega)
  exact loop us.length 0 (by omega)
theorem d_equ_0 : decode jdk_42_method_66_code 0 = .ok (.aload_n 0, 1) := by decide +kernel
theorem d_equ_1 : decode jdk_42_method_66_code 1 = .ok (.aload_n 1, 1) := by decide +kernel
theorem d_equ_2 : decode jdk_42_method_66_code 2 = .ok (.if_acmp .ne 5, 3) := by decide +kernel
theorem d_equ_7 : decode jdk_42_method_66_code 7 = .ok (.aload_n 1, 1) := by decide +kernel
theorem d_equ_8 : decode jdk_42_method_66_code 8 = .ok (.instanceof 10, 3) := by decide +kernel
theorem d_equ_11 : decode jdk_42_method_66_code 11 = .ok (.ifCond .eq 43, 3) := by decide +kernel
theorem d_equ_14 : decode jdk_42_method_66_code 14 = .ok (.aload_n 1, 1) := by decide +kernel
theorem d_equ_15 : decode jdk_42_method_66_code 15 = .ok (.checkcast 10, 3) := by decide +kernel
theorem d_equ_18 : decode jdk_42_method_66_code 18 = .ok (.astore_n 2, 1) := by decide +kernel
theorem d_equ_19 : decode jdk_42_method_66_code 19 = .ok (.getstatic 38, 3) := by decide +kernel
theorem d_equ_22 : decode jdk_42_method_66_code 22 = .ok (.ifCond .eq 14, 3) := by decide +kernel
theorem d_equ_25 : decode jdk_42_method_66_code 25 = .ok (.aload_n 0, 1) := by decide +kernel
theorem d_equ_26 : decode jdk_42_method_66_code 26 = .ok (.getfield 15, 3) := by decide +kernel
theorem d_equ_29 : decode jdk_42_method_66_code 29 = .ok (.aload_n 2, 1) := by decide +kernel
theorem d_equ_30 : decode jdk_42_method_66_code 30 = .ok (.getfield 15, 3) := by decide +kernel
theorem d_equ_33 : decode jdk_42_method_66_code 33 = .ok (.if_icmp .ne 21, 3) := by decide +kernel
theorem d_equ_36 : decode jdk_42_method_66_code 36 = .ok (.aload_n 0, 1) := by decide +kernel
theorem d_equ_37 : decode jdk_42_method_66_code 37 = .ok (.getfield 9, 3) := by decide +kernel
theorem d_equ_40 : decode jdk_42_method_66_code 40 = .ok (.aload_n 2, 1) := by decide +kernel
theorem d_equ_41 : decode jdk_42_method_66_code 41 = .ok (.getfield 9, 3) := by decide +kernel
theorem d_equ_44 : decode jdk_42_method_66_code 44 = .ok (.invokestatic 541, 3) := by decide +kernel
theorem d_equ_47 : decode jdk_42_method_66_code 47 = .ok (.ifCond .eq 7, 3) := by decide +kernel
theorem d_equ_50 : decode jdk_42_method_66_code 50 = .ok (.iconst 1, 1) := by decide +kernel
theorem d_equ_51 : decode jdk_42_method_66_code 51 = .ok (.goto 4, 3) := by decide +kernel
theorem d_equ_55 : decode jdk_42_method_66_code 55 = .ok (.ireturn, 1) := by decide +kernel
theorem ef_equ (m : MethodId) (sr : Addr) (tr : Addr) : entryFrame m #[(.ref sr), (.ref tr)] 3 = mkF m 0 #[.val (.ref sr), .val (.ref tr), .unset] [] := by first | (simp [entryFrame, mkF, argsToLocals, Value.category]; done) | rfl
theorem pn_equ : plainFor (⟨"java/lang/String", "equals", "(Ljava/lang/Object;)Z"⟩ : MethodName) = true := by first | exact plainFor_of_name (by first | (simp [plainName, overriddenIn]; done) | decide +kernel) | decide +kernel
set_option maxRecDepth 65536 in
set_option maxHeartbeats 40000000 in
theorem rm_equ (l : Launch) (Z : State) (a0 : Array Value) (hw : ∀ d ∈ tables_1, d.before a0 Z = true) (sr : Addr) (tr : Addr) (er : Addr) (ke : ClassId) (us : List Value) (cs : Int32) (fr : Addr) (kf : ClassId) (h0 : Heap) (Es : Exa Z h0 sr "java/lang/String") (sc : Fld Z h0 sr "java/lang/String" "coder" "B" (.int 0)) (sv : Fld Z h0 sr "java/lang/String" "value" "[B" (.ref er)) (Ae : Arv Z h0 er ke .byte (NI us.length) us (.int 0)) (S0 : Sta Z h0 "java/lang/String" "COMPACT_STRINGS" "Z" (.int cs)) (hcs : ¬ cs = 0) (Eo : Exa Z h0 tr "java/lang/String") (oc : Fld Z h0 tr "java/lang/String" "coder" "B" (.int 0)) (ov : Fld Z h0 tr "java/lang/String" "value" "[B" (.ref fr)) (Af : Arv Z h0 fr kf .byte (NI us.length) us (.int 0)) (hst : ¬ sr = tr) (hul : us.length ≤ 4000) :
    OMet l Z (⟨"java/lang/String", "equals", "(Ljava/lang/Object;)Z"⟩ : MethodName) jdk_42_method_66_code 3 (some .boolean) [] ({ frames := 1, cells := 0, slots := 0, locals := 14 } : Room) #[(.ref sr), (.ref tr)] h0 (OPure (some (.int 1)) h0) := by
  refine OMet.of pn_equ ?_
  intro p e s m below meth c T0 X0 hx hby hml hown0 hnm hret hlk hZ e0
  have hown : s.vm.findClass "java/lang/String" = some m.cls := hown0
  refine OGo.go (fun t k => castTop (ef_equ m sr tr) k) ?_
  refine OGo.go (U' := T0.setTop (mkF m 1 #[.val (.ref sr), .val (.ref tr), .unset] [(.ref sr)])) (fun _ k => XS.aloadN X0.here hx rfl (hb hby d_equ_0) rfl rfl k) ?_
  refine OGo.go (U' := T0.setTop (mkF m 2 #[.val (.ref sr), .val (.ref tr), .unset] [(.ref tr), (.ref sr)])) (fun _ k => XS.aloadN X0.here hx rfl (hb hby d_equ_1) rfl rfl k) ?_
  refine OGo.go (U' := T0.setTop (mkF m 7 #[.val (.ref sr), .val (.ref tr), .unset] [])) (fun _ k => Jvm.RoadKit.acmp (g := (mkF m 2 #[.val (.ref sr), .val (.ref tr), .unset] [(.ref tr), (.ref sr)])) X0 hx rfl rfl rfl (pc0 := 2) (pc' := 7) (same := false) rfl (hb hby d_equ_2) rfl (decide_eq_false fun q => hst (Value.ref.inj q)) (by decide) (by decide) k) ?_
  refine OGo.go (U' := T0.setTop (mkF m 8 #[.val (.ref sr), .val (.ref tr), .unset] [(.ref tr)])) (fun _ k => XS.aloadN X0.here hx rfl (hb hby d_equ_7) rfl rfl k) ?_
  obtain ⟨T1, X1, e1, st1⟩ := instY X0 hx hZ hown (hw _ (List.mem_of_getElem? (i := 227) rfl)) e0 (Ins.self Eo) (g := (mkF m 8 #[.val (.ref sr), .val (.ref tr), .unset] [(.ref tr)])) rfl rfl (hb hby d_equ_8)
  refine OGo.go (U' := T1.setTop (mkF m 11 #[.val (.ref sr), .val (.ref tr), .unset] [(.int (1 : Int32))])) st1 ?_
  refine OGo.go (U' := T1.setTop (mkF m 14 #[.val (.ref sr), .val (.ref tr), .unset] [])) (fun _ k => XS.ifNo X1.here hx rfl (hb hby d_equ_11) rfl ((if0 _ _).trans (feq (by decide)).1) k) ?_
  refine OGo.go (U' := T1.setTop (mkF m 15 #[.val (.ref sr), .val (.ref tr), .unset] [(.ref tr)])) (fun _ k => XS.aloadN X1.here hx rfl (hb hby d_equ_14) rfl rfl k) ?_
  obtain ⟨T2, X2, e2, st2⟩ := castY X1 hx hZ hown (hw _ (List.mem_of_getElem? (i := 227) rfl)) e1 (Ins.self Eo) (g := (mkF m 15 #[.val (.ref sr), .val (.ref tr), .unset] [(.ref tr)])) rfl rfl (hb hby d_equ_15)
  refine OGo.go (U' := T2.setTop (mkF m 18 #[.val (.ref sr), .val (.ref tr), .unset] [(.ref tr)])) st2 ?_
  refine OGo.go (U' := T2.setTop (mkF m 19 #[.val (.ref sr), .val (.ref tr), .val (.ref tr)] [])) (fun _ k => XS.astoreN X2.here hx rfl (hb hby d_equ_18) rfl rfl (l' := #[.val (.ref sr), .val (.ref tr), .val (.ref tr)]) rfl k) ?_
  obtain ⟨T3, X3, e3, st3⟩ := getS2 X2 hx hZ hown (host := "") (Or.inl (hw _ (List.mem_of_getElem? (i := 29) rfl))) Via.refl e2 S0 (g := (mkF m 19 #[.val (.ref sr), .val (.ref tr), .val (.ref tr)] [])) rfl (hb hby d_equ_19)
  refine OGo.go (U' := T3.setTop (mkF m 22 #[.val (.ref sr), .val (.ref tr), .val (.ref tr)] [(.int cs)])) st3 ?_
  refine OGo.go (U' := T3.setTop (mkF m 25 #[.val (.ref sr), .val (.ref tr), .val (.ref tr)] [])) (fun _ k => XS.ifNo X3.here hx rfl (hb hby d_equ_22) rfl ((if0 _ _).trans (feq hcs).1) k) ?_
  refine OGo.go (U' := T3.setTop (mkF m 26 #[.val (.ref sr), .val (.ref tr), .val (.ref tr)] [(.ref sr)])) (fun _ k => XS.aloadN X3.here hx rfl (hb hby d_equ_25) rfl rfl k) ?_
  obtain ⟨T4, X4, e4, st4⟩ := getF X3 hx hZ hown (host := "") (Or.inl (hw _ (List.mem_of_getElem? (i := 25) rfl))) Via.refl e3 sc (g := (mkF m 26 #[.val (.ref sr), .val (.ref tr), .val (.ref tr)] [(.ref sr)])) rfl rfl (hb hby d_equ_26)
  refine OGo.go (U' := T4.setTop (mkF m 29 #[.val (.ref sr), .val (.ref tr), .val (.ref tr)] [(.int (0 : Int32))])) st4 ?_
  refine OGo.go (U' := T4.setTop (mkF m 30 #[.val (.ref sr), .val (.ref tr), .val (.ref tr)] [(.ref tr), (.int (0 : Int32))])) (fun _ k => XS.aloadN X4.here hx rfl (hb hby d_equ_29) rfl rfl k) ?_
  obtain ⟨T5, X5, e5, st5⟩ := getF X4 hx hZ hown (host := "") (Or.inl (hw _ (List.mem_of_getElem? (i := 25) rfl))) Via.refl e4 oc (g := (mkF m 30 #[.val (.ref sr), .val (.ref tr), .val (.ref tr)] [(.ref tr), (.int (0 : Int32))])) rfl rfl (hb hby d_equ_30)
  refine OGo.go (U' := T5.setTop (mkF m 33 #[.val (.ref sr), .val (.ref tr), .val (.ref tr)] [(.int (0 : Int32)), (.int (0 : Int32))])) st5 ?_
  refine OGo.go (U' := T5.setTop (mkF m 36 #[.val (.ref sr), .val (.ref tr), .val (.ref tr)] [])) (fun _ k => XS.icmpNo X5.here hx rfl (hb hby d_equ_33) rfl (teq rfl).2 k) ?_
  refine OGo.go (U' := T5.setTop (mkF m 37 #[.val (.ref sr), .val (.ref tr), .val (.ref tr)] [(.ref sr)])) (fun _ k => XS.aloadN X5.here hx rfl (hb hby d_equ_36) rfl rfl k) ?_
  obtain ⟨T6, X6, e6, st6⟩ := getF X5 hx hZ hown (host := "") (Or.inl (hw _ (List.mem_of_getElem? (i := 24) rfl))) Via.refl e5 sv (g := (mkF m 37 #[.val (.ref sr), .val (.ref tr), .val (.ref tr)] [(.ref sr)])) rfl rfl (hb hby d_equ_37)
  refine OGo.go (U' := T6.setTop (mkF m 40 #[.val (.ref sr), .val (.ref tr), .val (.ref tr)] [(.ref er)])) st6 ?_
  refine OGo.go (U' := T6.setTop (mkF m 41 #[.val (.ref sr), .val (.ref tr), .val (.ref tr)] [(.ref tr), (.ref er)])) (fun _ k => XS.aloadN X6.here hx rfl (hb hby d_equ_40) rfl rfl k) ?_
  obtain ⟨T7, X7, e7, st7⟩ := getF X6 hx hZ hown (host := "") (Or.inl (hw _ (List.mem_of_getElem? (i := 24) rfl))) Via.refl e6 ov (g := (mkF m 41 #[.val (.ref sr), .val (.ref tr), .val (.ref tr)] [(.ref tr), (.ref er)])) rfl rfl (hb hby d_equ_41)
  refine OGo.go (U' := T7.setTop (mkF m 44 #[.val (.ref sr), .val (.ref tr), .val (.ref tr)] [(.ref fr), (.ref er)])) st7 ?_
  refine OGo.callS X7 hx hZ (y := (⟨"java/lang/StringLatin1", "equals", "([B[B)Z"⟩ : MethodName)) hown (hw _ (List.mem_of_getElem? (i := 228) rfl)) (hw _ (List.mem_of_getElem? (i := 229) rfl)) (hw _ (List.mem_of_getElem? (i := 230) rfl)) (hw _ (List.mem_of_getElem? (i := 231) rfl)) (by decide) (g := (mkF m 44 #[.val (.ref sr), .val (.ref tr), .val (.ref tr)] [(.ref fr), (.ref er)])) (argsL := [(.ref er), (.ref fr)]) (rest := []) e7 (rm_eql l Z a0 hw er fr ke kf us h0 Ae Af hul) rfl (by rw [hml]; rfl) (lenOf pd_17 rfl) rfl (W := 0) (by show 2 * 0 + _ ≤ _; exact Nat.le_of_eq rfl) (hb hby d_equ_44) (by decide) (by decide) (by decide) (by decide) ?_
  rintro _ T8 _ X8 ⟨rfl, e8, rfl⟩
  rw [List.append_nil] at X8
  show OGo p e below _ (T8.setTop (mkF m 47 #[.val (.ref sr), .val (.ref tr), .val (.ref tr)] [(.int (1 : Int32))]))
  refine OGo.go (U' := T8.setTop (mkF m 50 #[.val (.ref sr), .val (.ref tr), .val (.ref tr)] [])) (fun _ k => XS.ifNo X8.here hx rfl (hb hby d_equ_47) rfl ((if0 _ _).trans (feq (by decide)).1) k) ?_
  refine OGo.go (U' := T8.setTop (mkF m 51 #[.val (.ref sr), .val (.ref tr), .val (.ref tr)] [(.int (1 : Int32))])) (fun _ k => XS.iconst X8.here hx rfl (hb hby d_equ_50) k) ?_
  refine OGo.go (U' := T8.setTop (mkF m 55 #[.val (.ref sr), .val (.ref tr), .val (.ref tr)] [(.int (1 : Int32))])) (fun _ k => XS.goto X8.here hx rfl (pc0 := 51) (pc' := 55) rfl (hb hby d_equ_51) (by decide) (by decide) k) ?_
  refine OGo.retN X8 hx (t := .boolean) hret hlk (by simp) (hb hby d_equ_55) ?_ (by decide) (by decide)
  exact ⟨congrArg (fun z => some (Value.int z)) (nar_b1), e8, rfl⟩
theorem d_asbi_0 : decode jdk_68_method_2_code 0 = .ok (.aload_n 0, 1) := by decide +kernel
theorem d_asbi_1 : decode jdk_68_method_2_code 1 = .ok (.invokespecial 3, 3) := by decide +kernel
theorem d_asbi_4 : decode jdk_68_method_2_code 4 = .ok (.getstatic 18, 3) := by decide +kernel
theorem d_asbi_7 : decode jdk_68_method_2_code 7 = .ok (.ifCond .eq 18, 3) := by decide +kernel
theorem d_asbi_10 : decode jdk_68_method_2_code 10 = .ok (.aload_n 0, 1) := by decide +kernel
theorem d_asbi_11 : decode jdk_68_method_2_code 11 = .ok (.iload_n 1, 1) := by decide +kernel
theorem d_asbi_12 : decode jdk_68_method_2_code 12 = .ok (.newarray .byte, 2) := by decide +kernel
theorem d_asbi_14 : decode jdk_68_method_2_code 14 = .ok (.putfield 15, 3) := by decide +kernel
theorem d_asbi_17 : decode jdk_68_method_2_code 17 = .ok (.aload_n 0, 1) := by decide +kernel
theorem d_asbi_18 : decode jdk_68_method_2_code 18 = .ok (.iconst 0, 1) := by decide +kernel
theorem d_asbi_19 : decode jdk_68_method_2_code 19 = .ok (.putfield 22, 3) := by decide +kernel
theorem d_asbi_22 : decode jdk_68_method_2_code 22 = .ok (.goto 16, 3) := by decide +kernel
theorem d_asbi_38 : decode jdk_68_method_2_code 38 = .ok (.return_, 1) := by decide +kernel
theorem ef_asbi (m : MethodId) (br : Addr) : entryFrame m #[(.ref br), (.int (256 : Int32))] 2 = mkF m 0 #[.val (.ref br), .val (.int (256 : Int32))] [] := by first | (simp [entryFrame, mkF, argsToLocals, Value.category]; done) | rfl
theorem pn_asbi : plainFor (⟨"java/lang/AbstractStringBuilder", "<init>", "(I)V"⟩ : MethodName) = true := by first | exact plainFor_of_name (by first | (simp [plainName, overriddenIn]; done) | decide +kernel) | decide +kernel
set_option maxRecDepth 65536 in
set_option maxHeartbeats 40000000 in
theorem rm_asbi (l : Launch) (Z : State) (a0 : Array Value) (hw : ∀ d ∈ tables_1, d.before a0 Z = true) (br : Addr) (u_value u_coder : Value) (cs : Int32) (n0 : Nat) (h0 : Heap) (Z0 : n0 ≤ h0.size) (EB : Exa Z h0 br "java/lang/StringBuilder") (F_value : Fld Z h0 br "java/lang/AbstractStringBuilder" "value" "[B" u_value) (F_coder : Fld Z h0 br "java/lang/AbstractStringBuilder" "coder" "B" u_coder) (F_count : Fld Z h0 br "java/lang/AbstractStringBuilder" "count" "I" (.int 0)) (g0 : n0 ≤ br) (S0 : Sta Z h0 "java/lang/String" "COMPACT_STRINGS" "Z" (.int cs)) (hcs : ¬ cs = 0) :
    OMet l Z (⟨"java/lang/AbstractStringBuilder", "<init>", "(I)V"⟩ : MethodName) jdk_68_method_2_code 2 none [] ({ frames := 1, cells := 1, slots := 256, locals := 12 } : Room) #[(.ref br), (.int (256 : Int32))] h0 (fun v h L => v = none ∧ Fr n0 L ∧ Keep h0 h [br] ∧ Exa Z h br "java/lang/StringBuilder" ∧ Fld Z h br "java/lang/AbstractStringBuilder" "coder" "B" (.int 0) ∧ Fld Z h br "java/lang/AbstractStringBuilder" "count" "I" (.int 0) ∧ ∃ (d : Addr) (k : ClassId), Fld Z h br "java/lang/AbstractStringBuilder" "value" "[B" (.ref d) ∧ Arv Z h d k .byte 256 [] (.int 0) ∧ h0.size ≤ d) := by
  refine OMet.of pn_asbi ?_
  intro p e s m below meth c T0 X0 hx hby hml hown0 hnm hret hlk hZ e0
  have hown : s.vm.findClass "java/lang/AbstractStringBuilder" = some m.cls := hown0
  refine OGo.go (fun t k => castTop (ef_asbi m br) k) ?_
  refine OGo.go (U' := T0.setTop (mkF m 1 #[.val (.ref br), .val (.int (256 : Int32))] [(.ref br)])) (fun _ k => XS.aloadN X0.here hx rfl (hb hby d_asbi_0) rfl rfl k) ?_
  obtain ⟨T1, X1, e1, st1⟩ := initO X0 hx hZ hown (hw _ (List.mem_of_getElem? (i := 59) rfl)) (hw _ (List.mem_of_getElem? (i := 16) rfl)) (hw _ (List.mem_of_getElem? (i := 17) rfl)) e0 (g := (mkF m 1 #[.val (.ref br), .val (.int (256 : Int32))] [(.ref br)])) rfl (by rw [hml]; rfl) rfl (hb hby d_asbi_1) (by decide) (W := 0) (by show 2 * 0 + _ ≤ _; exact Nat.le_of_eq rfl) (by decide)
  refine OGo.go (U' := T1.setTop (mkF m 4 #[.val (.ref br), .val (.int (256 : Int32))] [])) st1 ?_
  obtain ⟨T2, X2, e2, st2⟩ := getS2 X1 hx hZ hown (host := "") (Or.inl (hw _ (List.mem_of_getElem? (i := 60) rfl))) Via.refl e1 S0 (g := (mkF m 4 #[.val (.ref br), .val (.int (256 : Int32))] [])) rfl (hb hby d_asbi_4)
  refine OGo.go (U' := T2.setTop (mkF m 7 #[.val (.ref br), .val (.int (256 : Int32))] [(.int cs)])) st2 ?_
  refine OGo.go (U' := T2.setTop (mkF m 10 #[.val (.ref br), .val (.int (256 : Int32))] [])) (fun _ k => XS.ifNo X2.here hx rfl (hb hby d_asbi_7) rfl ((if0 _ _).trans (feq hcs).1) k) ?_
  refine OGo.go (U' := T2.setTop (mkF m 11 #[.val (.ref br), .val (.int (256 : Int32))] [(.ref br)])) (fun _ k => XS.aloadN X2.here hx rfl (hb hby d_asbi_10) rfl rfl k) ?_
  refine OGo.go (U' := T2.setTop (mkF m 12 #[.val (.ref br), .val (.int (256 : Int32))] [(.int (256 : Int32)), (.ref br)])) (fun _ k => XS.iloadN X2.here hx rfl (hb hby d_asbi_11) rfl k) ?_
  obtain ⟨T3, h3, k3, X3, e3, E3, A3, st3⟩ := newP X2 hx hZ (hw _ (List.mem_of_getElem? (i := 19) rfl)) e2 (g := (mkF m 12 #[.val (.ref br), .val (.int (256 : Int32))] [(.int (256 : Int32)), (.ref br)])) rfl (hb hby d_asbi_12) rfl (n := 256) (by decide) (cap := 256) (by decide) (by decide) (by decide) (by decide)
  obtain ⟨b3, gb3⟩ : ∃ z, z = h0.size := ⟨_, rfl⟩
  rw [← gb3] at A3 st3
  have ne4 : br ≠ b3 := Nat.ne_of_lt (Nat.lt_of_lt_of_le EB.lt (Nat.le_of_eq gb3.symm))
  have g5 : n0 ≤ b3 := Nat.le_trans Z0 (Nat.le_of_eq gb3.symm)
  have sz6 := Nat.le_trans (Keep.refl h0 [br]).1 (Nat.le_of_eq gb3.symm)
  have f7 := S0.ext E3
  have f8 := EB.ext E3
  have f9 := F_value.ext E3
  have f10 := F_coder.ext E3
  have f11 := F_count.ext E3
  have K12 := (Keep.refl h0 [br]).ext E3
  have V3 : Arv Z h3 b3 k3 .byte 256 [] (.int 0) := Arv.new A3 (by decide)
  refine OGo.go (U' := T3.setTop (mkF m 14 #[.val (.ref br), .val (.int (256 : Int32))] [(.ref b3), (.ref br)])) st3 ?_
  obtain ⟨T13, h13, X13, e13, W13, st13⟩ := putF X3 hx hZ hown (host := "") (Or.inl (hw _ (List.mem_of_getElem? (i := 61) rfl))) Via.refl e3 f9 f8 (Or.inl (hw _ (List.mem_of_getElem? (i := 62) rfl))) (hw _ (List.mem_of_getElem? (i := 48) rfl)) (ty := (.array .byte)) (by decide) rfl rfl (g := (mkF m 14 #[.val (.ref br), .val (.int (256 : Int32))] [(.ref b3), (.ref br)])) rfl rfl (hb hby d_asbi_14)
  have N14 := Fr.snoc X13 (Fr.nil n0) g0
  have f15 := f7.wr W13
  have f16 := f8.wr W13
  have f17 := f9.same W13
  have f18 := f10.other W13 (Or.inr (slot_ne (Or.inl (hw _ (List.mem_of_getElem? (i := 64) rfl))) (Or.inl (hw _ (List.mem_of_getElem? (i := 62) rfl))) (by decide) (t := .byte) (t' := (.array .byte)) (by decide) (by decide)))
  have f19 := f11.other W13 (Or.inr (slot_ne (Or.inl (hw _ (List.mem_of_getElem? (i := 145) rfl))) (Or.inl (hw _ (List.mem_of_getElem? (i := 62) rfl))) (by decide) (t := .int) (t' := (.array .byte)) (by decide) (by decide)))
  have f20 := V3.other W13 (Ne.symm ne4)
  have K21 := K12.wr W13 (Or.inl (List.mem_of_getElem? (i := 0) rfl))
  refine OGo.go (U' := T13.setTop (mkF m 17 #[.val (.ref br), .val (.int (256 : Int32))] [])) st13 ?_
  refine OGo.go (U' := T13.setTop (mkF m 18 #[.val (.ref br), .val (.int (256 : Int32))] [(.ref br)])) (fun _ k => XS.aloadN X13.here hx rfl (hb hby d_asbi_17) rfl rfl k) ?_
  refine OGo.go (U' := T13.setTop (mkF m 19 #[.val (.ref br), .val (.int (256 : Int32))] [(.int (0 : Int32)), (.ref br)])) (fun _ k => XS.iconst X13.here hx rfl (hb hby d_asbi_18) k) ?_
  obtain ⟨T22, h22, X22, e22, W22, st22⟩ := putFN X13 hx hZ hown (hw _ (List.mem_of_getElem? (i := 63) rfl)) Via.refl e13 f18 f16 (Or.inl (hw _ (List.mem_of_getElem? (i := 64) rfl))) (hw _ (List.mem_of_getElem? (i := 48) rfl)) (ty := .byte) (v' := (.int (nar .byte (0 : Int32)))) (by decide) rfl (fits_nar_byte _) (g := (mkF m 19 #[.val (.ref br), .val (.int (256 : Int32))] [(.int (0 : Int32)), (.ref br)])) rfl rfl (hb hby d_asbi_19)
  have N23 := Fr.snoc X22 N14 g0
  have f24 := f15.wr W22
  have f25 := f16.wr W22
  have f26 := f17.other W22 (Or.inr (slot_ne (Or.inl (hw _ (List.mem_of_getElem? (i := 62) rfl))) (Or.inl (hw _ (List.mem_of_getElem? (i := 64) rfl))) (by decide) (t := (.array .byte)) (t' := .byte) (by decide) (by decide)))
  have f27 := f18.same W22
  have f28 := f19.other W22 (Or.inr (slot_ne (Or.inl (hw _ (List.mem_of_getElem? (i := 145) rfl))) (Or.inl (hw _ (List.mem_of_getElem? (i := 64) rfl))) (by decide) (t := .int) (t' := .byte) (by decide) (by decide)))
  have f29 := f20.other W22 (Ne.symm ne4)
  have K30 := K21.wr W22 (Or.inl (List.mem_of_getElem? (i := 0) rfl))
  refine OGo.go (U' := T22.setTop (mkF m 22 #[.val (.ref br), .val (.int (256 : Int32))] [])) st22 ?_
  refine OGo.go (U' := T22.setTop (mkF m 38 #[.val (.ref br), .val (.int (256 : Int32))] [])) (fun _ k => XS.goto X22.here hx rfl (pc0 := 22) (pc' := 38) rfl (hb hby d_asbi_22) (by decide) (by decide) k) ?_
  refine OGo.ret0 X22 hx hret hlk (hb hby d_asbi_38) ?_ (by decide) (by decide)
  rw [e22]
  exact ⟨rfl, N23, K30, f25, (show nar .byte (0 : Int32) = 0 from by decide) ▸ f27, f28, b3, k3, f26, f29, sz6⟩
theorem d_sbi_0 : decode jdk_67_method_2_code 0 = .ok (.aload_n 0, 1) := by decide +kernel
theorem d_sbi_1 : decode jdk_67_method_2_code 1 = .ok (.iload_n 1, 1) := by decide +kernel
theorem d_sbi_2 : decode jdk_67_method_2_code 2 = .ok (.invokespecial 1, 3) := by decide +kernel
theorem d_sbi_5 : decode jdk_67_method_2_code 5 = .ok (.return_, 1) := by decide +kernel
theorem ef_sbi (m : MethodId) (br : Addr) : entryFrame m #[(.ref br), (.int (256 : Int32))] 2 = mkF m 0 #[.val (.ref br), .val (.int (256 : Int32))] [] := by first | (simp [entryFrame, mkF, argsToLocals, Value.category]; done) | rfl
theorem pn_sbi : plainFor (⟨"java/lang/StringBuilder", "<init>", "(I)V"⟩ : MethodName) = true := by first | exact plainFor_of_name (by first | (simp [plainName, overriddenIn]; done) | decide +kernel) | decide +kernel
set_option maxRecDepth 65536 in
set_option maxHeartbeats 40000000 in
theorem rm_sbi (l : Launch) (Z : State) (a0 : Array Value) (hw : ∀ d ∈ tables_1, d.before a0 Z = true) (br : Addr) (u_value u_coder : Value) (cs : Int32) (n0 : Nat) (h0 : Heap) (Z0 : n0 ≤ h0.size) (EB : Exa Z h0 br "java/lang/StringBuilder") (F_value : Fld Z h0 br "java/lang/AbstractStringBuilder" "value" "[B" u_value) (F_coder : Fld Z h0 br "java/lang/AbstractStringBuilder" "coder" "B" u_coder) (F_count : Fld Z h0 br "java/lang/AbstractStringBuilder" "count" "I" (.int 0)) (g0 : n0 ≤ br) (S0 : Sta Z h0 "java/lang/String" "COMPACT_STRINGS" "Z" (.int cs)) (hcs : ¬ cs = 0) :
    OMet l Z (⟨"java/lang/StringBuilder", "<init>", "(I)V"⟩ : MethodName) jdk_67_method_2_code 2 none [] ({ frames := 2, cells := 1, slots := 256, locals := 26 } : Room) #[(.ref br), (.int (256 : Int32))] h0 (fun v h L => v = none ∧ Fr n0 L ∧ Keep h0 h [br] ∧ Exa Z h br "java/lang/StringBuilder" ∧ Fld Z h br "java/lang/AbstractStringBuilder" "coder" "B" (.int 0) ∧ Fld Z h br "java/lang/AbstractStringBuilder" "count" "I" (.int 0) ∧ ∃ (d : Addr) (k : ClassId), Fld Z h br "java/lang/AbstractStringBuilder" "value" "[B" (.ref d) ∧ Arv Z h d k .byte 256 [] (.int 0) ∧ h0.size ≤ d) := by
  refine OMet.of pn_sbi ?_
  intro p e s m below meth c T0 X0 hx hby hml hown0 hnm hret hlk hZ e0
  have hown : s.vm.findClass "java/lang/StringBuilder" = some m.cls := hown0
  refine OGo.go (fun t k => castTop (ef_sbi m br) k) ?_
  refine OGo.go (U' := T0.setTop (mkF m 1 #[.val (.ref br), .val (.int (256 : Int32))] [(.ref br)])) (fun _ k => XS.aloadN X0.here hx rfl (hb hby d_sbi_0) rfl rfl k) ?_
  refine OGo.go (U' := T0.setTop (mkF m 2 #[.val (.ref br), .val (.int (256 : Int32))] [(.int (256 : Int32)), (.ref br)])) (fun _ k => XS.iloadN X0.here hx rfl (hb hby d_sbi_1) rfl k) ?_
  refine OGo.callI X0 hx hZ (y := (⟨"java/lang/AbstractStringBuilder", "<init>", "(I)V"⟩ : MethodName)) rfl hown (hw _ (List.mem_of_getElem? (i := 53) rfl)) (hw _ (List.mem_of_getElem? (i := 54) rfl)) (hw _ (List.mem_of_getElem? (i := 57) rfl)) (hw _ (List.mem_of_getElem? (i := 58) rfl)) (by decide) (g := (mkF m 2 #[.val (.ref br), .val (.int (256 : Int32))] [(.int (256 : Int32)), (.ref br)])) (a := br) (argsL := [(.int (256 : Int32))]) (rest := []) e0 (rm_asbi l Z a0 hw br u_value u_coder cs n0 h0 Z0 EB F_value F_coder F_count g0 S0 hcs) rfl (by rw [hml]; rfl) (lenOf pd_4 rfl) rfl (W := 0) (by show 2 * 0 + _ ≤ _; exact Nat.le_of_eq rfl) (hb hby d_sbi_2) (by decide) (by decide) (by decide) (by decide) ?_
  rintro _ T1 L1 X1 ⟨rfl, N1, K1, Eb1, bc1, bn1, d1, k1, bv1, A1, gd1⟩
  have e1 : T1.heap = T1.heap := rfl
  have N2 := Fr.app (Fr.nil n0) N1
  have f3 := own_sta_keep S0 K1 (allS (P := fun x => ∀ cell : Cell, _ → cell.vm.isStatics = false) (own_plain EB) all0)
  have f4 := EB.keep K1
  have K5 := (Keep.refl h0 [br]).trans K1 (allS (P := fun x => x ∈ _ ∨ _ ≤ x) (Or.inl (List.mem_of_getElem? (i := 0) rfl)) all0)
  have ne6 : br ≠ d1 := Nat.ne_of_lt (Nat.lt_of_lt_of_le EB.lt gd1)
  have sz1 := Nat.le_trans (Keep.refl h0 [br]).1 gd1
  have gg1 : n0 ≤ d1 := Nat.le_trans Z0 gd1
  show OGo p e below _ (T1.setTop (mkF m 5 #[.val (.ref br), .val (.int (256 : Int32))] []))
  refine OGo.ret0 X1 hx hret hlk (hb hby d_sbi_5) ?_ (by decide) (by decide)
  rw [e1]
  exact ⟨rfl, N2, K5, Eb1, bc1, bn1, d1, k1, bv1, A1, sz1⟩
theorem d_acl_0 : decode jdk_22_method_1_code 0 = .ok (.aload_n 0, 1) := by decide +kernel
theorem d_acl_1 : decode jdk_22_method_1_code 1 = .ok (.invokespecial 1, 3) := by decide +kernel
theorem d_acl_4 : decode jdk_22_method_1_code 4 = .ok (.return_, 1) := by decide +kernel
theorem ef_acl (m : MethodId) (a1 : Addr) : entryFrame m #[(.ref a1)] 1 = mkF m 0 #[.val (.ref a1)] [] := by first | (simp [entryFrame, mkF, argsToLocals, Value.category]; done) | rfl
theorem pn_acl : plainFor (⟨"java/util/AbstractCollection", "<init>", "()V"⟩ : MethodName) = true := by first | exact plainFor_of_name (by first | (simp [plainName, overriddenIn]; done) | decide +kernel) | decide +kernel
set_option maxRecDepth 65536 in
set_option maxHeartbeats 40000000 in
theorem rm_acl (l : Launch) (Z : State) (a0 : Array Value) (hw : ∀ d ∈ tables_1, d.before a0 Z = true) (a1 : Addr)  (h0 : Heap)  :
    OMet l Z (⟨"java/util/AbstractCollection", "<init>", "()V"⟩ : MethodName) jdk_22_method_1_code 1 none [] ({ frames := 1, cells := 0, slots := 0, locals := 12 } : Room) #[(.ref a1)] h0 (OPure none h0) := by
  refine OMet.of pn_acl ?_
  intro p e s m below meth c T0 X0 hx hby hml hown0 hnm hret hlk hZ e0
  have hown : s.vm.findClass "java/util/AbstractCollection" = some m.cls := hown0
  refine OGo.go (fun t k => castTop (ef_acl m a1) k) ?_
  refine OGo.go (U' := T0.setTop (mkF m 1 #[.val (.ref a1)] [(.ref a1)])) (fun _ k => XS.aloadN X0.here hx rfl (hb hby d_acl_0) rfl rfl k) ?_
  obtain ⟨T1, X1, e1, st1⟩ := initO X0 hx hZ hown (hw _ (List.mem_of_getElem? (i := 92) rfl)) (hw _ (List.mem_of_getElem? (i := 16) rfl)) (hw _ (List.mem_of_getElem? (i := 17) rfl)) e0 (g := (mkF m 1 #[.val (.ref a1)] [(.ref a1)])) rfl (by rw [hml]; rfl) rfl (hb hby d_acl_1) (by decide) (W := 0) (by show 2 * 0 + _ ≤ _; exact Nat.le_of_eq rfl) (by decide)
  refine OGo.go (U' := T1.setTop (mkF m 4 #[.val (.ref a1)] [])) st1 ?_
  refine OGo.ret0 X1 hx hret hlk (hb hby d_acl_4) ?_ (by decide) (by decide)
  exact ⟨rfl, e1, rfl⟩
theorem d_amp_0 : decode jdk_71_method_1_code 0 = .ok (.aload_n 0, 1) := by decide +kernel
theorem d_amp_1 : decode jdk_71_method_1_code 1 = .ok (.invokespecial 1, 3) := by decide +kernel
theorem d_amp_4 : decode jdk_71_method_1_code 4 = .ok (.return_, 1) := by decide +kernel
theorem ef_amp (m : MethodId) (a1 : Addr) : entryFrame m #[(.ref a1)] 1 = mkF m 0 #[.val (.ref a1)] [] := by first | (simp [entryFrame, mkF, argsToLocals, Value.category]; done) | rfl
theorem pn_amp : plainFor (⟨"java/util/AbstractMap", "<init>", "()V"⟩ : MethodName) = true := by first | exact plainFor_of_name (by first | (simp [plainName, overriddenIn]; done) | decide +kernel) | decide +kernel
set_option maxRecDepth 65536 in
set_option maxHeartbeats 40000000 in
theorem rm_amp (l : Launch) (Z : State) (a0 : Array Value) (hw : ∀ d ∈ tables_1, d.before a0 Z = true) (a1 : Addr)  (h0 : Heap)  :
    OMet l Z (⟨"java/util/AbstractMap", "<init>", "()V"⟩ : MethodName) jdk_71_method_1_code 1 none [] ({ frames := 1, cells := 0, slots := 0, locals := 12 } : Room) #[(.ref a1)] h0 (OPure none h0) := by
  refine OMet.of pn_amp ?_
  intro p e s m below meth c T0 X0 hx hby hml hown0 hnm hret hlk hZ e0
  have hown : s.vm.findClass "java/util/AbstractMap" = some m.cls := hown0
  refine OGo.go (fun t k => castTop (ef_amp m a1) k) ?_
  refine OGo.go (U' := T0.setTop (mkF m 1 #[.val (.ref a1)] [(.ref a1)])) (fun _ k => XS.aloadN X0.here hx rfl (hb hby d_amp_0) rfl rfl k) ?_
  obtain ⟨T1, X1, e1, st1⟩ := initO X0 hx hZ hown (hw _ (List.mem_of_getElem? (i := 112) rfl)) (hw _ (List.mem_of_getElem? (i := 16) rfl)) (hw _ (List.mem_of_getElem? (i := 17) rfl)) e0 (g := (mkF m 1 #[.val (.ref a1)] [(.ref a1)])) rfl (by rw [hml]; rfl) rfl (hb hby d_amp_1) (by decide) (W := 0) (by show 2 * 0 + _ ≤ _; exact Nat.le_of_eq rfl) (by decide)
  refine OGo.go (U' := T1.setTop (mkF m 4 #[.val (.ref a1)] [])) st1 ?_
  refine OGo.ret0 X1 hx hret hlk (hb hby d_amp_4) ?_ (by decide) (by decide)
  exact ⟨rfl, e1, rfl⟩
theorem d_abl_0 : decode jdk_39_method_1_code 0 = .ok (.aload_n 0, 1) := by decide +kernel
theorem d_abl_1 : decode jdk_39_method_1_code 1 = .ok (.invokespecial 1, 3) := by decide +kernel
theorem d_abl_4 : decode jdk_39_method_1_code 4 = .ok (.aload_n 0, 1) := by decide +kernel
theorem d_abl_5 : decode jdk_39_method_1_code 5 = .ok (.iconst 0, 1) := by decide +kernel
theorem d_abl_6 : decode jdk_39_method_1_code 6 = .ok (.putfield 7, 3) := by decide +kernel
theorem d_abl_9 : decode jdk_39_method_1_code 9 = .ok (.return_, 1) := by decide +kernel
theorem ef_abl (m : MethodId) (a1 : Addr) : entryFrame m #[(.ref a1)] 1 = mkF m 0 #[.val (.ref a1)] [] := by first | (simp [entryFrame, mkF, argsToLocals, Value.category]; done) | rfl
theorem pn_abl : plainFor (⟨"java/util/AbstractList", "<init>", "()V"⟩ : MethodName) = true := by first | exact plainFor_of_name (by first | (simp [plainName, overriddenIn]; done) | decide +kernel) | decide +kernel
set_option maxRecDepth 65536 in
set_option maxHeartbeats 40000000 in
theorem rm_abl (l : Launch) (Z : State) (a0 : Array Value) (hw : ∀ d ∈ tables_1, d.before a0 Z = true) (a1 : Addr)  (u_modCount : Value) (u_elementData : Value)  (n0 : Nat) (h0 : Heap) (Z0 : n0 ≤ h0.size) (E0 : Exa Z h0 a1 "java/util/ArrayList") (F_modCount : Fld Z h0 a1 "java/util/AbstractList" "modCount" "I" u_modCount) (F_elementData : Fld Z h0 a1 "java/util/ArrayList" "elementData" "[Ljava/lang/Object;" u_elementData) (g0 : n0 ≤ a1)  :
    OMet l Z (⟨"java/util/AbstractList", "<init>", "()V"⟩ : MethodName) jdk_39_method_1_code 1 none [] ({ frames := 2, cells := 0, slots := 0, locals := 24 } : Room) #[(.ref a1)] h0 (fun v h L => v = none ∧ Fr n0 L ∧ Keep h0 h [a1] ∧ Exa Z h a1 "java/util/ArrayList" ∧ Fld Z h a1 "java/util/AbstractList" "modCount" "I" (.int (0 : Int32)) ∧ Fld Z h a1 "java/util/ArrayList" "elementData" "[Ljava/lang/Object;" u_elementData) := by
  refine OMet.of pn_abl ?_
  intro p e s m below meth c T0 X0 hx hby hml hown0 hnm hret hlk hZ e0
  have hown : s.vm.findClass "java/util/AbstractList" = some m.cls := hown0
  refine OGo.go (fun t k => castTop (ef_abl m a1) k) ?_
  refine OGo.go (U' := T0.setTop (mkF m 1 #[.val (.ref a1)] [(.ref a1)])) (fun _ k => XS.aloadN X0.here hx rfl (hb hby d_abl_0) rfl rfl k) ?_
  refine OGo.callI X0 hx hZ (y := (⟨"java/util/AbstractCollection", "<init>", "()V"⟩ : MethodName)) rfl hown (hw _ (List.mem_of_getElem? (i := 86) rfl)) (hw _ (List.mem_of_getElem? (i := 87) rfl)) (hw _ (List.mem_of_getElem? (i := 90) rfl)) (hw _ (List.mem_of_getElem? (i := 91) rfl)) (by decide) (g := (mkF m 1 #[.val (.ref a1)] [(.ref a1)])) (a := a1) (argsL := []) (rest := []) e0 (rm_acl l Z a0 hw a1 h0) rfl (by rw [hml]; rfl) (lenOf pd_18 rfl) rfl (W := 0) (by show 2 * 0 + _ ≤ _; exact Nat.le_of_eq rfl) (hb hby d_abl_1) (by decide) (by decide) (by decide) (by decide) ?_
  rintro _ T1 _ X1 ⟨rfl, e1, rfl⟩
  rw [List.append_nil] at X1
  show OGo p e below _ (T1.setTop (mkF m 4 #[.val (.ref a1)] []))
  refine OGo.go (U' := T1.setTop (mkF m 5 #[.val (.ref a1)] [(.ref a1)])) (fun _ k => XS.aloadN X1.here hx rfl (hb hby d_abl_4) rfl rfl k) ?_
  refine OGo.go (U' := T1.setTop (mkF m 6 #[.val (.ref a1)] [(.int (0 : Int32)), (.ref a1)])) (fun _ k => XS.iconst X1.here hx rfl (hb hby d_abl_5) k) ?_
  obtain ⟨T2, h2, X2, e2, W2, st2⟩ := putF X1 hx hZ hown (host := "") (Or.inl (hw _ (List.mem_of_getElem? (i := 93) rfl))) Via.refl e1 F_modCount E0 (Or.inl (hw _ (List.mem_of_getElem? (i := 94) rfl))) (hw _ (List.mem_of_getElem? (i := 75) rfl)) (ty := .int) (by decide) rfl rfl (g := (mkF m 6 #[.val (.ref a1)] [(.int (0 : Int32)), (.ref a1)])) rfl rfl (hb hby d_abl_6)
  have N3 := Fr.snoc X2 (Fr.nil n0) g0
  have f4 := E0.wr W2
  have f5 := F_modCount.same W2
  have f6 := F_elementData.other W2 (Or.inr (slot_ne (Or.inl (hw _ (List.mem_of_getElem? (i := 97) rfl))) (Or.inl (hw _ (List.mem_of_getElem? (i := 94) rfl))) (by decide) (t := (.array (.object "java/lang/Object"))) (t' := .int) (by decide) (by decide)))
  have K7 := (Keep.refl h0 [a1]).wr W2 (Or.inl (List.mem_of_getElem? (i := 0) rfl))
  refine OGo.go (U' := T2.setTop (mkF m 9 #[.val (.ref a1)] [])) st2 ?_
  refine OGo.ret0 X2 hx hret hlk (hb hby d_abl_9) ?_ (by decide) (by decide)
  rw [e2]
  exact ⟨rfl, N3, K7, f4, f5, f6⟩
theorem d_ali_0 : decode jdk_38_method_2_code 0 = .ok (.aload_n 0, 1) := by decide +kernel
theorem d_ali_1 : decode jdk_38_method_2_code 1 = .ok (.invokespecial 1, 3) := by decide +kernel
theorem d_ali_4 : decode jdk_38_method_2_code 4 = .ok (.aload_n 0, 1) := by decide +kernel
theorem d_ali_5 : decode jdk_38_method_2_code 5 = .ok (.getstatic 39, 3) := by decide +kernel
theorem d_ali_8 : decode jdk_38_method_2_code 8 = .ok (.putfield 9, 3) := by decide +kernel
theorem d_ali_11 : decode jdk_38_method_2_code 11 = .ok (.return_, 1) := by decide +kernel
theorem ef_ali (m : MethodId) (a1 : Addr) : entryFrame m #[(.ref a1)] 1 = mkF m 0 #[.val (.ref a1)] [] := by first | (simp [entryFrame, mkF, argsToLocals, Value.category]; done) | rfl
theorem pn_ali : plainFor (⟨"java/util/ArrayList", "<init>", "()V"⟩ : MethodName) = true := by first | exact plainFor_of_name (by first | (simp [plainName, overriddenIn]; done) | decide +kernel) | decide +kernel
set_option maxRecDepth 65536 in
set_option maxHeartbeats 40000000 in
theorem rm_ali (l : Launch) (Z : State) (a0 : Array Value) (hw : ∀ d ∈ tables_1, d.before a0 Z = true) (a1 : Addr)  (u_modCount : Value) (u_elementData : Value) (rd : Addr) (n0 : Nat) (h0 : Heap) (Z0 : n0 ≤ h0.size) (E0 : Exa Z h0 a1 "java/util/ArrayList") (F_modCount : Fld Z h0 a1 "java/util/AbstractList" "modCount" "I" u_modCount) (F_elementData : Fld Z h0 a1 "java/util/ArrayList" "elementData" "[Ljava/lang/Object;" u_elementData) (g0 : n0 ≤ a1) (SD : Sta Z h0 "java/util/ArrayList" "DEFAULTCAPACITY_EMPTY_ELEMENTDATA" "[Ljava/lang/Object;" (.ref rd)) :
    OMet l Z (⟨"java/util/ArrayList", "<init>", "()V"⟩ : MethodName) jdk_38_method_2_code 1 none [] ({ frames := 3, cells := 0, slots := 0, locals := 36 } : Room) #[(.ref a1)] h0 (fun v h L => v = none ∧ Fr n0 L ∧ Keep h0 h [a1] ∧ Exa Z h a1 "java/util/ArrayList" ∧ Fld Z h a1 "java/util/AbstractList" "modCount" "I" (.int (0 : Int32)) ∧ Fld Z h a1 "java/util/ArrayList" "elementData" "[Ljava/lang/Object;" (.ref rd)) := by
  refine OMet.of pn_ali ?_
  intro p e s m below meth c T0 X0 hx hby hml hown0 hnm hret hlk hZ e0
  have hown : s.vm.findClass "java/util/ArrayList" = some m.cls := hown0
  refine OGo.go (fun t k => castTop (ef_ali m a1) k) ?_
  refine OGo.go (U' := T0.setTop (mkF m 1 #[.val (.ref a1)] [(.ref a1)])) (fun _ k => XS.aloadN X0.here hx rfl (hb hby d_ali_0) rfl rfl k) ?_
  refine OGo.callI X0 hx hZ (y := (⟨"java/util/AbstractList", "<init>", "()V"⟩ : MethodName)) rfl hown (hw _ (List.mem_of_getElem? (i := 80) rfl)) (hw _ (List.mem_of_getElem? (i := 81) rfl)) (hw _ (List.mem_of_getElem? (i := 84) rfl)) (hw _ (List.mem_of_getElem? (i := 85) rfl)) (by decide) (g := (mkF m 1 #[.val (.ref a1)] [(.ref a1)])) (a := a1) (argsL := []) (rest := []) e0 (rm_abl l Z a0 hw a1 u_modCount u_elementData  n0 h0 Z0 E0 F_modCount F_elementData g0) rfl (by rw [hml]; rfl) (lenOf pd_18 rfl) rfl (W := 0) (by show 2 * 0 + _ ≤ _; exact Nat.le_of_eq rfl) (hb hby d_ali_1) (by decide) (by decide) (by decide) (by decide) ?_
  rintro _ T1 L1 X1 ⟨rfl, N1, K1, Ea1, F1_0, F1_1⟩
  have e1 : T1.heap = T1.heap := rfl
  have N2 := Fr.app (Fr.nil n0) N1
  have f3 := E0.keep K1
  have f4 := own_sta_keep SD K1 (allS (P := fun x => ∀ cell : Cell, _ → cell.vm.isStatics = false) (own_plain E0) all0)
  have K5 := (Keep.refl h0 [a1]).trans K1 (allS (P := fun x => x ∈ _ ∨ _ ≤ x) (Or.inl (List.mem_of_getElem? (i := 0) rfl)) all0)
  refine OGo.go (U' := T1.setTop (mkF m 5 #[.val (.ref a1)] [(.ref a1)])) (fun _ k => XS.aloadN X1.here hx rfl (hb hby d_ali_4) rfl rfl k) ?_
  obtain ⟨T6, X6, e6, st6⟩ := getS2 X1 hx hZ hown (host := "") (Or.inl (hw _ (List.mem_of_getElem? (i := 95) rfl))) Via.refl e1 f4 (g := (mkF m 5 #[.val (.ref a1)] [(.ref a1)])) rfl (hb hby d_ali_5)
  refine OGo.go (U' := T6.setTop (mkF m 8 #[.val (.ref a1)] [(.ref rd), (.ref a1)])) st6 ?_
  obtain ⟨T7, h7, X7, e7, W7, st7⟩ := putF X6 hx hZ hown (host := "") (Or.inl (hw _ (List.mem_of_getElem? (i := 96) rfl))) Via.refl e6 F1_1 Ea1 (Or.inl (hw _ (List.mem_of_getElem? (i := 97) rfl))) (hw _ (List.mem_of_getElem? (i := 75) rfl)) (ty := (.array (.object "java/lang/Object"))) (by decide) rfl rfl (g := (mkF m 8 #[.val (.ref a1)] [(.ref rd), (.ref a1)])) rfl rfl (hb hby d_ali_8)
  have N8 := Fr.snoc X7 N2 g0
  have f9 := Ea1.wr W7
  have f10 := f4.wr W7
  have f11 := F1_0.other W7 (Or.inr (slot_ne (Or.inl (hw _ (List.mem_of_getElem? (i := 94) rfl))) (Or.inl (hw _ (List.mem_of_getElem? (i := 97) rfl))) (by decide) (t := .int) (t' := (.array (.object "java/lang/Object"))) (by decide) (by decide)))
  have f12 := F1_1.same W7
  have K13 := K5.wr W7 (Or.inl (List.mem_of_getElem? (i := 0) rfl))
  refine OGo.go (U' := T7.setTop (mkF m 11 #[.val (.ref a1)] [])) st7 ?_
  refine OGo.ret0 X7 hx hret hlk (hb hby d_ali_11) ?_ (by decide) (by decide)
  rw [e7]
  exact ⟨rfl, N8, K13, f9, f11, f12⟩
theorem d_hmi_0 : decode jdk_69_method_7_code 0 = .ok (.aload_n 0, 1) := by decide +kernel
theorem d_hmi_1 : decode jdk_69_method_7_code 1 = .ok (.invokespecial 43, 3) := by decide +kernel
theorem d_hmi_4 : decode jdk_69_method_7_code 4 = .ok (.aload_n 0, 1) := by decide +kernel
theorem d_hmi_5 : decode jdk_69_method_7_code 5 = .ok (.ldc 92, 2) := by decide +kernel
theorem d_hmi_7 : decode jdk_69_method_7_code 7 = .ok (.putfield 81, 3) := by decide +kernel
theorem d_hmi_10 : decode jdk_69_method_7_code 10 = .ok (.return_, 1) := by decide +kernel
theorem ef_hmi (m : MethodId) (a1 : Addr) : entryFrame m #[(.ref a1)] 1 = mkF m 0 #[.val (.ref a1)] [] := by first | (simp [entryFrame, mkF, argsToLocals, Value.category]; done) | rfl
theorem pn_hmi : plainFor (⟨"java/util/HashMap", "<init>", "()V"⟩ : MethodName) = true := by first | exact plainFor_of_name (by first | (simp [plainName, overriddenIn]; done) | decide +kernel) | decide +kernel
set_option maxRecDepth 65536 in
set_option maxHeartbeats 40000000 in
theorem rm_hmi (l : Launch) (Z : State) (a0 : Array Value) (hw : ∀ d ∈ tables_1, d.before a0 Z = true) (a1 : Addr)  (u_loadFactor : Value)  (n0 : Nat) (h0 : Heap) (Z0 : n0 ≤ h0.size) (E0 : Exa Z h0 a1 "java/util/HashMap") (F_loadFactor : Fld Z h0 a1 "java/util/HashMap" "loadFactor" "F" u_loadFactor) (g0 : n0 ≤ a1)  :
    OMet l Z (⟨"java/util/HashMap", "<init>", "()V"⟩ : MethodName) jdk_69_method_7_code 1 none [] ({ frames := 2, cells := 0, slots := 0, locals := 24 } : Room) #[(.ref a1)] h0 (fun v h L => v = none ∧ Fr n0 L ∧ Keep h0 h [a1] ∧ Exa Z h a1 "java/util/HashMap" ∧ Fld Z h a1 "java/util/HashMap" "loadFactor" "F" (.float (1061158912 : UInt32))) := by
  refine OMet.of pn_hmi ?_
  intro p e s m below meth c T0 X0 hx hby hml hown0 hnm hret hlk hZ e0
  have hown : s.vm.findClass "java/util/HashMap" = some m.cls := hown0
  refine OGo.go (fun t k => castTop (ef_hmi m a1) k) ?_
  refine OGo.go (U' := T0.setTop (mkF m 1 #[.val (.ref a1)] [(.ref a1)])) (fun _ k => XS.aloadN X0.here hx rfl (hb hby d_hmi_0) rfl rfl k) ?_
  refine OGo.callI X0 hx hZ (y := (⟨"java/util/AbstractMap", "<init>", "()V"⟩ : MethodName)) rfl hown (hw _ (List.mem_of_getElem? (i := 106) rfl)) (hw _ (List.mem_of_getElem? (i := 107) rfl)) (hw _ (List.mem_of_getElem? (i := 110) rfl)) (hw _ (List.mem_of_getElem? (i := 111) rfl)) (by decide) (g := (mkF m 1 #[.val (.ref a1)] [(.ref a1)])) (a := a1) (argsL := []) (rest := []) e0 (rm_amp l Z a0 hw a1 h0) rfl (by rw [hml]; rfl) (lenOf pd_18 rfl) rfl (W := 0) (by show 2 * 0 + _ ≤ _; exact Nat.le_of_eq rfl) (hb hby d_hmi_1) (by decide) (by decide) (by decide) (by decide) ?_
  rintro _ T1 _ X1 ⟨rfl, e1, rfl⟩
  rw [List.append_nil] at X1
  show OGo p e below _ (T1.setTop (mkF m 4 #[.val (.ref a1)] []))
  refine OGo.go (U' := T1.setTop (mkF m 5 #[.val (.ref a1)] [(.ref a1)])) (fun _ k => XS.aloadN X1.here hx rfl (hb hby d_hmi_4) rfl rfl k) ?_
  refine OGo.go (U' := T1.setTop (mkF m 7 #[.val (.ref a1)] [(.float (1061158912 : UInt32)), (.ref a1)])) (fun _ k => X1.ldcFloatC hx hown (mvT hZ (hw _ (List.mem_of_getElem? (i := 113) rfl))) (g := (mkF m 5 #[.val (.ref a1)] [(.ref a1)])) rfl (hb hby d_hmi_5) _ k) ?_
  obtain ⟨T2, h2, X2, e2, W2, st2⟩ := putF X1 hx hZ hown (host := "") (Or.inl (hw _ (List.mem_of_getElem? (i := 114) rfl))) Via.refl e1 F_loadFactor E0 (Or.inr ⟨(hw _ (List.mem_of_getElem? (i := 115) rfl)), rfl, hnm⟩) (hw _ (List.mem_of_getElem? (i := 101) rfl)) (ty := .float) (by decide) rfl rfl (g := (mkF m 7 #[.val (.ref a1)] [(.float (1061158912 : UInt32)), (.ref a1)])) rfl rfl (hb hby d_hmi_7)
  have N3 := Fr.snoc X2 (Fr.nil n0) g0
  have f4 := E0.wr W2
  have f5 := F_loadFactor.same W2
  have K6 := (Keep.refl h0 [a1]).wr W2 (Or.inl (List.mem_of_getElem? (i := 0) rfl))
  refine OGo.go (U' := T2.setTop (mkF m 10 #[.val (.ref a1)] [])) st2 ?_
  refine OGo.ret0 X2 hx hret hlk (hb hby d_hmi_10) ?_ (by decide) (by decide)
  rw [e2]
  exact ⟨rfl, N3, K6, f4, f5⟩
theorem d_xwi_0 : decode prog_33_method_1_code 0 = .ok (.aload_n 0, 1) := by decide +kernel
theorem d_xwi_1 : decode prog_33_method_1_code 1 = .ok (.invokespecial 1, 3) := by decide +kernel
theorem d_xwi_4 : decode prog_33_method_1_code 4 = .ok (.aload_n 0, 1) := by decide +kernel
theorem d_xwi_5 : decode prog_33_method_1_code 5 = .ok (.new 7, 3) := by decide +kernel
theorem d_xwi_8 : decode prog_33_method_1_code 8 = .ok (.dup, 1) := by decide +kernel
theorem d_xwi_9 : decode prog_33_method_1_code 9 = .ok (.sipush 256, 3) := by decide +kernel
theorem d_xwi_12 : decode prog_33_method_1_code 12 = .ok (.invokespecial 9, 3) := by decide +kernel
theorem d_xwi_15 : decode prog_33_method_1_code 15 = .ok (.putfield 12, 3) := by decide +kernel
theorem d_xwi_18 : decode prog_33_method_1_code 18 = .ok (.aload_n 0, 1) := by decide +kernel
theorem d_xwi_19 : decode prog_33_method_1_code 19 = .ok (.bipush 16, 2) := by decide +kernel
theorem d_xwi_21 : decode prog_33_method_1_code 21 = .ok (.anewarray 18, 3) := by decide +kernel
theorem d_xwi_24 : decode prog_33_method_1_code 24 = .ok (.putfield 20, 3) := by decide +kernel
theorem d_xwi_27 : decode prog_33_method_1_code 27 = .ok (.aload_n 0, 1) := by decide +kernel
theorem d_xwi_28 : decode prog_33_method_1_code 28 = .ok (.bipush 16, 2) := by decide +kernel
theorem d_xwi_30 : decode prog_33_method_1_code 30 = .ok (.newarray .int, 2) := by decide +kernel
theorem d_xwi_32 : decode prog_33_method_1_code 32 = .ok (.putfield 24, 3) := by decide +kernel
theorem d_xwi_35 : decode prog_33_method_1_code 35 = .ok (.aload_n 0, 1) := by decide +kernel
theorem d_xwi_36 : decode prog_33_method_1_code 36 = .ok (.new 28, 3) := by decide +kernel
theorem d_xwi_39 : decode prog_33_method_1_code 39 = .ok (.dup, 1) := by decide +kernel
theorem d_xwi_40 : decode prog_33_method_1_code 40 = .ok (.invokespecial 30, 3) := by decide +kernel
theorem d_xwi_43 : decode prog_33_method_1_code 43 = .ok (.putfield 31, 3) := by decide +kernel
theorem d_xwi_46 : decode prog_33_method_1_code 46 = .ok (.aload_n 0, 1) := by decide +kernel
theorem d_xwi_47 : decode prog_33_method_1_code 47 = .ok (.new 35, 3) := by decide +kernel
theorem d_xwi_50 : decode prog_33_method_1_code 50 = .ok (.dup, 1) := by decide +kernel
theorem d_xwi_51 : decode prog_33_method_1_code 51 = .ok (.invokespecial 37, 3) := by decide +kernel
theorem d_xwi_54 : decode prog_33_method_1_code 54 = .ok (.putfield 38, 3) := by decide +kernel
theorem d_xwi_57 : decode prog_33_method_1_code 57 = .ok (.return_, 1) := by decide +kernel
theorem ef_xwi (m : MethodId) (xr : Addr) : entryFrame m #[(.ref xr)] 1 = mkF m 0 #[.val (.ref xr)] [] := by first | (simp [entryFrame, mkF, argsToLocals, Value.category]; done) | rfl
theorem pn_xwi : plainFor (⟨"com/example/loomwire/loomwire/soap/XmlWriter", "<init>", "()V"⟩ : MethodName) = true := by first | exact plainFor_of_name (by first | (simp [plainName, overriddenIn]; done) | decide +kernel) | decide +kernel
set_option maxRecDepth 65536 in
set_option maxHeartbeats 40000000 in
theorem rm_xwi (l : Launch) (Z : State) (a0 : Array Value) (hw : ∀ d ∈ tables_1, d.before a0 Z = true) (xr : Addr) (u_out u_open u_declarationCounts u_declarations u_bindings : Value) (cs : Int32) (rd : Addr) (n0 : Nat) (h0 : Heap) (Z0 : n0 ≤ h0.size) (Ex : Exa Z h0 xr "com/example/loomwire/loomwire/soap/XmlWriter") (F_out : Fld Z h0 xr "com/example/loomwire/loomwire/soap/XmlWriter" "out" "Ljava/lang/StringBuilder;" u_out) (F_open : Fld Z h0 xr "com/example/loomwire/loomwire/soap/XmlWriter" "open" "[Ljava/lang/String;" u_open) (F_declarationCounts : Fld Z h0 xr "com/example/loomwire/loomwire/soap/XmlWriter" "declarationCounts" "[I" u_declarationCounts) (F_declarations : Fld Z h0 xr "com/example/loomwire/loomwire/soap/XmlWriter" "declarations" "Ljava/util/List;" u_declarations) (F_bindings : Fld Z h0 xr "com/example/loomwire/loomwire/soap/XmlWriter" "bindings" "Ljava/util/Map;" u_bindings) (gx : n0 ≤ xr) (S0 : Sta Z h0 "java/lang/String" "COMPACT_STRINGS" "Z" (.int cs)) (hcs : ¬ cs = 0) (SD : Sta Z h0 "java/util/ArrayList" "DEFAULTCAPACITY_EMPTY_ELEMENTDATA" "[Ljava/lang/Object;" (.ref rd)) :
    OMet l Z (⟨"com/example/loomwire/loomwire/soap/XmlWriter", "<init>", "()V"⟩ : MethodName) prog_33_method_1_code 1 none [] ({ frames := 4, cells := 6, slots := 303, locals := 60 } : Room) #[(.ref xr)] h0 (fun v h L => v = none ∧ Fr n0 L ∧ Keep h0 h [xr] ∧ Exa Z h xr "com/example/loomwire/loomwire/soap/XmlWriter" ∧ ∃ (b d : Addr) (k : ClassId), Fld Z h xr "com/example/loomwire/loomwire/soap/XmlWriter" "out" "Ljava/lang/StringBuilder;" (.ref b) ∧ Exa Z h b "java/lang/StringBuilder" ∧ Fld Z h b "java/lang/AbstractStringBuilder" "value" "[B" (.ref d) ∧ Fld Z h b "java/lang/AbstractStringBuilder" "coder" "B" (.int 0) ∧ Fld Z h b "java/lang/AbstractStringBuilder" "count" "I" (.int 0) ∧ Arv Z h d k .byte 256 [] (.int 0) ∧ h0.size ≤ b ∧ h0.size ≤ d) := by
  refine OMet.of pn_xwi ?_
  intro p e s m below meth c T0 X0 hx hby hml hown0 hnm hret hlk hZ e0
  have hown : s.vm.findClass "com/example/loomwire/loomwire/soap/XmlWriter" = some m.cls := hown0
  refine OGo.go (fun t k => castTop (ef_xwi m xr) k) ?_
  refine OGo.go (U' := T0.setTop (mkF m 1 #[.val (.ref xr)] [(.ref xr)])) (fun _ k => XS.aloadN X0.here hx rfl (hb hby d_xwi_0) rfl rfl k) ?_
  obtain ⟨T1, X1, e1, st1⟩ := initO X0 hx hZ hown (hw _ (List.mem_of_getElem? (i := 46) rfl)) (hw _ (List.mem_of_getElem? (i := 16) rfl)) (hw _ (List.mem_of_getElem? (i := 17) rfl)) e0 (g := (mkF m 1 #[.val (.ref xr)] [(.ref xr)])) rfl (by rw [hml]; rfl) rfl (hb hby d_xwi_1) (by decide) (W := 0) (by show 2 * 0 + _ ≤ _; exact Nat.le_of_eq rfl) (by decide)
  refine OGo.go (U' := T1.setTop (mkF m 4 #[.val (.ref xr)] [])) st1 ?_
  refine OGo.go (U' := T1.setTop (mkF m 5 #[.val (.ref xr)] [(.ref xr)])) (fun _ k => XS.aloadN X1.here hx rfl (hb hby d_xwi_4) rfl rfl k) ?_
  obtain ⟨T2, h2, X2, e2, E2, A2, D2, -, st2⟩ := newO X1 hx hZ hown (hw _ (List.mem_of_getElem? (i := 47) rfl)) (hw _ (List.mem_of_getElem? (i := 48) rfl)) (hw _ (List.mem_of_getElem? (i := 49) rfl)) e1 (g := (mkF m 5 #[.val (.ref xr)] [(.ref xr)])) rfl (hb hby d_xwi_5) (by decide) (by decide)
  obtain ⟨b2, gb2⟩ : ∃ z, z = h0.size := ⟨_, rfl⟩
  rw [← gb2] at A2 D2 st2
  have ne3 : xr ≠ b2 := Nat.ne_of_lt (Nat.lt_of_lt_of_le Ex.lt (Nat.le_of_eq gb2.symm))
  have g4 : n0 ≤ b2 := Nat.le_trans Z0 (Nat.le_of_eq gb2.symm)
  have sz5 := Nat.le_trans (Keep.refl h0 [xr]).1 (Nat.le_of_eq gb2.symm)
  have f6 := S0.ext E2
  have f7 := SD.ext E2
  have f8 := Ex.ext E2
  have f9 := F_out.ext E2
  have f10 := F_open.ext E2
  have f11 := F_declarationCounts.ext E2
  have f12 := F_declarations.ext E2
  have f13 := F_bindings.ext E2
  have K14 := (Keep.refl h0 [xr]).ext E2
  have f15 : Fld Z h2 b2 "java/lang/AbstractStringBuilder" "value" "[B" .null := D2 (Or.inl (hw _ (List.mem_of_getElem? (i := 62) rfl))) (ty := (.array .byte)) (by decide)
  have f16 : Fld Z h2 b2 "java/lang/AbstractStringBuilder" "coder" "B" (.int (0 : Int32)) := D2 (Or.inl (hw _ (List.mem_of_getElem? (i := 64) rfl))) (ty := .byte) (by decide)
  have f17 : Fld Z h2 b2 "java/lang/AbstractStringBuilder" "count" "I" (.int (0 : Int32)) := D2 (Or.inl (hw _ (List.mem_of_getElem? (i := 145) rfl))) (ty := .int) (by decide)
  refine OGo.go (U' := T2.setTop (mkF m 8 #[.val (.ref xr)] [(.ref b2), (.ref xr)])) st2 ?_
  refine OGo.go (U' := T2.setTop (mkF m 9 #[.val (.ref xr)] [(.ref b2), (.ref b2), (.ref xr)])) (fun _ k => XS.dup X2.here hx rfl (hb hby d_xwi_8) rfl rfl k) ?_
  refine OGo.go (U' := T2.setTop (mkF m 12 #[.val (.ref xr)] [(.int (256 : Int32)), (.ref b2), (.ref b2), (.ref xr)])) (fun _ k => XS.sipush X2.here hx rfl (hb hby d_xwi_9) k) ?_
  refine OGo.callI X2 hx hZ (y := (⟨"java/lang/StringBuilder", "<init>", "(I)V"⟩ : MethodName)) rfl hown (hw _ (List.mem_of_getElem? (i := 50) rfl)) (hw _ (List.mem_of_getElem? (i := 51) rfl)) (hw _ (List.mem_of_getElem? (i := 49) rfl)) (hw _ (List.mem_of_getElem? (i := 52) rfl)) (by decide) (g := (mkF m 12 #[.val (.ref xr)] [(.int (256 : Int32)), (.ref b2), (.ref b2), (.ref xr)])) (a := b2) (argsL := [(.int (256 : Int32))]) (rest := [(.ref b2), (.ref xr)]) e2 (rm_sbi l Z a0 hw b2 .null (.int (0 : Int32)) cs n0 h2 (Nat.le_trans Z0 E2.1) A2 f15 f16 f17 g4 f6 hcs) rfl (by rw [hml]; rfl) (lenOf pd_4 rfl) rfl (W := 2) (by show 2 * 0 + _ ≤ _; exact Nat.le_of_eq rfl) (hb hby d_xwi_12) (by decide) (by decide) (by decide) (by decide) ?_
  rintro _ T18 L18 X18 ⟨rfl, N18, K18, Eb18, bc18, bn18, d18, k18, bv18, A18, gd18⟩
  have e18 : T18.heap = T18.heap := rfl
  have N19 := Fr.app (Fr.nil n0) N18
  have f20 := own_sta_keep f6 K18 (allS (P := fun x => ∀ cell : Cell, _ → cell.vm.isStatics = false) (own_plain A2) all0)
  have f21 := own_sta_keep f7 K18 (allS (P := fun x => ∀ cell : Cell, _ → cell.vm.isStatics = false) (own_plain A2) all0)
  have f22 := f8.keep K18
  have f23 := f9.keep K18 (ninS ne3 nin0)
  have f24 := f10.keep K18 (ninS ne3 nin0)
  have f25 := f11.keep K18 (ninS ne3 nin0)
  have f26 := f12.keep K18 (ninS ne3 nin0)
  have f27 := f13.keep K18 (ninS ne3 nin0)
  have f28 := A2.keep K18
  have K29 := K14.trans K18 (allS (P := fun x => x ∈ _ ∨ _ ≤ x) (Or.inr sz5) all0)
  have ne30 : xr ≠ d18 := Nat.ne_of_lt (Nat.lt_of_lt_of_le f8.lt gd18)
  have ne31 : b2 ≠ d18 := Nat.ne_of_lt (Nat.lt_of_lt_of_le A2.lt gd18)
  have sz18 := Nat.le_trans K14.1 gd18
  have gg18 : n0 ≤ d18 := Nat.le_trans (Nat.le_trans Z0 E2.1) gd18
  show OGo p e below _ (T18.setTop (mkF m 15 #[.val (.ref xr)] [(.ref b2), (.ref xr)]))
  obtain ⟨T32, h32, X32, e32, W32, st32⟩ := putF X18 hx hZ hown (host := "") (Or.inl (hw _ (List.mem_of_getElem? (i := 65) rfl))) Via.refl e18 f23 f22 (Or.inr ⟨(hw _ (List.mem_of_getElem? (i := 66) rfl)), rfl, hnm⟩) (hw _ (List.mem_of_getElem? (i := 41) rfl)) (ty := (.object "java/lang/StringBuilder")) (by decide) rfl rfl (g := (mkF m 15 #[.val (.ref xr)] [(.ref b2), (.ref xr)])) rfl rfl (hb hby d_xwi_15)
  have N33 := Fr.snoc X32 N19 gx
  have f34 := f20.wr W32
  have f35 := f21.wr W32
  have f36 := f22.wr W32
  have f37 := f23.same W32
  have f38 := f24.other W32 (Or.inr (slot_ne (Or.inl (hw _ (List.mem_of_getElem? (i := 70) rfl))) (Or.inr (hw _ (List.mem_of_getElem? (i := 66) rfl))) (by decide) (t := (.array (.object "java/lang/String"))) (t' := (.object "java/lang/StringBuilder")) (by decide) (by decide)))
  have f39 := f25.other W32 (Or.inr (slot_ne (Or.inl (hw _ (List.mem_of_getElem? (i := 73) rfl))) (Or.inr (hw _ (List.mem_of_getElem? (i := 66) rfl))) (by decide) (t := (.array .int)) (t' := (.object "java/lang/StringBuilder")) (by decide) (by decide)))
  have f40 := f26.other W32 (Or.inr (slot_ne (Or.inr (hw _ (List.mem_of_getElem? (i := 99) rfl))) (Or.inr (hw _ (List.mem_of_getElem? (i := 66) rfl))) (by decide) (t := (.object "java/util/List")) (t' := (.object "java/lang/StringBuilder")) (by decide) (by decide)))
  have f41 := f27.other W32 (Or.inr (slot_ne (Or.inr (hw _ (List.mem_of_getElem? (i := 117) rfl))) (Or.inr (hw _ (List.mem_of_getElem? (i := 66) rfl))) (by decide) (t := (.object "java/util/Map")) (t' := (.object "java/lang/StringBuilder")) (by decide) (by decide)))
  have f42 := Eb18.wr W32
  have f43 := bc18.other W32 (Or.inl (Ne.symm ne3))
  have f44 := bn18.other W32 (Or.inl (Ne.symm ne3))
  have f45 := bv18.other W32 (Or.inl (Ne.symm ne3))
  have f46 := A18.other W32 (Ne.symm ne30)
  have K47 := K29.wr W32 (Or.inl (List.mem_of_getElem? (i := 0) rfl))
  refine OGo.go (U' := T32.setTop (mkF m 18 #[.val (.ref xr)] [])) st32 ?_
  refine OGo.go (U' := T32.setTop (mkF m 19 #[.val (.ref xr)] [(.ref xr)])) (fun _ k => XS.aloadN X32.here hx rfl (hb hby d_xwi_18) rfl rfl k) ?_
  refine OGo.go (U' := T32.setTop (mkF m 21 #[.val (.ref xr)] [(.int (16 : Int32)), (.ref xr)])) (fun _ k => XS.bipush X32.here hx rfl (hb hby d_xwi_19) k) ?_
  obtain ⟨T48, h48, k48, X48, e48, E48, A48, O48, st48⟩ := newR X32 hx hZ hown (hw _ (List.mem_of_getElem? (i := 67) rfl)) (hw _ (List.mem_of_getElem? (i := 68) rfl)) e32 (g := (mkF m 21 #[.val (.ref xr)] [(.int (16 : Int32)), (.ref xr)])) rfl (hb hby d_xwi_21) rfl (n := 16) (by decide) (cap := 16) (by decide) (by decide) (by decide) (by decide)
  obtain ⟨b48, gb48⟩ : ∃ z, z = h32.size := ⟨_, rfl⟩
  rw [← gb48] at A48 st48
  have ne49 : xr ≠ b48 := Nat.ne_of_lt (Nat.lt_of_lt_of_le f36.lt (Nat.le_of_eq gb48.symm))
  have ne50 : b2 ≠ b48 := Nat.ne_of_lt (Nat.lt_of_lt_of_le f42.lt (Nat.le_of_eq gb48.symm))
  have ne51 : d18 ≠ b48 := Nat.ne_of_lt (Nat.lt_of_lt_of_le f46.lt (Nat.le_of_eq gb48.symm))
  have g52 : n0 ≤ b48 := Nat.le_trans (Nat.le_trans (Nat.le_trans (Nat.le_trans Z0 E2.1) K18.1) (Keep.of_wr W32).1) (Nat.le_of_eq gb48.symm)
  have sz53 := Nat.le_trans K47.1 (Nat.le_of_eq gb48.symm)
  have f54 := f34.ext E48
  have f55 := f35.ext E48
  have f56 := f36.ext E48
  have f57 := f37.ext E48
  have f58 := f38.ext E48
  have f59 := f39.ext E48
  have f60 := f40.ext E48
  have f61 := f41.ext E48
  have f62 := f42.ext E48
  have f63 := f43.ext E48
  have f64 := f44.ext E48
  have f65 := f45.ext E48
  have f66 := f46.ext E48
  have K67 := K47.ext E48
  have V48 : Arv Z h48 b48 k48 (.object "java/lang/String") 16 [.null, .null, .null, .null, .null, .null, .null, .null, .null, .null, .null, .null, .null, .null, .null, .null] .null := (Arv.new A48 (by decide)).pad (pad_rep [] _ 16)
  refine OGo.go (U' := T48.setTop (mkF m 24 #[.val (.ref xr)] [(.ref b48), (.ref xr)])) st48 ?_
  obtain ⟨T68, h68, X68, e68, W68, st68⟩ := putF X48 hx hZ hown (host := "") (Or.inl (hw _ (List.mem_of_getElem? (i := 69) rfl))) Via.refl e48 f58 f56 (Or.inl (hw _ (List.mem_of_getElem? (i := 70) rfl))) (hw _ (List.mem_of_getElem? (i := 41) rfl)) (ty := (.array (.object "java/lang/String"))) (by decide) rfl rfl (g := (mkF m 24 #[.val (.ref xr)] [(.ref b48), (.ref xr)])) rfl rfl (hb hby d_xwi_24)
  have N69 := Fr.snoc X68 N33 gx
  have f70 := f54.wr W68
  have f71 := f55.wr W68
  have f72 := f56.wr W68
  have f73 := f57.other W68 (Or.inr (slot_ne (Or.inr (hw _ (List.mem_of_getElem? (i := 66) rfl))) (Or.inl (hw _ (List.mem_of_getElem? (i := 70) rfl))) (by decide) (t := (.object "java/lang/StringBuilder")) (t' := (.array (.object "java/lang/String"))) (by decide) (by decide)))
  have f74 := f58.same W68
  have f75 := f59.other W68 (Or.inr (slot_ne (Or.inl (hw _ (List.mem_of_getElem? (i := 73) rfl))) (Or.inl (hw _ (List.mem_of_getElem? (i := 70) rfl))) (by decide) (t := (.array .int)) (t' := (.array (.object "java/lang/String"))) (by decide) (by decide)))
  have f76 := f60.other W68 (Or.inr (slot_ne (Or.inr (hw _ (List.mem_of_getElem? (i := 99) rfl))) (Or.inl (hw _ (List.mem_of_getElem? (i := 70) rfl))) (by decide) (t := (.object "java/util/List")) (t' := (.array (.object "java/lang/String"))) (by decide) (by decide)))
  have f77 := f61.other W68 (Or.inr (slot_ne (Or.inr (hw _ (List.mem_of_getElem? (i := 117) rfl))) (Or.inl (hw _ (List.mem_of_getElem? (i := 70) rfl))) (by decide) (t := (.object "java/util/Map")) (t' := (.array (.object "java/lang/String"))) (by decide) (by decide)))
  have f78 := f62.wr W68
  have f79 := f63.other W68 (Or.inl (Ne.symm ne3))
  have f80 := f64.other W68 (Or.inl (Ne.symm ne3))
  have f81 := f65.other W68 (Or.inl (Ne.symm ne3))
  have f82 := f66.other W68 (Ne.symm ne30)
  have f83 := V48.other W68 (Ne.symm ne49)
  have K84 := K67.wr W68 (Or.inl (List.mem_of_getElem? (i := 0) rfl))
  refine OGo.go (U' := T68.setTop (mkF m 27 #[.val (.ref xr)] [])) st68 ?_
  refine OGo.go (U' := T68.setTop (mkF m 28 #[.val (.ref xr)] [(.ref xr)])) (fun _ k => XS.aloadN X68.here hx rfl (hb hby d_xwi_27) rfl rfl k) ?_
  refine OGo.go (U' := T68.setTop (mkF m 30 #[.val (.ref xr)] [(.int (16 : Int32)), (.ref xr)])) (fun _ k => XS.bipush X68.here hx rfl (hb hby d_xwi_28) k) ?_
  obtain ⟨T85, h85, k85, X85, e85, E85, A85, st85⟩ := newP X68 hx hZ (hw _ (List.mem_of_getElem? (i := 71) rfl)) e68 (g := (mkF m 30 #[.val (.ref xr)] [(.int (16 : Int32)), (.ref xr)])) rfl (hb hby d_xwi_30) rfl (n := 16) (by decide) (cap := 16) (by decide) (by decide) (by decide) (by decide)
  obtain ⟨b85, gb85⟩ : ∃ z, z = h68.size := ⟨_, rfl⟩
  rw [← gb85] at A85 st85
  have ne86 : xr ≠ b85 := Nat.ne_of_lt (Nat.lt_of_lt_of_le f72.lt (Nat.le_of_eq gb85.symm))
  have ne87 : b2 ≠ b85 := Nat.ne_of_lt (Nat.lt_of_lt_of_le f78.lt (Nat.le_of_eq gb85.symm))
  have ne88 : d18 ≠ b85 := Nat.ne_of_lt (Nat.lt_of_lt_of_le f82.lt (Nat.le_of_eq gb85.symm))
  have g89 : n0 ≤ b85 := Nat.le_trans (Nat.le_trans (Nat.le_trans (Nat.le_trans (Nat.le_trans (Nat.le_trans Z0 E2.1) K18.1) (Keep.of_wr W32).1) E48.1) (Keep.of_wr W68).1) (Nat.le_of_eq gb85.symm)
  have sz90 := Nat.le_trans K84.1 (Nat.le_of_eq gb85.symm)
  have f91 := f70.ext E85
  have f92 := f71.ext E85
  have f93 := f72.ext E85
  have f94 := f73.ext E85
  have f95 := f74.ext E85
  have f96 := f75.ext E85
  have f97 := f76.ext E85
  have f98 := f77.ext E85
  have f99 := f78.ext E85
  have f100 := f79.ext E85
  have f101 := f80.ext E85
  have f102 := f81.ext E85
  have f103 := f82.ext E85
  have K104 := K84.ext E85
  have V85 : Arv Z h85 b85 k85 .int 16 [(.int (0 : Int32)), (.int (0 : Int32)), (.int (0 : Int32)), (.int (0 : Int32)), (.int (0 : Int32)), (.int (0 : Int32)), (.int (0 : Int32)), (.int (0 : Int32)), (.int (0 : Int32)), (.int (0 : Int32)), (.int (0 : Int32)), (.int (0 : Int32)), (.int (0 : Int32)), (.int (0 : Int32)), (.int (0 : Int32)), (.int (0 : Int32))] (.int (0 : Int32)) := (Arv.new A85 (by decide)).pad (pad_rep [] _ 16)
  refine OGo.go (U' := T85.setTop (mkF m 32 #[.val (.ref xr)] [(.ref b85), (.ref xr)])) st85 ?_
  obtain ⟨T105, h105, X105, e105, W105, st105⟩ := putF X85 hx hZ hown (host := "") (Or.inl (hw _ (List.mem_of_getElem? (i := 72) rfl))) Via.refl e85 f96 f93 (Or.inl (hw _ (List.mem_of_getElem? (i := 73) rfl))) (hw _ (List.mem_of_getElem? (i := 41) rfl)) (ty := (.array .int)) (by decide) rfl rfl (g := (mkF m 32 #[.val (.ref xr)] [(.ref b85), (.ref xr)])) rfl rfl (hb hby d_xwi_32)
  have N106 := Fr.snoc X105 N69 gx
  have f107 := f91.wr W105
  have f108 := f92.wr W105
  have f109 := f93.wr W105
  have f110 := f94.other W105 (Or.inr (slot_ne (Or.inr (hw _ (List.mem_of_getElem? (i := 66) rfl))) (Or.inl (hw _ (List.mem_of_getElem? (i := 73) rfl))) (by decide) (t := (.object "java/lang/StringBuilder")) (t' := (.array .int)) (by decide) (by decide)))
  have f111 := f95.other W105 (Or.inr (slot_ne (Or.inl (hw _ (List.mem_of_getElem? (i := 70) rfl))) (Or.inl (hw _ (List.mem_of_getElem? (i := 73) rfl))) (by decide) (t := (.array (.object "java/lang/String"))) (t' := (.array .int)) (by decide) (by decide)))
  have f112 := f96.same W105
  have f113 := f97.other W105 (Or.inr (slot_ne (Or.inr (hw _ (List.mem_of_getElem? (i := 99) rfl))) (Or.inl (hw _ (List.mem_of_getElem? (i := 73) rfl))) (by decide) (t := (.object "java/util/List")) (t' := (.array .int)) (by decide) (by decide)))
  have f114 := f98.other W105 (Or.inr (slot_ne (Or.inr (hw _ (List.mem_of_getElem? (i := 117) rfl))) (Or.inl (hw _ (List.mem_of_getElem? (i := 73) rfl))) (by decide) (t := (.object "java/util/Map")) (t' := (.array .int)) (by decide) (by decide)))
  have f115 := f99.wr W105
  have f116 := f100.other W105 (Or.inl (Ne.symm ne3))
  have f117 := f101.other W105 (Or.inl (Ne.symm ne3))
  have f118 := f102.other W105 (Or.inl (Ne.symm ne3))
  have f119 := f103.other W105 (Ne.symm ne30)
  have f120 := V85.other W105 (Ne.symm ne86)
  have K121 := K104.wr W105 (Or.inl (List.mem_of_getElem? (i := 0) rfl))
  refine OGo.go (U' := T105.setTop (mkF m 35 #[.val (.ref xr)] [])) st105 ?_
  refine OGo.go (U' := T105.setTop (mkF m 36 #[.val (.ref xr)] [(.ref xr)])) (fun _ k => XS.aloadN X105.here hx rfl (hb hby d_xwi_35) rfl rfl k) ?_
  obtain ⟨T122, h122, X122, e122, E122, A122, D122, -, st122⟩ := newO X105 hx hZ hown (hw _ (List.mem_of_getElem? (i := 74) rfl)) (hw _ (List.mem_of_getElem? (i := 75) rfl)) (hw _ (List.mem_of_getElem? (i := 76) rfl)) e105 (g := (mkF m 36 #[.val (.ref xr)] [(.ref xr)])) rfl (hb hby d_xwi_36) (by decide) (by decide)
  obtain ⟨b122, gb122⟩ : ∃ z, z = h105.size := ⟨_, rfl⟩
  rw [← gb122] at A122 D122 st122
  have ne123 : xr ≠ b122 := Nat.ne_of_lt (Nat.lt_of_lt_of_le f109.lt (Nat.le_of_eq gb122.symm))
  have ne124 : b2 ≠ b122 := Nat.ne_of_lt (Nat.lt_of_lt_of_le f115.lt (Nat.le_of_eq gb122.symm))
  have ne125 : d18 ≠ b122 := Nat.ne_of_lt (Nat.lt_of_lt_of_le f119.lt (Nat.le_of_eq gb122.symm))
  have g126 : n0 ≤ b122 := Nat.le_trans (Nat.le_trans (Nat.le_trans (Nat.le_trans (Nat.le_trans (Nat.le_trans (Nat.le_trans (Nat.le_trans Z0 E2.1) K18.1) (Keep.of_wr W32).1) E48.1) (Keep.of_wr W68).1) E85.1) (Keep.of_wr W105).1) (Nat.le_of_eq gb122.symm)
  have sz127 := Nat.le_trans K121.1 (Nat.le_of_eq gb122.symm)
  have f128 := f107.ext E122
  have f129 := f108.ext E122
  have f130 := f109.ext E122
  have f131 := f110.ext E122
  have f132 := f111.ext E122
  have f133 := f112.ext E122
  have f134 := f113.ext E122
  have f135 := f114.ext E122
  have f136 := f115.ext E122
  have f137 := f116.ext E122
  have f138 := f117.ext E122
  have f139 := f118.ext E122
  have f140 := f119.ext E122
  have K141 := K121.ext E122
  have f142 : Fld Z h122 b122 "java/util/AbstractList" "modCount" "I" (.int (0 : Int32)) := D122 (Or.inl (hw _ (List.mem_of_getElem? (i := 94) rfl))) (ty := .int) (by decide)
  have f143 : Fld Z h122 b122 "java/util/ArrayList" "elementData" "[Ljava/lang/Object;" .null := D122 (Or.inl (hw _ (List.mem_of_getElem? (i := 97) rfl))) (ty := (.array (.object "java/lang/Object"))) (by decide)
  refine OGo.go (U' := T122.setTop (mkF m 39 #[.val (.ref xr)] [(.ref b122), (.ref xr)])) st122 ?_
  refine OGo.go (U' := T122.setTop (mkF m 40 #[.val (.ref xr)] [(.ref b122), (.ref b122), (.ref xr)])) (fun _ k => XS.dup X122.here hx rfl (hb hby d_xwi_39) rfl rfl k) ?_
  refine OGo.callI X122 hx hZ (y := (⟨"java/util/ArrayList", "<init>", "()V"⟩ : MethodName)) rfl hown (hw _ (List.mem_of_getElem? (i := 77) rfl)) (hw _ (List.mem_of_getElem? (i := 78) rfl)) (hw _ (List.mem_of_getElem? (i := 76) rfl)) (hw _ (List.mem_of_getElem? (i := 79) rfl)) (by decide) (g := (mkF m 40 #[.val (.ref xr)] [(.ref b122), (.ref b122), (.ref xr)])) (a := b122) (argsL := []) (rest := [(.ref b122), (.ref xr)]) e122 (rm_ali l Z a0 hw b122 (.int (0 : Int32)) .null rd n0 h122 (Nat.le_trans (Nat.le_trans (Nat.le_trans (Nat.le_trans (Nat.le_trans (Nat.le_trans (Nat.le_trans (Nat.le_trans Z0 E2.1) K18.1) (Keep.of_wr W32).1) E48.1) (Keep.of_wr W68).1) E85.1) (Keep.of_wr W105).1) E122.1) A122 f142 f143 g126 f129) rfl (by rw [hml]; rfl) (lenOf pd_18 rfl) rfl (W := 2) (by show 2 * 0 + _ ≤ _; exact Nat.le_of_eq rfl) (hb hby d_xwi_40) (by decide) (by decide) (by decide) (by decide) ?_
  rintro _ T144 L144 X144 ⟨rfl, N144, K144, Ea144, F144_0, F144_1⟩
  have e144 : T144.heap = T144.heap := rfl
  have N145 := Fr.app N106 N144
  have f146 := own_sta_keep f128 K144 (allS (P := fun x => ∀ cell : Cell, _ → cell.vm.isStatics = false) (own_plain A122) all0)
  have f147 := own_sta_keep f129 K144 (allS (P := fun x => ∀ cell : Cell, _ → cell.vm.isStatics = false) (own_plain A122) all0)
  have f148 := f130.keep K144
  have f149 := f131.keep K144 (ninS ne123 nin0)
  have f150 := f132.keep K144 (ninS ne123 nin0)
  have f151 := f133.keep K144 (ninS ne123 nin0)
  have f152 := f134.keep K144 (ninS ne123 nin0)
  have f153 := f135.keep K144 (ninS ne123 nin0)
  have f154 := f136.keep K144
  have f155 := f137.keep K144 (ninS ne124 nin0)
  have f156 := f138.keep K144 (ninS ne124 nin0)
  have f157 := f139.keep K144 (ninS ne124 nin0)
  have f158 := f140.keep K144 (ninS ne125 nin0)
  have f159 := A122.keep K144
  have K160 := K141.trans K144 (allS (P := fun x => x ∈ _ ∨ _ ≤ x) (Or.inr sz127) all0)
  obtain ⟨T161, h161, X161, e161, W161, st161⟩ := putF X144 hx hZ hown (host := "") (Or.inl (hw _ (List.mem_of_getElem? (i := 98) rfl))) Via.refl e144 f152 f148 (Or.inr ⟨(hw _ (List.mem_of_getElem? (i := 99) rfl)), rfl, hnm⟩) (hw _ (List.mem_of_getElem? (i := 41) rfl)) (ty := (.object "java/util/List")) (by decide) rfl rfl (g := (mkF m 43 #[.val (.ref xr)] [(.ref b122), (.ref xr)])) rfl rfl (hb hby d_xwi_43)
  have N162 := Fr.snoc X161 N145 gx
  have f163 := f146.wr W161
  have f164 := f147.wr W161
  have f165 := f148.wr W161
  have f166 := f149.other W161 (Or.inr (slot_ne (Or.inr (hw _ (List.mem_of_getElem? (i := 66) rfl))) (Or.inr (hw _ (List.mem_of_getElem? (i := 99) rfl))) (by decide) (t := (.object "java/lang/StringBuilder")) (t' := (.object "java/util/List")) (by decide) (by decide)))
  have f167 := f150.other W161 (Or.inr (slot_ne (Or.inl (hw _ (List.mem_of_getElem? (i := 70) rfl))) (Or.inr (hw _ (List.mem_of_getElem? (i := 99) rfl))) (by decide) (t := (.array (.object "java/lang/String"))) (t' := (.object "java/util/List")) (by decide) (by decide)))
  have f168 := f151.other W161 (Or.inr (slot_ne (Or.inl (hw _ (List.mem_of_getElem? (i := 73) rfl))) (Or.inr (hw _ (List.mem_of_getElem? (i := 99) rfl))) (by decide) (t := (.array .int)) (t' := (.object "java/util/List")) (by decide) (by decide)))
  have f169 := f152.same W161
  have f170 := f153.other W161 (Or.inr (slot_ne (Or.inr (hw _ (List.mem_of_getElem? (i := 117) rfl))) (Or.inr (hw _ (List.mem_of_getElem? (i := 99) rfl))) (by decide) (t := (.object "java/util/Map")) (t' := (.object "java/util/List")) (by decide) (by decide)))
  have f171 := f154.wr W161
  have f172 := f155.other W161 (Or.inl (Ne.symm ne3))
  have f173 := f156.other W161 (Or.inl (Ne.symm ne3))
  have f174 := f157.other W161 (Or.inl (Ne.symm ne3))
  have f175 := f158.other W161 (Ne.symm ne30)
  have f176 := Ea144.wr W161
  have f177 := F144_0.other W161 (Or.inl (Ne.symm ne123))
  have f178 := F144_1.other W161 (Or.inl (Ne.symm ne123))
  have K179 := K160.wr W161 (Or.inl (List.mem_of_getElem? (i := 0) rfl))
  refine OGo.go (U' := T161.setTop (mkF m 46 #[.val (.ref xr)] [])) st161 ?_
  refine OGo.go (U' := T161.setTop (mkF m 47 #[.val (.ref xr)] [(.ref xr)])) (fun _ k => XS.aloadN X161.here hx rfl (hb hby d_xwi_46) rfl rfl k) ?_
  obtain ⟨T180, h180, X180, e180, E180, A180, D180, -, st180⟩ := newO X161 hx hZ hown (hw _ (List.mem_of_getElem? (i := 100) rfl)) (hw _ (List.mem_of_getElem? (i := 101) rfl)) (hw _ (List.mem_of_getElem? (i := 102) rfl)) e161 (g := (mkF m 47 #[.val (.ref xr)] [(.ref xr)])) rfl (hb hby d_xwi_47) (by decide) (by decide)
  obtain ⟨b180, gb180⟩ : ∃ z, z = h161.size := ⟨_, rfl⟩
  rw [← gb180] at A180 D180 st180
  have ne181 : xr ≠ b180 := Nat.ne_of_lt (Nat.lt_of_lt_of_le f165.lt (Nat.le_of_eq gb180.symm))
  have ne182 : b2 ≠ b180 := Nat.ne_of_lt (Nat.lt_of_lt_of_le f171.lt (Nat.le_of_eq gb180.symm))
  have ne183 : d18 ≠ b180 := Nat.ne_of_lt (Nat.lt_of_lt_of_le f175.lt (Nat.le_of_eq gb180.symm))
  have g184 : n0 ≤ b180 := Nat.le_trans (Nat.le_trans (Nat.le_trans (Nat.le_trans (Nat.le_trans (Nat.le_trans (Nat.le_trans (Nat.le_trans (Nat.le_trans (Nat.le_trans (Nat.le_trans Z0 E2.1) K18.1) (Keep.of_wr W32).1) E48.1) (Keep.of_wr W68).1) E85.1) (Keep.of_wr W105).1) E122.1) K144.1) (Keep.of_wr W161).1) (Nat.le_of_eq gb180.symm)
  have sz185 := Nat.le_trans K179.1 (Nat.le_of_eq gb180.symm)
  have f186 := f163.ext E180
  have f187 := f164.ext E180
  have f188 := f165.ext E180
  have f189 := f166.ext E180
  have f190 := f167.ext E180
  have f191 := f168.ext E180
  have f192 := f169.ext E180
  have f193 := f170.ext E180
  have f194 := f171.ext E180
  have f195 := f172.ext E180
  have f196 := f173.ext E180
  have f197 := f174.ext E180
  have f198 := f175.ext E180
  have K199 := K179.ext E180
  have f200 : Fld Z h180 b180 "java/util/HashMap" "loadFactor" "F" (.float (0 : UInt32)) := D180 (Or.inr (hw _ (List.mem_of_getElem? (i := 115) rfl))) (ty := .float) (by decide)
  refine OGo.go (U' := T180.setTop (mkF m 50 #[.val (.ref xr)] [(.ref b180), (.ref xr)])) st180 ?_
  refine OGo.go (U' := T180.setTop (mkF m 51 #[.val (.ref xr)] [(.ref b180), (.ref b180), (.ref xr)])) (fun _ k => XS.dup X180.here hx rfl (hb hby d_xwi_50) rfl rfl k) ?_
  refine OGo.callI X180 hx hZ (y := (⟨"java/util/HashMap", "<init>", "()V"⟩ : MethodName)) rfl hown (hw _ (List.mem_of_getElem? (i := 103) rfl)) (hw _ (List.mem_of_getElem? (i := 104) rfl)) (hw _ (List.mem_of_getElem? (i := 102) rfl)) (hw _ (List.mem_of_getElem? (i := 105) rfl)) (by decide) (g := (mkF m 51 #[.val (.ref xr)] [(.ref b180), (.ref b180), (.ref xr)])) (a := b180) (argsL := []) (rest := [(.ref b180), (.ref xr)]) e180 (rm_hmi l Z a0 hw b180 (.float (0 : UInt32))  n0 h180 (Nat.le_trans (Nat.le_trans (Nat.le_trans (Nat.le_trans (Nat.le_trans (Nat.le_trans (Nat.le_trans (Nat.le_trans (Nat.le_trans (Nat.le_trans (Nat.le_trans Z0 E2.1) K18.1) (Keep.of_wr W32).1) E48.1) (Keep.of_wr W68).1) E85.1) (Keep.of_wr W105).1) E122.1) K144.1) (Keep.of_wr W161).1) E180.1) A180 f200 g184) rfl (by rw [hml]; rfl) (lenOf pd_18 rfl) rfl (W := 2) (by show 2 * 0 + _ ≤ _; exact Nat.le_of_eq rfl) (hb hby d_xwi_51) (by decide) (by decide) (by decide) (by decide) ?_
  rintro _ T201 L201 X201 ⟨rfl, N201, K201, Ea201, F201_0⟩
  have e201 : T201.heap = T201.heap := rfl
  have N202 := Fr.app N162 N201
  have f203 := own_sta_keep f186 K201 (allS (P := fun x => ∀ cell : Cell, _ → cell.vm.isStatics = false) (own_plain A180) all0)
  have f204 := own_sta_keep f187 K201 (allS (P := fun x => ∀ cell : Cell, _ → cell.vm.isStatics = false) (own_plain A180) all0)
  have f205 := f188.keep K201
  have f206 := f189.keep K201 (ninS ne181 nin0)
  have f207 := f190.keep K201 (ninS ne181 nin0)
  have f208 := f191.keep K201 (ninS ne181 nin0)
  have f209 := f192.keep K201 (ninS ne181 nin0)
  have f210 := f193.keep K201 (ninS ne181 nin0)
  have f211 := f194.keep K201
  have f212 := f195.keep K201 (ninS ne182 nin0)
  have f213 := f196.keep K201 (ninS ne182 nin0)
  have f214 := f197.keep K201 (ninS ne182 nin0)
  have f215 := f198.keep K201 (ninS ne183 nin0)
  have f216 := A180.keep K201
  have K217 := K199.trans K201 (allS (P := fun x => x ∈ _ ∨ _ ≤ x) (Or.inr sz185) all0)
  obtain ⟨T218, h218, X218, e218, W218, st218⟩ := putF X201 hx hZ hown (host := "") (Or.inl (hw _ (List.mem_of_getElem? (i := 116) rfl))) Via.refl e201 f210 f205 (Or.inr ⟨(hw _ (List.mem_of_getElem? (i := 117) rfl)), rfl, hnm⟩) (hw _ (List.mem_of_getElem? (i := 41) rfl)) (ty := (.object "java/util/Map")) (by decide) rfl rfl (g := (mkF m 54 #[.val (.ref xr)] [(.ref b180), (.ref xr)])) rfl rfl (hb hby d_xwi_54)
  have N219 := Fr.snoc X218 N202 gx
  have f220 := f203.wr W218
  have f221 := f204.wr W218
  have f222 := f205.wr W218
  have f223 := f206.other W218 (Or.inr (slot_ne (Or.inr (hw _ (List.mem_of_getElem? (i := 66) rfl))) (Or.inr (hw _ (List.mem_of_getElem? (i := 117) rfl))) (by decide) (t := (.object "java/lang/StringBuilder")) (t' := (.object "java/util/Map")) (by decide) (by decide)))
  have f224 := f207.other W218 (Or.inr (slot_ne (Or.inl (hw _ (List.mem_of_getElem? (i := 70) rfl))) (Or.inr (hw _ (List.mem_of_getElem? (i := 117) rfl))) (by decide) (t := (.array (.object "java/lang/String"))) (t' := (.object "java/util/Map")) (by decide) (by decide)))
  have f225 := f208.other W218 (Or.inr (slot_ne (Or.inl (hw _ (List.mem_of_getElem? (i := 73) rfl))) (Or.inr (hw _ (List.mem_of_getElem? (i := 117) rfl))) (by decide) (t := (.array .int)) (t' := (.object "java/util/Map")) (by decide) (by decide)))
  have f226 := f209.other W218 (Or.inr (slot_ne (Or.inr (hw _ (List.mem_of_getElem? (i := 99) rfl))) (Or.inr (hw _ (List.mem_of_getElem? (i := 117) rfl))) (by decide) (t := (.object "java/util/List")) (t' := (.object "java/util/Map")) (by decide) (by decide)))
  have f227 := f210.same W218
  have f228 := f211.wr W218
  have f229 := f212.other W218 (Or.inl (Ne.symm ne3))
  have f230 := f213.other W218 (Or.inl (Ne.symm ne3))
  have f231 := f214.other W218 (Or.inl (Ne.symm ne3))
  have f232 := f215.other W218 (Ne.symm ne30)
  have f233 := Ea201.wr W218
  have f234 := F201_0.other W218 (Or.inl (Ne.symm ne181))
  have K235 := K217.wr W218 (Or.inl (List.mem_of_getElem? (i := 0) rfl))
  refine OGo.go (U' := T218.setTop (mkF m 57 #[.val (.ref xr)] [])) st218 ?_
  refine OGo.ret0 X218 hx hret hlk (hb hby d_xwi_57) ?_ (by decide) (by decide)
  rw [e218]
  exact ⟨rfl, N219, K235, f222, b2, d18, k18, f223, f228, f231, f229, f230, f232, sz5, sz18⟩
def B8 (u : Int32) : Int32 := nar .byte u.toInt8.toInt32
def BV (u : Int32) : Value := .int (B8 u)
theorem own_take {ul : List Int32} {i : Nat} {u : Int32} (hu : ul[i]? = some u) : (ul.take (i + 1)).map BV = (ul.take i).map BV ++ [.int (nar .byte u.toInt8.toInt32)] := by
  rw [List.take_add_one, hu, List.map_append]; rfl
theorem own_gd {ul : List Int32} {i : Nat} {u : Int32} (hu : ul[i]? = some u) : (ul.map Value.int).getD i (.int 0) = .int u := by
  rw [List.getD_eq_getElem?_getD, List.getElem?_map, hu]; rfl
theorem own_tl {ul : List Int32} {i : Nat} (hi : i ≤ ul.length) : ((ul.take i).map BV).length = i := by
  rw [List.length_map, List.length_take]; omega
theorem own_nz {q : Nat} (h1 : 1 ≤ q) (h2 : q ≤ 4000) : ¬ NI q = 0 := fun r => by
  have := congrArg Int32.toInt r
  rw [ni_toInt (by omega), Int32.toInt_zero] at this; omega
theorem d_cm5_0 : decode jdk_52_method_21_code 0 = .ok (.iconst 0, 1) := by decide +kernel
theorem d_cm5_1 : decode jdk_52_method_21_code 1 = .ok (.istore 5, 2) := by decide +kernel
theorem d_cm5_3 : decode jdk_52_method_21_code 3 = .ok (.iload 5, 2) := by decide +kernel
theorem d_cm5_5 : decode jdk_52_method_21_code 5 = .ok (.iload 4, 2) := by decide +kernel
theorem d_cm5_7 : decode jdk_52_method_21_code 7 = .ok (.if_icmp .ge 37, 3) := by decide +kernel
theorem d_cm5_10 : decode jdk_52_method_21_code 10 = .ok (.aload_n 0, 1) := by decide +kernel
theorem d_cm5_11 : decode jdk_52_method_21_code 11 = .ok (.iload_n 1, 1) := by decide +kernel
theorem d_cm5_12 : decode jdk_52_method_21_code 12 = .ok (.caload, 1) := by decide +kernel
theorem d_cm5_13 : decode jdk_52_method_21_code 13 = .ok (.istore 6, 2) := by decide +kernel
theorem d_cm5_15 : decode jdk_52_method_21_code 15 = .ok (.iload 6, 2) := by decide +kernel
theorem d_cm5_17 : decode jdk_52_method_21_code 17 = .ok (.sipush 255, 3) := by decide +kernel
theorem d_cm5_20 : decode jdk_52_method_21_code 20 = .ok (.if_icmp .le 6, 3) := by decide +kernel
theorem d_cm5_26 : decode jdk_52_method_21_code 26 = .ok (.aload_n 2, 1) := by decide +kernel
theorem d_cm5_27 : decode jdk_52_method_21_code 27 = .ok (.iload_n 3, 1) := by decide +kernel
theorem d_cm5_28 : decode jdk_52_method_21_code 28 = .ok (.iload 6, 2) := by decide +kernel
theorem d_cm5_30 : decode jdk_52_method_21_code 30 = .ok (.i2b, 1) := by decide +kernel
theorem d_cm5_31 : decode jdk_52_method_21_code 31 = .ok (.bastore, 1) := by decide +kernel
theorem d_cm5_32 : decode jdk_52_method_21_code 32 = .ok (.iinc 1 1, 3) := by decide +kernel
theorem d_cm5_35 : decode jdk_52_method_21_code 35 = .ok (.iinc 3 1, 3) := by decide +kernel
theorem d_cm5_38 : decode jdk_52_method_21_code 38 = .ok (.iinc 5 1, 3) := by decide +kernel
theorem d_cm5_41 : decode jdk_52_method_21_code 41 = .ok (.goto (-38), 3) := by decide +kernel
theorem d_cm5_44 : decode jdk_52_method_21_code 44 = .ok (.iload 4, 2) := by decide +kernel
theorem d_cm5_46 : decode jdk_52_method_21_code 46 = .ok (.ireturn, 1) := by decide +kernel
theorem ef_cm5 (m : MethodId) (cr dr : Addr) (ul : List Int32) : entryFrame m #[(.ref cr), (.int (0 : Int32)), (.ref dr), (.int (0 : Int32)), (.int (NI ul.length))] 7 = mkF m 0 #[.val (.ref cr), .val (.int (0 : Int32)), .val (.ref dr), .val (.int (0 : Int32)), .val (.int (NI ul.length)), .unset, .unset] [] := by first | (simp [entryFrame, mkF, argsToLocals, Value.category]; done) | rfl
theorem pn_cm5 : plainFor (⟨"java/lang/StringUTF16", "compress", "([CI[BII)I"⟩ : MethodName) = true := by first | exact plainFor_of_name (by first | (simp [plainName, overriddenIn]; done) | decide +kernel) | decide +kernel
set_option maxRecDepth 65536 in
set_option maxHeartbeats 40000000 in
theorem rm_cm5 (l : Launch) (Z : State) (a0 : Array Value) (hw : ∀ d ∈ tables_1, d.before a0 Z = true) (cr dr : Addr) (ul : List Int32) (kc kd : ClassId) (n0 : Nat) (h0 : Heap) (Z0 : n0 ≤ h0.size) (Ac : Arv Z h0 cr kc .char (NI ul.length) (ul.map Value.int) (.int 0)) (hul : ∀ u ∈ ul, ¬ (255 : Int32) < u) (hu1 : 1 ≤ ul.length) (hu2 : ul.length ≤ 24) (Ad : Arv Z h0 dr kd .byte (NI ul.length) [] (.int 0)) (hne : cr ≠ dr) (gd : n0 ≤ dr) :
    OMet l Z (⟨"java/lang/StringUTF16", "compress", "([CI[BII)I"⟩ : MethodName) jdk_52_method_21_code 7 (some .int) [] ({ frames := 0, cells := 0, slots := 0, locals := 0 } : Room) #[(.ref cr), (.int (0 : Int32)), (.ref dr), (.int (0 : Int32)), (.int (NI ul.length))] h0 (fun v h L => v = some (.int (NI ul.length)) ∧ Fr n0 L ∧ Keep h0 h [dr] ∧ Arv Z h dr kd .byte (NI ul.length) (ul.map BV) (.int 0)) := by
  refine OMet.of pn_cm5 ?_
  intro p e s m below meth c T0 X0 hx hby hml hown0 hnm hret hlk hZ e0
  have hown : s.vm.findClass "java/lang/StringUTF16" = some m.cls := hown0
  refine OGo.go (fun t k => castTop (ef_cm5 m cr dr ul) k) ?_
  refine OGo.go (U' := T0.setTop (mkF m 1 #[.val (.ref cr), .val (.int (0 : Int32)), .val (.ref dr), .val (.int (0 : Int32)), .val (.int (NI ul.length)), .unset, .unset] [(.int (0 : Int32))])) (fun _ k => XS.iconst X0.here hx rfl (hb hby d_cm5_0) k) ?_
  refine OGo.go (U' := T0.setTop (mkF m 3 #[.val (.ref cr), .val (.int (0 : Int32)), .val (.ref dr), .val (.int (0 : Int32)), .val (.int (NI ul.length)), .val (.int (0 : Int32)), .unset] [])) (fun _ k => XS.istore X0.here hx rfl (hb hby d_cm5_1) rfl (l' := #[.val (.ref cr), .val (.int (0 : Int32)), .val (.ref dr), .val (.int (0 : Int32)), .val (.int (NI ul.length)), .val (.int (0 : Int32)), .unset]) rfl k) ?_
  have loop : ∀ (k i : Nat) (Tl : State) (hl : Heap) (Ll : List Loc) (sl : Slot), Stand p l e ({ frames := 0, cells := 0, slots := 0, locals := 0 } : Room) s m #[(.ref cr), (.int (0 : Int32)), (.ref dr), (.int (0 : Int32)), (.int (NI ul.length))] below meth c Tl Ll 0 0 → Tl.heap = hl → Fr n0 Ll → Keep h0 hl [dr] → Arv Z hl cr kc .char (NI ul.length) (ul.map Value.int) (.int 0) → Arv Z hl dr kd .byte (NI ul.length) ((ul.take i).map BV) (.int 0) → (sl = .unset ∨ ∃ ww : Int32, sl = .val (.int ww)) → i + k = ul.length → OGo p e below (OEnd s 0 0 (fun v h L => v = some (.int (NI ul.length)) ∧ Fr n0 L ∧ Keep h0 h [dr] ∧ Arv Z h dr kd .byte (NI ul.length) (ul.map BV) (.int 0))) (Tl.setTop (mkF m 3 #[.val (.ref cr), .val (.int (NI i)), .val (.ref dr), .val (.int (NI i)), .val (.int (NI ul.length)), .val (.int (NI i)), sl] [])) := by
    intro k
    induction k with
    | zero =>
      intro i Tl hl Ll sl Xl el Nl Kl Al Bl hsl hi
      obtain rfl : i = ul.length := by omega
      rw [List.take_length] at Bl
      rcases hsl with rfl | ⟨ww, rfl⟩
      · skip
        refine OGo.go (U' := Tl.setTop (mkF m 5 #[.val (.ref cr), .val (.int (NI ul.length)), .val (.ref dr), .val (.int (NI ul.length)), .val (.int (NI ul.length)), .val (.int (NI ul.length)), .unset] [(.int (NI ul.length))])) (fun _ k => XS.iload Xl.here hx rfl (hb hby d_cm5_3) rfl k) ?_
        refine OGo.go (U' := Tl.setTop (mkF m 7 #[.val (.ref cr), .val (.int (NI ul.length)), .val (.ref dr), .val (.int (NI ul.length)), .val (.int (NI ul.length)), .val (.int (NI ul.length)), .unset] [(.int (NI ul.length)), (.int (NI ul.length))])) (fun _ k => XS.iload Xl.here hx rfl (hb hby d_cm5_5) rfl k) ?_
        refine OGo.go (U' := Tl.setTop (mkF m 44 #[.val (.ref cr), .val (.int (NI ul.length)), .val (.ref dr), .val (.int (NI ul.length)), .val (.int (NI ul.length)), .val (.int (NI ul.length)), .unset] [])) (fun _ k => XS.icmpYes Xl.here hx rfl (pc0 := 7) (pc' := 44) rfl (hb hby d_cm5_7) rfl (flt (fun q => absurd ((ni_lt (by omega) (by omega)).mp q) (by omega))).2.1 (by decide) (by decide) k) ?_
        refine OGo.go (U' := Tl.setTop (mkF m 46 #[.val (.ref cr), .val (.int (NI ul.length)), .val (.ref dr), .val (.int (NI ul.length)), .val (.int (NI ul.length)), .val (.int (NI ul.length)), .unset] [(.int (NI ul.length))])) (fun _ k => XS.iload Xl.here hx rfl (hb hby d_cm5_44) rfl k) ?_
        refine OGo.retI Xl hx hret hlk (hb hby d_cm5_46) ?_ (by decide) (by decide)
        rw [el]
        exact ⟨rfl, Nl, Kl, Bl⟩
      · skip
        refine OGo.go (U' := Tl.setTop (mkF m 5 #[.val (.ref cr), .val (.int (NI ul.length)), .val (.ref dr), .val (.int (NI ul.length)), .val (.int (NI ul.length)), .val (.int (NI ul.length)), .val (.int ww)] [(.int (NI ul.length))])) (fun _ k => XS.iload Xl.here hx rfl (hb hby d_cm5_3) rfl k) ?_
        refine OGo.go (U' := Tl.setTop (mkF m 7 #[.val (.ref cr), .val (.int (NI ul.length)), .val (.ref dr), .val (.int (NI ul.length)), .val (.int (NI ul.length)), .val (.int (NI ul.length)), .val (.int ww)] [(.int (NI ul.length)), (.int (NI ul.length))])) (fun _ k => XS.iload Xl.here hx rfl (hb hby d_cm5_5) rfl k) ?_
        refine OGo.go (U' := Tl.setTop (mkF m 44 #[.val (.ref cr), .val (.int (NI ul.length)), .val (.ref dr), .val (.int (NI ul.length)), .val (.int (NI ul.length)), .val (.int (NI ul.length)), .val (.int ww)] [])) (fun _ k => XS.icmpYes Xl.here hx rfl (pc0 := 7) (pc' := 44) rfl (hb hby d_cm5_7) rfl (flt (fun q => absurd ((ni_lt (by omega) (by omega)).mp q) (by omega))).2.1 (by decide) (by decide) k) ?_
        refine OGo.go (U' := Tl.setTop (mkF m 46 #[.val (.ref cr), .val (.int (NI ul.length)), .val (.ref dr), .val (.int (NI ul.length)), .val (.int (NI ul.length)), .val (.int (NI ul.length)), .val (.int ww)] [(.int (NI ul.length))])) (fun _ k => XS.iload Xl.here hx rfl (hb hby d_cm5_44) rfl k) ?_
        refine OGo.retI Xl hx hret hlk (hb hby d_cm5_46) ?_ (by decide) (by decide)
        rw [el]
        exact ⟨rfl, Nl, Kl, Bl⟩
    | succ k ih =>
      intro i Tl hl Ll sl Xl el Nl Kl Al Bl hsl hi
      obtain ⟨u, hu⟩ : ∃ u, ul[i]? = some u := ⟨_, List.getElem?_eq_getElem (show i < ul.length by omega)⟩
      have hgd : (ul.map Value.int).getD (NI i).toNatClampNeg (.int 0) = .int u := by rw [ni_nat (by omega)]; exact own_gd hu
      have hj : ¬ NI i < 0 ∧ NI i < NI ul.length := ⟨ni_nn (by omega), (ni_lt (by omega) (by omega)).mpr (by omega)⟩
      have hle : ¬ (255 : Int32) < u := hul u (List.mem_of_getElem? hu)
      have htl := own_tl (ul := ul) (i := i) (by omega)
      rcases hsl with rfl | ⟨ww, rfl⟩
      · skip
        refine OGo.go (U' := Tl.setTop (mkF m 5 #[.val (.ref cr), .val (.int (NI i)), .val (.ref dr), .val (.int (NI i)), .val (.int (NI ul.length)), .val (.int (NI i)), .unset] [(.int (NI i))])) (fun _ k => XS.iload Xl.here hx rfl (hb hby d_cm5_3) rfl k) ?_
        refine OGo.go (U' := Tl.setTop (mkF m 7 #[.val (.ref cr), .val (.int (NI i)), .val (.ref dr), .val (.int (NI i)), .val (.int (NI ul.length)), .val (.int (NI i)), .unset] [(.int (NI ul.length)), (.int (NI i))])) (fun _ k => XS.iload Xl.here hx rfl (hb hby d_cm5_5) rfl k) ?_
        refine OGo.go (U' := Tl.setTop (mkF m 10 #[.val (.ref cr), .val (.int (NI i)), .val (.ref dr), .val (.int (NI i)), .val (.int (NI ul.length)), .val (.int (NI i)), .unset] [])) (fun _ k => XS.icmpNo Xl.here hx rfl (hb hby d_cm5_7) rfl (tlt hj.2).2.1 k) ?_
        refine OGo.go (U' := Tl.setTop (mkF m 11 #[.val (.ref cr), .val (.int (NI i)), .val (.ref dr), .val (.int (NI i)), .val (.int (NI ul.length)), .val (.int (NI i)), .unset] [(.ref cr)])) (fun _ k => XS.aloadN Xl.here hx rfl (hb hby d_cm5_10) rfl rfl k) ?_
        refine OGo.go (U' := Tl.setTop (mkF m 12 #[.val (.ref cr), .val (.int (NI i)), .val (.ref dr), .val (.int (NI i)), .val (.int (NI ul.length)), .val (.int (NI i)), .unset] [(.int (NI i)), (.ref cr)])) (fun _ k => XS.iloadN Xl.here hx rfl (hb hby d_cm5_11) rfl k) ?_
        refine OGo.go (U' := Tl.setTop (mkF m 13 #[.val (.ref cr), .val (.int (NI i)), .val (.ref dr), .val (.int (NI i)), .val (.int (NI ul.length)), .val (.int (NI i)), .unset] [(.int u)])) (fun _ k => Arv.ldC Xl hx hZ el Al (j := NI i) hj (v := .int u) hgd (g := (mkF m 12 #[.val (.ref cr), .val (.int (NI i)), .val (.ref dr), .val (.int (NI i)), .val (.int (NI ul.length)), .val (.int (NI i)), .unset] [(.int (NI i)), (.ref cr)])) rfl rfl (hb hby d_cm5_12) _ k) ?_
        refine OGo.go (U' := Tl.setTop (mkF m 15 #[.val (.ref cr), .val (.int (NI i)), .val (.ref dr), .val (.int (NI i)), .val (.int (NI ul.length)), .val (.int (NI i)), .val (.int u)] [])) (fun _ k => XS.istore Xl.here hx rfl (hb hby d_cm5_13) rfl (l' := #[.val (.ref cr), .val (.int (NI i)), .val (.ref dr), .val (.int (NI i)), .val (.int (NI ul.length)), .val (.int (NI i)), .val (.int u)]) rfl k) ?_
        refine OGo.go (U' := Tl.setTop (mkF m 17 #[.val (.ref cr), .val (.int (NI i)), .val (.ref dr), .val (.int (NI i)), .val (.int (NI ul.length)), .val (.int (NI i)), .val (.int u)] [(.int u)])) (fun _ k => XS.iload Xl.here hx rfl (hb hby d_cm5_15) rfl k) ?_
        refine OGo.go (U' := Tl.setTop (mkF m 20 #[.val (.ref cr), .val (.int (NI i)), .val (.ref dr), .val (.int (NI i)), .val (.int (NI ul.length)), .val (.int (NI i)), .val (.int u)] [(.int (255 : Int32)), (.int u)])) (fun _ k => XS.sipush Xl.here hx rfl (hb hby d_cm5_17) k) ?_
        refine OGo.go (U' := Tl.setTop (mkF m 26 #[.val (.ref cr), .val (.int (NI i)), .val (.ref dr), .val (.int (NI i)), .val (.int (NI ul.length)), .val (.int (NI i)), .val (.int u)] [])) (fun _ k => XS.icmpYes Xl.here hx rfl (pc0 := 20) (pc' := 26) rfl (hb hby d_cm5_20) rfl (flt hle).2.2.2 (by decide) (by decide) k) ?_
        refine OGo.go (U' := Tl.setTop (mkF m 27 #[.val (.ref cr), .val (.int (NI i)), .val (.ref dr), .val (.int (NI i)), .val (.int (NI ul.length)), .val (.int (NI i)), .val (.int u)] [(.ref dr)])) (fun _ k => XS.aloadN Xl.here hx rfl (hb hby d_cm5_26) rfl rfl k) ?_
        refine OGo.go (U' := Tl.setTop (mkF m 28 #[.val (.ref cr), .val (.int (NI i)), .val (.ref dr), .val (.int (NI i)), .val (.int (NI ul.length)), .val (.int (NI i)), .val (.int u)] [(.int (NI i)), (.ref dr)])) (fun _ k => XS.iloadN Xl.here hx rfl (hb hby d_cm5_27) rfl k) ?_
        refine OGo.go (U' := Tl.setTop (mkF m 30 #[.val (.ref cr), .val (.int (NI i)), .val (.ref dr), .val (.int (NI i)), .val (.int (NI ul.length)), .val (.int (NI i)), .val (.int u)] [(.int u), (.int (NI i)), (.ref dr)])) (fun _ k => XS.iload Xl.here hx rfl (hb hby d_cm5_28) rfl k) ?_
        refine OGo.go (U' := Tl.setTop (mkF m 31 #[.val (.ref cr), .val (.int (NI i)), .val (.ref dr), .val (.int (NI i)), .val (.int (NI ul.length)), .val (.int (NI i)), .val (.int u)] [(.int (u.toInt8.toInt32)), (.int (NI i)), (.ref dr)])) (fun _ k => XS.i2b Xl.here hx rfl (hb hby d_cm5_30) rfl k) ?_
        obtain ⟨T1, h1, X1, e1, W1, V1, st1⟩ := Arv.push Xl hx hZ el Bl (j := (NI i)) (by rw [htl]) (by rw [htl]; omega) (by rw [htl, ni_nat (by omega)]; omega) (g := (mkF m 31 #[.val (.ref cr), .val (.int (NI i)), .val (.ref dr), .val (.int (NI i)), .val (.int (NI ul.length)), .val (.int (NI i)), .val (.int u)] [(.int (u.toInt8.toInt32)), (.int (NI i)), (.ref dr)])) rfl rfl (hb hby d_cm5_31)
        have N2 := Fr.snoc X1 Nl gd
        have f3 := Al.other W1 hne
        have K4 := Kl.wr W1 (Or.inl (List.mem_of_getElem? (i := 0) rfl))
        refine OGo.go (U' := T1.setTop (mkF m 32 #[.val (.ref cr), .val (.int (NI i)), .val (.ref dr), .val (.int (NI i)), .val (.int (NI ul.length)), .val (.int (NI i)), .val (.int u)] [])) st1 ?_
        refine OGo.go (U' := T1.setTop (mkF m 35 #[.val (.ref cr), .val (.int ((NI i) + (1 : Int32))), .val (.ref dr), .val (.int (NI i)), .val (.int (NI ul.length)), .val (.int (NI i)), .val (.int u)] [])) (fun _ k => XS.iinc X1.here hx rfl (hb hby d_cm5_32) rfl (l' := #[.val (.ref cr), .val (.int ((NI i) + (1 : Int32))), .val (.ref dr), .val (.int (NI i)), .val (.int (NI ul.length)), .val (.int (NI i)), .val (.int u)]) rfl k) ?_
        refine OGo.go (U' := T1.setTop (mkF m 38 #[.val (.ref cr), .val (.int ((NI i) + (1 : Int32))), .val (.ref dr), .val (.int ((NI i) + (1 : Int32))), .val (.int (NI ul.length)), .val (.int (NI i)), .val (.int u)] [])) (fun _ k => XS.iinc X1.here hx rfl (hb hby d_cm5_35) rfl (l' := #[.val (.ref cr), .val (.int ((NI i) + (1 : Int32))), .val (.ref dr), .val (.int ((NI i) + (1 : Int32))), .val (.int (NI ul.length)), .val (.int (NI i)), .val (.int u)]) rfl k) ?_
        refine OGo.go (U' := T1.setTop (mkF m 41 #[.val (.ref cr), .val (.int ((NI i) + (1 : Int32))), .val (.ref dr), .val (.int ((NI i) + (1 : Int32))), .val (.int (NI ul.length)), .val (.int ((NI i) + (1 : Int32))), .val (.int u)] [])) (fun _ k => XS.iinc X1.here hx rfl (hb hby d_cm5_38) rfl (l' := #[.val (.ref cr), .val (.int ((NI i) + (1 : Int32))), .val (.ref dr), .val (.int ((NI i) + (1 : Int32))), .val (.int (NI ul.length)), .val (.int ((NI i) + (1 : Int32))), .val (.int u)]) rfl k) ?_
        refine OGo.go (U' := T1.setTop (mkF m 3 #[.val (.ref cr), .val (.int ((NI i) + (1 : Int32))), .val (.ref dr), .val (.int ((NI i) + (1 : Int32))), .val (.int (NI ul.length)), .val (.int ((NI i) + (1 : Int32))), .val (.int u)] [])) (fun _ k => XS.goto X1.here hx rfl (pc0 := 41) (pc' := 3) rfl (hb hby d_cm5_41) (by decide) (by decide) k) ?_
        rw [ni_succ]
        exact ih (i + 1) T1 h1 _ _ X1 e1 N2 K4 f3 (by rw [own_take hu]; exact V1) (Or.inr ⟨u, rfl⟩) (by omega)
      · skip
        refine OGo.go (U' := Tl.setTop (mkF m 5 #[.val (.ref cr), .val (.int (NI i)), .val (.ref dr), .val (.int (NI i)), .val (.int (NI ul.length)), .val (.int (NI i)), .val (.int ww)] [(.int (NI i))])) (fun _ k => XS.iload Xl.here hx rfl (hb hby d_cm5_3) rfl k) ?_
        refine OGo.go (U' := Tl.setTop (mkF m 7 #[.val (.ref cr), .val (.int (NI i)), .val (.ref dr), .val (.int (NI i)), .val (.int (NI ul.length)), .val (.int (NI i)), .val (.int ww)] [(.int (NI ul.length)), (.int (NI i))])) (fun _ k => XS.iload Xl.here hx rfl (hb hby d_cm5_5) rfl k) ?_
        refine OGo.go (U' := Tl.setTop (mkF m 10 #[.val (.ref cr), .val (.int (NI i)), .val (.ref dr), .val (.int (NI i)), .val (.int (NI ul.length)), .val (.int (NI i)), .val (.int ww)] [])) (fun _ k => XS.icmpNo Xl.here hx rfl (hb hby d_cm5_7) rfl (tlt hj.2).2.1 k) ?_
        refine OGo.go (U' := Tl.setTop (mkF m 11 #[.val (.ref cr), .val (.int (NI i)), .val (.ref dr), .val (.int (NI i)), .val (.int (NI ul.length)), .val (.int (NI i)), .val (.int ww)] [(.ref cr)])) (fun _ k => XS.aloadN Xl.here hx rfl (hb hby d_cm5_10) rfl rfl k) ?_
        refine OGo.go (U' := Tl.setTop (mkF m 12 #[.val (.ref cr), .val (.int (NI i)), .val (.ref dr), .val (.int (NI i)), .val (.int (NI ul.length)), .val (.int (NI i)), .val (.int ww)] [(.int (NI i)), (.ref cr)])) (fun _ k => XS.iloadN Xl.here hx rfl (hb hby d_cm5_11) rfl k) ?_
        refine OGo.go (U' := Tl.setTop (mkF m 13 #[.val (.ref cr), .val (.int (NI i)), .val (.ref dr), .val (.int (NI i)), .val (.int (NI ul.length)), .val (.int (NI i)), .val (.int ww)] [(.int u)])) (fun _ k => Arv.ldC Xl hx hZ el Al (j := NI i) hj (v := .int u) hgd (g := (mkF m 12 #[.val (.ref cr), .val (.int (NI i)), .val (.ref dr), .val (.int (NI i)), .val (.int (NI ul.length)), .val (.int (NI i)), .val (.int ww)] [(.int (NI i)), (.ref cr)])) rfl rfl (hb hby d_cm5_12) _ k) ?_
        refine OGo.go (U' := Tl.setTop (mkF m 15 #[.val (.ref cr), .val (.int (NI i)), .val (.ref dr), .val (.int (NI i)), .val (.int (NI ul.length)), .val (.int (NI i)), .val (.int u)] [])) (fun _ k => XS.istore Xl.here hx rfl (hb hby d_cm5_13) rfl (l' := #[.val (.ref cr), .val (.int (NI i)), .val (.ref dr), .val (.int (NI i)), .val (.int (NI ul.length)), .val (.int (NI i)), .val (.int u)]) rfl k) ?_
        refine OGo.go (U' := Tl.setTop (mkF m 17 #[.val (.ref cr), .val (.int (NI i)), .val (.ref dr), .val (.int (NI i)), .val (.int (NI ul.length)), .val (.int (NI i)), .val (.int u)] [(.int u)])) (fun _ k => XS.iload Xl.here hx rfl (hb hby d_cm5_15) rfl k) ?_
        refine OGo.go (U' := Tl.setTop (mkF m 20 #[.val (.ref cr), .val (.int (NI i)), .val (.ref dr), .val (.int (NI i)), .val (.int (NI ul.length)), .val (.int (NI i)), .val (.int u)] [(.int (255 : Int32)), (.int u)])) (fun _ k => XS.sipush Xl.here hx rfl (hb hby d_cm5_17) k) ?_
        refine OGo.go (U' := Tl.setTop (mkF m 26 #[.val (.ref cr), .val (.int (NI i)), .val (.ref dr), .val (.int (NI i)), .val (.int (NI ul.length)), .val (.int (NI i)), .val (.int u)] [])) (fun _ k => XS.icmpYes Xl.here hx rfl (pc0 := 20) (pc' := 26) rfl (hb hby d_cm5_20) rfl (flt hle).2.2.2 (by decide) (by decide) k) ?_
        refine OGo.go (U' := Tl.setTop (mkF m 27 #[.val (.ref cr), .val (.int (NI i)), .val (.ref dr), .val (.int (NI i)), .val (.int (NI ul.length)), .val (.int (NI i)), .val (.int u)] [(.ref dr)])) (fun _ k => XS.aloadN Xl.here hx rfl (hb hby d_cm5_26) rfl rfl k) ?_
        refine OGo.go (U' := Tl.setTop (mkF m 28 #[.val (.ref cr), .val (.int (NI i)), .val (.ref dr), .val (.int (NI i)), .val (.int (NI ul.length)), .val (.int (NI i)), .val (.int u)] [(.int (NI i)), (.ref dr)])) (fun _ k => XS.iloadN Xl.here hx rfl (hb hby d_cm5_27) rfl k) ?_
        refine OGo.go (U' := Tl.setTop (mkF m 30 #[.val (.ref cr), .val (.int (NI i)), .val (.ref dr), .val (.int (NI i)), .val (.int (NI ul.length)), .val (.int (NI i)), .val (.int u)] [(.int u), (.int (NI i)), (.ref dr)])) (fun _ k => XS.iload Xl.here hx rfl (hb hby d_cm5_28) rfl k) ?_
        refine OGo.go (U' := Tl.setTop (mkF m 31 #[.val (.ref cr), .val (.int (NI i)), .val (.ref dr), .val (.int (NI i)), .val (.int (NI ul.length)), .val (.int (NI i)), .val (.int u)] [(.int (u.toInt8.toInt32)), (.int (NI i)), (.ref dr)])) (fun _ k => XS.i2b Xl.here hx rfl (hb hby d_cm5_30) rfl k) ?_
        obtain ⟨T5, h5, X5, e5, W5, V5, st5⟩ := Arv.push Xl hx hZ el Bl (j := (NI i)) (by rw [htl]) (by rw [htl]; omega) (by rw [htl, ni_nat (by omega)]; omega) (g := (mkF m 31 #[.val (.ref cr), .val (.int (NI i)), .val (.ref dr), .val (.int (NI i)), .val (.int (NI ul.length)), .val (.int (NI i)), .val (.int u)] [(.int (u.toInt8.toInt32)), (.int (NI i)), (.ref dr)])) rfl rfl (hb hby d_cm5_31)
        have N6 := Fr.snoc X5 Nl gd
        have f7 := Al.other W5 hne
        have K8 := Kl.wr W5 (Or.inl (List.mem_of_getElem? (i := 0) rfl))
        refine OGo.go (U' := T5.setTop (mkF m 32 #[.val (.ref cr), .val (.int (NI i)), .val (.ref dr), .val (.int (NI i)), .val (.int (NI ul.length)), .val (.int (NI i)), .val (.int u)] [])) st5 ?_
        refine OGo.go (U' := T5.setTop (mkF m 35 #[.val (.ref cr), .val (.int ((NI i) + (1 : Int32))), .val (.ref dr), .val (.int (NI i)), .val (.int (NI ul.length)), .val (.int (NI i)), .val (.int u)] [])) (fun _ k => XS.iinc X5.here hx rfl (hb hby d_cm5_32) rfl (l' := #[.val (.ref cr), .val (.int ((NI i) + (1 : Int32))), .val (.ref dr), .val (.int (NI i)), .val (.int (NI ul.length)), .val (.int (NI i)), .val (.int u)]) rfl k) ?_
        refine OGo.go (U' := T5.setTop (mkF m 38 #[.val (.ref cr), .val (.int ((NI i) + (1 : Int32))), .val (.ref dr), .val (.int ((NI i) + (1 : Int32))), .val (.int (NI ul.length)), .val (.int (NI i)), .val (.int u)] [])) (fun _ k => XS.iinc X5.here hx rfl (hb hby d_cm5_35) rfl (l' := #[.val (.ref cr), .val (.int ((NI i) + (1 : Int32))), .val (.ref dr), .val (.int ((NI i) + (1 : Int32))), .val (.int (NI ul.length)), .val (.int (NI i)), .val (.int u)]) rfl k) ?_
        refine OGo.go (U' := T5.setTop (mkF m 41 #[.val (.ref cr), .val (.int ((NI i) + (1 : Int32))), .val (.ref dr), .val (.int ((NI i) + (1 : Int32))), .val (.int (NI ul.length)), .val (.int ((NI i) + (1 : Int32))), .val (.int u)] [])) (fun _ k => XS.iinc X5.here hx rfl (hb hby d_cm5_38) rfl (l' := #[.val (.ref cr), .val (.int ((NI i) + (1 : Int32))), .val (.ref dr), .val (.int ((NI i) + (1 : Int32))), .val (.int (NI ul.length)), .val (.int ((NI i) + (1 : Int32))), .val (.int u)]) rfl k) ?_
        refine OGo.go (U' := T5.setTop (mkF m 3 #[.val (.ref cr), .val (.int ((NI i) + (1 : Int32))), .val (.ref dr), .val (.int ((NI i) + (1 : Int32))), .val (.int (NI ul.length)), .val (.int ((NI i) + (1 : Int32))), .val (.int u)] [])) (fun _ k => XS.goto X5.here hx rfl (pc0 := 41) (pc' := 3) rfl (hb hby d_cm5_41) (by decide) (by decide) k) ?_
        rw [ni_succ]
        exact ih (i + 1) T5 h5 _ _ X5 e5 N6 K8 f7 (by rw [own_take hu]; exact V5) (Or.inr ⟨u, rfl⟩) (by omega)
  exact loop ul.length 0 T0 h0 _ _ X0 e0 (Fr.nil n0) (Keep.refl h0 [dr]) Ac (by rw [List.take_zero]; exact Ad) (Or.inl rfl) (by omega)
theorem d_cm3_0 : decode jdk_52_method_16_code 0 = .ok (.iload_n 2, 1) := by decide +kernel
theorem d_cm3_1 : decode jdk_52_method_16_code 1 = .ok (.newarray .byte, 2) := by decide +kernel
theorem d_cm3_3 : decode jdk_52_method_16_code 3 = .ok (.astore_n 3, 1) := by decide +kernel
theorem d_cm3_4 : decode jdk_52_method_16_code 4 = .ok (.aload_n 0, 1) := by decide +kernel
theorem d_cm3_5 : decode jdk_52_method_16_code 5 = .ok (.iload_n 1, 1) := by decide +kernel
theorem d_cm3_6 : decode jdk_52_method_16_code 6 = .ok (.aload_n 3, 1) := by decide +kernel
theorem d_cm3_7 : decode jdk_52_method_16_code 7 = .ok (.iconst 0, 1) := by decide +kernel
theorem d_cm3_8 : decode jdk_52_method_16_code 8 = .ok (.iload_n 2, 1) := by decide +kernel
theorem d_cm3_9 : decode jdk_52_method_16_code 9 = .ok (.invokestatic 115, 3) := by decide +kernel
theorem d_cm3_12 : decode jdk_52_method_16_code 12 = .ok (.istore 4, 2) := by decide +kernel
theorem d_cm3_14 : decode jdk_52_method_16_code 14 = .ok (.iload 4, 2) := by decide +kernel
theorem d_cm3_16 : decode jdk_52_method_16_code 16 = .ok (.iload_n 2, 1) := by decide +kernel
theorem d_cm3_17 : decode jdk_52_method_16_code 17 = .ok (.if_icmp .eq 40, 3) := by decide +kernel
theorem d_cm3_57 : decode jdk_52_method_16_code 57 = .ok (.aload_n 3, 1) := by decide +kernel
theorem d_cm3_58 : decode jdk_52_method_16_code 58 = .ok (.areturn, 1) := by decide +kernel
theorem ef_cm3 (m : MethodId) (cr : Addr) (ul : List Int32) : entryFrame m #[(.ref cr), (.int (0 : Int32)), (.int (NI ul.length))] 6 = mkF m 0 #[.val (.ref cr), .val (.int (0 : Int32)), .val (.int (NI ul.length)), .unset, .unset, .unset] [] := by first | (simp [entryFrame, mkF, argsToLocals, Value.category]; done) | rfl
theorem pn_cm3 : plainFor (⟨"java/lang/StringUTF16", "compress", "([CII)[B"⟩ : MethodName) = true := by first | exact plainFor_of_name (by first | (simp [plainName, overriddenIn]; done) | decide +kernel) | decide +kernel
set_option maxRecDepth 65536 in
set_option maxHeartbeats 40000000 in
theorem rm_cm3 (l : Launch) (Z : State) (a0 : Array Value) (hw : ∀ d ∈ tables_1, d.before a0 Z = true) (cr : Addr) (ul : List Int32) (kc : ClassId) (n0 : Nat) (h0 : Heap) (Z0 : n0 ≤ h0.size) (Ac : Arv Z h0 cr kc .char (NI ul.length) (ul.map Value.int) (.int 0)) (hul : ∀ u ∈ ul, ¬ (255 : Int32) < u) (hu1 : 1 ≤ ul.length) (hu2 : ul.length ≤ 24) :
    OMet l Z (⟨"java/lang/StringUTF16", "compress", "([CII)[B"⟩ : MethodName) jdk_52_method_16_code 6 (some (.array .byte)) [] ({ frames := 1, cells := 1, slots := 24, locals := 18 } : Room) #[(.ref cr), (.int (0 : Int32)), (.int (NI ul.length))] h0 (fun v h L => ∃ (b : Addr) (k : ClassId), v = some (.ref b) ∧ Fr n0 L ∧ Keep h0 h [] ∧ Arv Z h b k .byte (NI ul.length) (ul.map BV) (.int 0) ∧ h0.size ≤ b) := by
  refine OMet.of pn_cm3 ?_
  intro p e s m below meth c T0 X0 hx hby hml hown0 hnm hret hlk hZ e0
  have hown : s.vm.findClass "java/lang/StringUTF16" = some m.cls := hown0
  refine OGo.go (fun t k => castTop (ef_cm3 m cr ul) k) ?_
  refine OGo.go (U' := T0.setTop (mkF m 1 #[.val (.ref cr), .val (.int (0 : Int32)), .val (.int (NI ul.length)), .unset, .unset, .unset] [(.int (NI ul.length))])) (fun _ k => XS.iloadN X0.here hx rfl (hb hby d_cm3_0) rfl k) ?_
  obtain ⟨T1, h1, k1, X1, e1, E1, A1, st1⟩ := newP X0 hx hZ (hw _ (List.mem_of_getElem? (i := 19) rfl)) e0 (g := (mkF m 1 #[.val (.ref cr), .val (.int (0 : Int32)), .val (.int (NI ul.length)), .unset, .unset, .unset] [(.int (NI ul.length))])) rfl (hb hby d_cm3_1) rfl (n := (NI ul.length)) (ni_nn (by omega)) (cap := 24) (by rw [ni_nat (by omega)]; omega) (by decide) (by decide) (by decide)
  obtain ⟨b1, gb1⟩ : ∃ z, z = h0.size := ⟨_, rfl⟩
  rw [← gb1] at A1 st1
  have ne2 : cr ≠ b1 := Nat.ne_of_lt (Nat.lt_of_lt_of_le Ac.lt (Nat.le_of_eq gb1.symm))
  have g3 : n0 ≤ b1 := Nat.le_trans Z0 (Nat.le_of_eq gb1.symm)
  have sz4 := Nat.le_trans (Keep.refl h0 []).1 (Nat.le_of_eq gb1.symm)
  have f5 := Ac.ext E1
  have K6 := (Keep.refl h0 []).ext E1
  have V1 : Arv Z h1 b1 k1 .byte (NI ul.length) [] (.int 0) := Arv.new A1 (ni_nn (by omega))
  refine OGo.go (U' := T1.setTop (mkF m 3 #[.val (.ref cr), .val (.int (0 : Int32)), .val (.int (NI ul.length)), .unset, .unset, .unset] [(.ref b1)])) st1 ?_
  refine OGo.go (U' := T1.setTop (mkF m 4 #[.val (.ref cr), .val (.int (0 : Int32)), .val (.int (NI ul.length)), .val (.ref b1), .unset, .unset] [])) (fun _ k => XS.astoreN X1.here hx rfl (hb hby d_cm3_3) rfl rfl (l' := #[.val (.ref cr), .val (.int (0 : Int32)), .val (.int (NI ul.length)), .val (.ref b1), .unset, .unset]) rfl k) ?_
  refine OGo.go (U' := T1.setTop (mkF m 5 #[.val (.ref cr), .val (.int (0 : Int32)), .val (.int (NI ul.length)), .val (.ref b1), .unset, .unset] [(.ref cr)])) (fun _ k => XS.aloadN X1.here hx rfl (hb hby d_cm3_4) rfl rfl k) ?_
  refine OGo.go (U' := T1.setTop (mkF m 6 #[.val (.ref cr), .val (.int (0 : Int32)), .val (.int (NI ul.length)), .val (.ref b1), .unset, .unset] [(.int (0 : Int32)), (.ref cr)])) (fun _ k => XS.iloadN X1.here hx rfl (hb hby d_cm3_5) rfl k) ?_
  refine OGo.go (U' := T1.setTop (mkF m 7 #[.val (.ref cr), .val (.int (0 : Int32)), .val (.int (NI ul.length)), .val (.ref b1), .unset, .unset] [(.ref b1), (.int (0 : Int32)), (.ref cr)])) (fun _ k => XS.aloadN X1.here hx rfl (hb hby d_cm3_6) rfl rfl k) ?_
  refine OGo.go (U' := T1.setTop (mkF m 8 #[.val (.ref cr), .val (.int (0 : Int32)), .val (.int (NI ul.length)), .val (.ref b1), .unset, .unset] [(.int (0 : Int32)), (.ref b1), (.int (0 : Int32)), (.ref cr)])) (fun _ k => XS.iconst X1.here hx rfl (hb hby d_cm3_7) k) ?_
  refine OGo.go (U' := T1.setTop (mkF m 9 #[.val (.ref cr), .val (.int (0 : Int32)), .val (.int (NI ul.length)), .val (.ref b1), .unset, .unset] [(.int (NI ul.length)), (.int (0 : Int32)), (.ref b1), (.int (0 : Int32)), (.ref cr)])) (fun _ k => XS.iloadN X1.here hx rfl (hb hby d_cm3_8) rfl k) ?_
  refine OGo.callS X1 hx hZ (y := (⟨"java/lang/StringUTF16", "compress", "([CI[BII)I"⟩ : MethodName)) hown (hw _ (List.mem_of_getElem? (i := 34) rfl)) (hw _ (List.mem_of_getElem? (i := 35) rfl)) (hw _ (List.mem_of_getElem? (i := 32) rfl)) (hw _ (List.mem_of_getElem? (i := 36) rfl)) (by decide) (g := (mkF m 9 #[.val (.ref cr), .val (.int (0 : Int32)), .val (.int (NI ul.length)), .val (.ref b1), .unset, .unset] [(.int (NI ul.length)), (.int (0 : Int32)), (.ref b1), (.int (0 : Int32)), (.ref cr)])) (argsL := [(.ref cr), (.int (0 : Int32)), (.ref b1), (.int (0 : Int32)), (.int (NI ul.length))]) (rest := []) e1 (rm_cm5 l Z a0 hw cr b1 ul kc k1 n0 h1 (Nat.le_trans Z0 E1.1) f5 hul hu1 hu2 V1 ne2 g3) rfl (by rw [hml]; rfl) (lenOf pd_19 rfl) rfl (W := 0) (by show 2 * 0 + _ ≤ _; exact Nat.le_of_eq rfl) (hb hby d_cm3_9) (by decide) (by decide) (by decide) (by decide) ?_
  rintro _ T7 L7 X7 ⟨rfl, N7, K7, A7⟩
  have e7 : T7.heap = T7.heap := rfl
  have N8 := Fr.app (Fr.nil n0) N7
  have f9 := f5.keep K7 (ninS ne2 nin0)
  have K10 := K6.trans K7 (allS (P := fun x => x ∈ _ ∨ _ ≤ x) (Or.inr sz4) all0)
  show OGo p e below _ (T7.setTop (mkF m 12 #[.val (.ref cr), .val (.int (0 : Int32)), .val (.int (NI ul.length)), .val (.ref b1), .unset, .unset] [(.int (NI ul.length))]))
  refine OGo.go (U' := T7.setTop (mkF m 14 #[.val (.ref cr), .val (.int (0 : Int32)), .val (.int (NI ul.length)), .val (.ref b1), .val (.int (NI ul.length)), .unset] [])) (fun _ k => XS.istore X7.here hx rfl (hb hby d_cm3_12) rfl (l' := #[.val (.ref cr), .val (.int (0 : Int32)), .val (.int (NI ul.length)), .val (.ref b1), .val (.int (NI ul.length)), .unset]) rfl k) ?_
  refine OGo.go (U' := T7.setTop (mkF m 16 #[.val (.ref cr), .val (.int (0 : Int32)), .val (.int (NI ul.length)), .val (.ref b1), .val (.int (NI ul.length)), .unset] [(.int (NI ul.length))])) (fun _ k => XS.iload X7.here hx rfl (hb hby d_cm3_14) rfl k) ?_
  refine OGo.go (U' := T7.setTop (mkF m 17 #[.val (.ref cr), .val (.int (0 : Int32)), .val (.int (NI ul.length)), .val (.ref b1), .val (.int (NI ul.length)), .unset] [(.int (NI ul.length)), (.int (NI ul.length))])) (fun _ k => XS.iloadN X7.here hx rfl (hb hby d_cm3_16) rfl k) ?_
  refine OGo.go (U' := T7.setTop (mkF m 57 #[.val (.ref cr), .val (.int (0 : Int32)), .val (.int (NI ul.length)), .val (.ref b1), .val (.int (NI ul.length)), .unset] [])) (fun _ k => XS.icmpYes X7.here hx rfl (pc0 := 17) (pc' := 57) rfl (hb hby d_cm3_17) rfl (teq rfl).1 (by decide) (by decide) k) ?_
  refine OGo.go (U' := T7.setTop (mkF m 58 #[.val (.ref cr), .val (.int (0 : Int32)), .val (.int (NI ul.length)), .val (.ref b1), .val (.int (NI ul.length)), .unset] [(.ref b1)])) (fun _ k => XS.aloadN X7.here hx rfl (hb hby d_cm3_57) rfl rfl k) ?_
  refine OGo.retA X7 hx hret hlk rfl rfl (hb hby d_cm3_58) ?_ (by decide) (by decide)
  rw [e7]
  exact ⟨b1, k1, rfl, N8, K10, A7, sz4⟩
theorem d_cfa_0 : decode jdk_52_method_15_code 0 = .ok (.iload_n 1, 1) := by decide +kernel
theorem d_cfa_1 : decode jdk_52_method_15_code 1 = .ok (.aload_n 0, 1) := by decide +kernel
theorem d_cfa_2 : decode jdk_52_method_15_code 2 = .ok (.arraylength, 1) := by decide +kernel
theorem d_cfa_3 : decode jdk_52_method_15_code 3 = .ok (.isub, 1) := by decide +kernel
theorem d_cfa_4 : decode jdk_52_method_15_code 4 = .ok (.bipush 31, 2) := by decide +kernel
theorem d_cfa_6 : decode jdk_52_method_15_code 6 = .ok (.iushr, 1) := by decide +kernel
theorem d_cfa_7 : decode jdk_52_method_15_code 7 = .ok (.i2b, 1) := by decide +kernel
theorem d_cfa_8 : decode jdk_52_method_15_code 8 = .ok (.ireturn, 1) := by decide +kernel
theorem ef_cfa (m : MethodId) (fr : Addr) (q : Nat) : entryFrame m #[(.ref fr), (.int (NI q))] 2 = mkF m 0 #[.val (.ref fr), .val (.int (NI q))] [] := by first | (simp [entryFrame, mkF, argsToLocals, Value.category]; done) | rfl
theorem pn_cfa : plainFor (⟨"java/lang/StringUTF16", "coderFromArrayLen", "([BI)B"⟩ : MethodName) = true := by first | exact plainFor_of_name (by first | (simp [plainName, overriddenIn]; done) | decide +kernel) | decide +kernel
set_option maxRecDepth 65536 in
set_option maxHeartbeats 40000000 in
theorem rm_cfa (l : Launch) (Z : State) (a0 : Array Value) (hw : ∀ d ∈ tables_1, d.before a0 Z = true) (fr : Addr) (q : Nat) (kd : ClassId) (vs : List Value) (h0 : Heap) (A1 : Arv Z h0 fr kd .byte (NI q) vs (.int 0)) :
    OMet l Z (⟨"java/lang/StringUTF16", "coderFromArrayLen", "([BI)B"⟩ : MethodName) jdk_52_method_15_code 2 (some .byte) [] ({ frames := 0, cells := 0, slots := 0, locals := 0 } : Room) #[(.ref fr), (.int (NI q))] h0 (OPure (some (.int 0)) h0) := by
  refine OMet.of pn_cfa ?_
  intro p e s m below meth c T0 X0 hx hby hml hown0 hnm hret hlk hZ e0
  have hown : s.vm.findClass "java/lang/StringUTF16" = some m.cls := hown0
  refine OGo.go (fun t k => castTop (ef_cfa m fr q) k) ?_
  refine OGo.go (U' := T0.setTop (mkF m 1 #[.val (.ref fr), .val (.int (NI q))] [(.int (NI q))])) (fun _ k => XS.iloadN X0.here hx rfl (hb hby d_cfa_0) rfl k) ?_
  refine OGo.go (U' := T0.setTop (mkF m 2 #[.val (.ref fr), .val (.int (NI q))] [(.ref fr), (.int (NI q))])) (fun _ k => XS.aloadN X0.here hx rfl (hb hby d_cfa_1) rfl rfl k) ?_
  refine OGo.go (U' := T0.setTop (mkF m 3 #[.val (.ref fr), .val (.int (NI q))] [(.int (NI q)), (.int (NI q))])) (fun _ k => Arv.len' X0 hx hZ e0 A1 (g := (mkF m 2 #[.val (.ref fr), .val (.int (NI q))] [(.ref fr), (.int (NI q))])) rfl rfl (hb hby d_cfa_2) _ k) ?_
  refine OGo.go (U' := T0.setTop (mkF m 4 #[.val (.ref fr), .val (.int (NI q))] [(.int ((NI q) - (NI q)))])) (fun _ k => XS.isub X0.here hx rfl (hb hby d_cfa_3) rfl k) ?_
  refine OGo.go (U' := T0.setTop (mkF m 6 #[.val (.ref fr), .val (.int (NI q))] [(.int (31 : Int32)), (.int ((NI q) - (NI q)))])) (fun _ k => XS.bipush X0.here hx rfl (hb hby d_cfa_4) k) ?_
  refine OGo.go (U' := T0.setTop (mkF m 7 #[.val (.ref fr), .val (.int (NI q))] [(.int ((((NI q) - (NI q)).toUInt32 >>> ((31 : Int32) &&& 31).toUInt32).toInt32))])) (fun _ k => XS.iushr X0.here hx rfl (hb hby d_cfa_6) rfl k) ?_
  refine OGo.go (U' := T0.setTop (mkF m 8 #[.val (.ref fr), .val (.int (NI q))] [(.int (((((NI q) - (NI q)).toUInt32 >>> ((31 : Int32) &&& 31).toUInt32).toInt32).toInt8.toInt32))])) (fun _ k => XS.i2b X0.here hx rfl (hb hby d_cfa_7) rfl k) ?_
  refine OGo.retN X0 hx (t := .byte) hret hlk (by simp) (hb hby d_cfa_8) ?_ (by decide) (by decide)
  exact ⟨congrArg (fun z => some (Value.int z)) (by rw [Int32.sub_self]; decide), e0, rfl⟩
theorem d_si4_0 : decode jdk_42_method_149_code 0 = .ok (.aload_n 0, 1) := by decide +kernel
theorem d_si4_1 : decode jdk_42_method_149_code 1 = .ok (.invokespecial 1, 3) := by decide +kernel
theorem d_si4_4 : decode jdk_42_method_149_code 4 = .ok (.iload_n 3, 1) := by decide +kernel
theorem d_si4_5 : decode jdk_42_method_149_code 5 = .ok (.ifCond .ne 22, 3) := by decide +kernel
theorem d_si4_27 : decode jdk_42_method_149_code 27 = .ok (.getstatic 38, 3) := by decide +kernel
theorem d_si4_30 : decode jdk_42_method_149_code 30 = .ok (.ifCond .eq 28, 3) := by decide +kernel
theorem d_si4_33 : decode jdk_42_method_149_code 33 = .ok (.aload_n 1, 1) := by decide +kernel
theorem d_si4_34 : decode jdk_42_method_149_code 34 = .ok (.iload_n 2, 1) := by decide +kernel
theorem d_si4_35 : decode jdk_42_method_149_code 35 = .ok (.iload_n 3, 1) := by decide +kernel
theorem d_si4_36 : decode jdk_42_method_149_code 36 = .ok (.invokestatic 177, 3) := by decide +kernel
theorem d_si4_39 : decode jdk_42_method_149_code 39 = .ok (.astore 5, 2) := by decide +kernel
theorem d_si4_41 : decode jdk_42_method_149_code 41 = .ok (.aload_n 0, 1) := by decide +kernel
theorem d_si4_42 : decode jdk_42_method_149_code 42 = .ok (.aload 5, 2) := by decide +kernel
theorem d_si4_44 : decode jdk_42_method_149_code 44 = .ok (.iload_n 3, 1) := by decide +kernel
theorem d_si4_45 : decode jdk_42_method_149_code 45 = .ok (.invokestatic 47, 3) := by decide +kernel
theorem d_si4_48 : decode jdk_42_method_149_code 48 = .ok (.putfield 15, 3) := by decide +kernel
theorem d_si4_51 : decode jdk_42_method_149_code 51 = .ok (.aload_n 0, 1) := by decide +kernel
theorem d_si4_52 : decode jdk_42_method_149_code 52 = .ok (.aload 5, 2) := by decide +kernel
theorem d_si4_54 : decode jdk_42_method_149_code 54 = .ok (.putfield 9, 3) := by decide +kernel
theorem d_si4_57 : decode jdk_42_method_149_code 57 = .ok (.return_, 1) := by decide +kernel
theorem ef_si4 (m : MethodId) (sr cr : Addr) (ul : List Int32) : entryFrame m #[(.ref sr), (.ref cr), (.int (0 : Int32)), (.int (NI ul.length)), .null] 6 = mkF m 0 #[.val (.ref sr), .val (.ref cr), .val (.int (0 : Int32)), .val (.int (NI ul.length)), .val .null, .unset] [] := by first | (simp [entryFrame, mkF, argsToLocals, Value.category]; done) | rfl
theorem pn_si4 : plainFor (⟨"java/lang/String", "<init>", "([CIILjava/lang/Void;)V"⟩ : MethodName) = true := by first | exact plainFor_of_name (by first | (simp [plainName, overriddenIn]; done) | decide +kernel) | decide +kernel
set_option maxRecDepth 65536 in
set_option maxHeartbeats 40000000 in
theorem rm_si4 (l : Launch) (Z : State) (a0 : Array Value) (hw : ∀ d ∈ tables_1, d.before a0 Z = true) (sr cr : Addr) (ul : List Int32) (u_value u_coder : Value) (kc : ClassId) (cs : Int32) (n0 : Nat) (h0 : Heap) (Z0 : n0 ≤ h0.size) (Es : Exa Z h0 sr "java/lang/String") (F_value : Fld Z h0 sr "java/lang/String" "value" "[B" u_value) (F_coder : Fld Z h0 sr "java/lang/String" "coder" "B" u_coder) (g0 : n0 ≤ sr) (hne : sr ≠ cr) (Ac : Arv Z h0 cr kc .char (NI ul.length) (ul.map Value.int) (.int 0)) (hul : ∀ u ∈ ul, ¬ (255 : Int32) < u) (hu1 : 1 ≤ ul.length) (hu2 : ul.length ≤ 24) (S0 : Sta Z h0 "java/lang/String" "COMPACT_STRINGS" "Z" (.int cs)) (hcs : ¬ cs = 0) :
    OMet l Z (⟨"java/lang/String", "<init>", "([CIILjava/lang/Void;)V"⟩ : MethodName) jdk_42_method_149_code 6 none [] ({ frames := 2, cells := 1, slots := 24, locals := 38 } : Room) #[(.ref sr), (.ref cr), (.int (0 : Int32)), (.int (NI ul.length)), .null] h0 (fun v h L => v = none ∧ Fr n0 L ∧ Keep h0 h [sr] ∧ Exa Z h sr "java/lang/String" ∧ Fld Z h sr "java/lang/String" "coder" "B" (.int 0) ∧ ∃ (b : Addr) (k : ClassId), Fld Z h sr "java/lang/String" "value" "[B" (.ref b) ∧ Arv Z h b k .byte (NI ul.length) (ul.map BV) (.int 0) ∧ h0.size ≤ b) := by
  refine OMet.of pn_si4 ?_
  intro p e s m below meth c T0 X0 hx hby hml hown0 hnm hret hlk hZ e0
  have hown : s.vm.findClass "java/lang/String" = some m.cls := hown0
  refine OGo.go (fun t k => castTop (ef_si4 m sr cr ul) k) ?_
  refine OGo.go (U' := T0.setTop (mkF m 1 #[.val (.ref sr), .val (.ref cr), .val (.int (0 : Int32)), .val (.int (NI ul.length)), .val .null, .unset] [(.ref sr)])) (fun _ k => XS.aloadN X0.here hx rfl (hb hby d_si4_0) rfl rfl k) ?_
  obtain ⟨T1, X1, e1, st1⟩ := initO X0 hx hZ hown (hw _ (List.mem_of_getElem? (i := 15) rfl)) (hw _ (List.mem_of_getElem? (i := 16) rfl)) (hw _ (List.mem_of_getElem? (i := 17) rfl)) e0 (g := (mkF m 1 #[.val (.ref sr), .val (.ref cr), .val (.int (0 : Int32)), .val (.int (NI ul.length)), .val .null, .unset] [(.ref sr)])) rfl (by rw [hml]; rfl) rfl (hb hby d_si4_1) (by decide) (W := 0) (by show 2 * 0 + _ ≤ _; exact Nat.le_of_eq rfl) (by decide)
  refine OGo.go (U' := T1.setTop (mkF m 4 #[.val (.ref sr), .val (.ref cr), .val (.int (0 : Int32)), .val (.int (NI ul.length)), .val .null, .unset] [])) st1 ?_
  refine OGo.go (U' := T1.setTop (mkF m 5 #[.val (.ref sr), .val (.ref cr), .val (.int (0 : Int32)), .val (.int (NI ul.length)), .val .null, .unset] [(.int (NI ul.length))])) (fun _ k => XS.iloadN X1.here hx rfl (hb hby d_si4_4) rfl k) ?_
  refine OGo.go (U' := T1.setTop (mkF m 27 #[.val (.ref sr), .val (.ref cr), .val (.int (0 : Int32)), .val (.int (NI ul.length)), .val .null, .unset] [])) (fun _ k => XS.ifYes X1.here hx rfl (pc0 := 5) (pc' := 27) rfl (hb hby d_si4_5) rfl ((if0 _ _).trans (feq (own_nz hu1 (by omega))).2) (by decide) (by decide) k) ?_
  obtain ⟨T2, X2, e2, st2⟩ := getS2 X1 hx hZ hown (host := "") (Or.inl (hw _ (List.mem_of_getElem? (i := 29) rfl))) Via.refl e1 S0 (g := (mkF m 27 #[.val (.ref sr), .val (.ref cr), .val (.int (0 : Int32)), .val (.int (NI ul.length)), .val .null, .unset] [])) rfl (hb hby d_si4_27)
  refine OGo.go (U' := T2.setTop (mkF m 30 #[.val (.ref sr), .val (.ref cr), .val (.int (0 : Int32)), .val (.int (NI ul.length)), .val .null, .unset] [(.int cs)])) st2 ?_
  refine OGo.go (U' := T2.setTop (mkF m 33 #[.val (.ref sr), .val (.ref cr), .val (.int (0 : Int32)), .val (.int (NI ul.length)), .val .null, .unset] [])) (fun _ k => XS.ifNo X2.here hx rfl (hb hby d_si4_30) rfl ((if0 _ _).trans (feq hcs).1) k) ?_
  refine OGo.go (U' := T2.setTop (mkF m 34 #[.val (.ref sr), .val (.ref cr), .val (.int (0 : Int32)), .val (.int (NI ul.length)), .val .null, .unset] [(.ref cr)])) (fun _ k => XS.aloadN X2.here hx rfl (hb hby d_si4_33) rfl rfl k) ?_
  refine OGo.go (U' := T2.setTop (mkF m 35 #[.val (.ref sr), .val (.ref cr), .val (.int (0 : Int32)), .val (.int (NI ul.length)), .val .null, .unset] [(.int (0 : Int32)), (.ref cr)])) (fun _ k => XS.iloadN X2.here hx rfl (hb hby d_si4_34) rfl k) ?_
  refine OGo.go (U' := T2.setTop (mkF m 36 #[.val (.ref sr), .val (.ref cr), .val (.int (0 : Int32)), .val (.int (NI ul.length)), .val .null, .unset] [(.int (NI ul.length)), (.int (0 : Int32)), (.ref cr)])) (fun _ k => XS.iloadN X2.here hx rfl (hb hby d_si4_35) rfl k) ?_
  refine OGo.callS X2 hx hZ (y := (⟨"java/lang/StringUTF16", "compress", "([CII)[B"⟩ : MethodName)) hown (hw _ (List.mem_of_getElem? (i := 30) rfl)) (hw _ (List.mem_of_getElem? (i := 31) rfl)) (hw _ (List.mem_of_getElem? (i := 32) rfl)) (hw _ (List.mem_of_getElem? (i := 33) rfl)) (by decide) (g := (mkF m 36 #[.val (.ref sr), .val (.ref cr), .val (.int (0 : Int32)), .val (.int (NI ul.length)), .val .null, .unset] [(.int (NI ul.length)), (.int (0 : Int32)), (.ref cr)])) (argsL := [(.ref cr), (.int (0 : Int32)), (.int (NI ul.length))]) (rest := []) e2 (rm_cm3 l Z a0 hw cr ul kc n0 h0 Z0 Ac hul hu1 hu2) rfl (by rw [hml]; rfl) (lenOf pd_20 rfl) rfl (W := 0) (by show 2 * 0 + _ ≤ _; exact Nat.le_of_eq rfl) (hb hby d_si4_36) (by decide) (by decide) (by decide) (by decide) ?_
  rintro _ T3 L3 X3 ⟨b3, k3, rfl, N3, K3, A3, gb3⟩
  have e3 : T3.heap = T3.heap := rfl
  have N4 := Fr.app (Fr.nil n0) N3
  have ne5 : sr ≠ b3 := Nat.ne_of_lt (Nat.lt_of_lt_of_le Es.lt gb3)
  have ne6 : cr ≠ b3 := Nat.ne_of_lt (Nat.lt_of_lt_of_le Ac.lt gb3)
  have g7 : n0 ≤ b3 := Nat.le_trans Z0 gb3
  have sz8 := Nat.le_trans (Keep.refl h0 [sr]).1 gb3
  have f9 := Es.keep K3
  have f10 := F_value.keep K3 nin0
  have f11 := F_coder.keep K3 nin0
  have f12 := Ac.keep K3 nin0
  have f13 := own_sta_keep S0 K3 all0
  have K14 := (Keep.refl h0 [sr]).trans K3 all0
  show OGo p e below _ (T3.setTop (mkF m 39 #[.val (.ref sr), .val (.ref cr), .val (.int (0 : Int32)), .val (.int (NI ul.length)), .val .null, .unset] [(.ref b3)]))
  refine OGo.go (U' := T3.setTop (mkF m 41 #[.val (.ref sr), .val (.ref cr), .val (.int (0 : Int32)), .val (.int (NI ul.length)), .val .null, .val (.ref b3)] [])) (fun _ k => XS.astore X3.here hx rfl (hb hby d_si4_39) rfl rfl (l' := #[.val (.ref sr), .val (.ref cr), .val (.int (0 : Int32)), .val (.int (NI ul.length)), .val .null, .val (.ref b3)]) rfl k) ?_
  refine OGo.go (U' := T3.setTop (mkF m 42 #[.val (.ref sr), .val (.ref cr), .val (.int (0 : Int32)), .val (.int (NI ul.length)), .val .null, .val (.ref b3)] [(.ref sr)])) (fun _ k => XS.aloadN X3.here hx rfl (hb hby d_si4_41) rfl rfl k) ?_
  refine OGo.go (U' := T3.setTop (mkF m 44 #[.val (.ref sr), .val (.ref cr), .val (.int (0 : Int32)), .val (.int (NI ul.length)), .val .null, .val (.ref b3)] [(.ref b3), (.ref sr)])) (fun _ k => XS.aload X3.here hx rfl (hb hby d_si4_42) rfl rfl k) ?_
  refine OGo.go (U' := T3.setTop (mkF m 45 #[.val (.ref sr), .val (.ref cr), .val (.int (0 : Int32)), .val (.int (NI ul.length)), .val .null, .val (.ref b3)] [(.int (NI ul.length)), (.ref b3), (.ref sr)])) (fun _ k => XS.iloadN X3.here hx rfl (hb hby d_si4_44) rfl k) ?_
  refine OGo.callS X3 hx hZ (y := (⟨"java/lang/StringUTF16", "coderFromArrayLen", "([BI)B"⟩ : MethodName)) hown (hw _ (List.mem_of_getElem? (i := 37) rfl)) (hw _ (List.mem_of_getElem? (i := 38) rfl)) (hw _ (List.mem_of_getElem? (i := 32) rfl)) (hw _ (List.mem_of_getElem? (i := 39) rfl)) (by decide) (g := (mkF m 45 #[.val (.ref sr), .val (.ref cr), .val (.int (0 : Int32)), .val (.int (NI ul.length)), .val .null, .val (.ref b3)] [(.int (NI ul.length)), (.ref b3), (.ref sr)])) (argsL := [(.ref b3), (.int (NI ul.length))]) (rest := [(.ref sr)]) e3 (rm_cfa l Z a0 hw b3 ul.length k3 (ul.map BV) T3.heap A3) rfl (by rw [hml]; rfl) (lenOf pd_21 rfl) rfl (W := 1) (by show 2 * 0 + _ ≤ _; exact Nat.le_of_eq rfl) (hb hby d_si4_45) (by decide) (by decide) (by decide) (by decide) ?_
  rintro _ T15 _ X15 ⟨rfl, e15, rfl⟩
  rw [List.append_nil] at X15
  show OGo p e below _ (T15.setTop (mkF m 48 #[.val (.ref sr), .val (.ref cr), .val (.int (0 : Int32)), .val (.int (NI ul.length)), .val .null, .val (.ref b3)] [(.int (0 : Int32)), (.ref sr)]))
  obtain ⟨T16, h16, X16, e16, W16, st16⟩ := putFN X15 hx hZ hown (hw _ (List.mem_of_getElem? (i := 25) rfl)) Via.refl e15 f11 f9 (Or.inr ⟨(hw _ (List.mem_of_getElem? (i := 21) rfl)), rfl, hnm⟩) (hw _ (List.mem_of_getElem? (i := 5) rfl)) (ty := .byte) (v' := (.int (nar .byte (0 : Int32)))) (by decide) rfl (fits_nar_byte _) (g := (mkF m 48 #[.val (.ref sr), .val (.ref cr), .val (.int (0 : Int32)), .val (.int (NI ul.length)), .val .null, .val (.ref b3)] [(.int (0 : Int32)), (.ref sr)])) rfl rfl (hb hby d_si4_48)
  have N17 := Fr.snoc X16 N4 g0
  have f18 := f9.wr W16
  have f19 := f10.other W16 (Or.inr (slot_ne (Or.inr (hw _ (List.mem_of_getElem? (i := 20) rfl))) (Or.inr (hw _ (List.mem_of_getElem? (i := 21) rfl))) (by decide) (t := (.array .byte)) (t' := .byte) (by decide) (by decide)))
  have f20 := f11.same W16
  have f21 := f12.other W16 (Ne.symm hne)
  have f22 := f13.wr W16
  have f23 := A3.other W16 (Ne.symm ne5)
  have K24 := K14.wr W16 (Or.inl (List.mem_of_getElem? (i := 0) rfl))
  refine OGo.go (U' := T16.setTop (mkF m 51 #[.val (.ref sr), .val (.ref cr), .val (.int (0 : Int32)), .val (.int (NI ul.length)), .val .null, .val (.ref b3)] [])) st16 ?_
  refine OGo.go (U' := T16.setTop (mkF m 52 #[.val (.ref sr), .val (.ref cr), .val (.int (0 : Int32)), .val (.int (NI ul.length)), .val .null, .val (.ref b3)] [(.ref sr)])) (fun _ k => XS.aloadN X16.here hx rfl (hb hby d_si4_51) rfl rfl k) ?_
  refine OGo.go (U' := T16.setTop (mkF m 54 #[.val (.ref sr), .val (.ref cr), .val (.int (0 : Int32)), .val (.int (NI ul.length)), .val .null, .val (.ref b3)] [(.ref b3), (.ref sr)])) (fun _ k => XS.aload X16.here hx rfl (hb hby d_si4_52) rfl rfl k) ?_
  obtain ⟨T25, h25, X25, e25, W25, st25⟩ := putF X16 hx hZ hown (host := "") (Or.inl (hw _ (List.mem_of_getElem? (i := 24) rfl))) Via.refl e16 f19 f18 (Or.inr ⟨(hw _ (List.mem_of_getElem? (i := 20) rfl)), rfl, hnm⟩) (hw _ (List.mem_of_getElem? (i := 5) rfl)) (ty := (.array .byte)) (by decide) rfl rfl (g := (mkF m 54 #[.val (.ref sr), .val (.ref cr), .val (.int (0 : Int32)), .val (.int (NI ul.length)), .val .null, .val (.ref b3)] [(.ref b3), (.ref sr)])) rfl rfl (hb hby d_si4_54)
  have N26 := Fr.snoc X25 N17 g0
  have f27 := f18.wr W25
  have f28 := f19.same W25
  have f29 := f20.other W25 (Or.inr (slot_ne (Or.inr (hw _ (List.mem_of_getElem? (i := 21) rfl))) (Or.inr (hw _ (List.mem_of_getElem? (i := 20) rfl))) (by decide) (t := .byte) (t' := (.array .byte)) (by decide) (by decide)))
  have f30 := f21.other W25 (Ne.symm hne)
  have f31 := f22.wr W25
  have f32 := f23.other W25 (Ne.symm ne5)
  have K33 := K24.wr W25 (Or.inl (List.mem_of_getElem? (i := 0) rfl))
  refine OGo.go (U' := T25.setTop (mkF m 57 #[.val (.ref sr), .val (.ref cr), .val (.int (0 : Int32)), .val (.int (NI ul.length)), .val .null, .val (.ref b3)] [])) st25 ?_
  refine OGo.ret0 X25 hx hret hlk (hb hby d_si4_57) ?_ (by decide) (by decide)
  rw [e25]
  exact ⟨rfl, N26, K33, f27, (show nar .byte (0 : Int32) = 0 from by decide) ▸ f29, b3, k3, f28, f32, sz8⟩
theorem d_si1_0 : decode jdk_42_method_3_code 0 = .ok (.aload_n 0, 1) := by decide +kernel
theorem d_si1_1 : decode jdk_42_method_3_code 1 = .ok (.aload_n 1, 1) := by decide +kernel
theorem d_si1_2 : decode jdk_42_method_3_code 2 = .ok (.iconst 0, 1) := by decide +kernel
theorem d_si1_3 : decode jdk_42_method_3_code 3 = .ok (.aload_n 1, 1) := by decide +kernel
theorem d_si1_4 : decode jdk_42_method_3_code 4 = .ok (.arraylength, 1) := by decide +kernel
theorem d_si1_5 : decode jdk_42_method_3_code 5 = .ok (.aconst_null, 1) := by decide +kernel
theorem d_si1_6 : decode jdk_42_method_3_code 6 = .ok (.invokespecial 27, 3) := by decide +kernel
theorem d_si1_9 : decode jdk_42_method_3_code 9 = .ok (.return_, 1) := by decide +kernel
theorem ef_si1 (m : MethodId) (sr cr : Addr) (ul : List Int32) : entryFrame m #[(.ref sr), (.ref cr)] 2 = mkF m 0 #[.val (.ref sr), .val (.ref cr)] [] := by first | (simp [entryFrame, mkF, argsToLocals, Value.category]; done) | rfl
theorem pn_si1 : plainFor (⟨"java/lang/String", "<init>", "([C)V"⟩ : MethodName) = true := by first | exact plainFor_of_name (by first | (simp [plainName, overriddenIn]; done) | decide +kernel) | decide +kernel
set_option maxRecDepth 65536 in
set_option maxHeartbeats 40000000 in
theorem rm_si1 (l : Launch) (Z : State) (a0 : Array Value) (hw : ∀ d ∈ tables_1, d.before a0 Z = true) (sr cr : Addr) (ul : List Int32) (u_value u_coder : Value) (kc : ClassId) (cs : Int32) (n0 : Nat) (h0 : Heap) (Z0 : n0 ≤ h0.size) (Es : Exa Z h0 sr "java/lang/String") (F_value : Fld Z h0 sr "java/lang/String" "value" "[B" u_value) (F_coder : Fld Z h0 sr "java/lang/String" "coder" "B" u_coder) (g0 : n0 ≤ sr) (hne : sr ≠ cr) (Ac : Arv Z h0 cr kc .char (NI ul.length) (ul.map Value.int) (.int 0)) (hul : ∀ u ∈ ul, ¬ (255 : Int32) < u) (hu1 : 1 ≤ ul.length) (hu2 : ul.length ≤ 24) (S0 : Sta Z h0 "java/lang/String" "COMPACT_STRINGS" "Z" (.int cs)) (hcs : ¬ cs = 0) :
    OMet l Z (⟨"java/lang/String", "<init>", "([C)V"⟩ : MethodName) jdk_42_method_3_code 2 none [] ({ frames := 3, cells := 1, slots := 24, locals := 55 } : Room) #[(.ref sr), (.ref cr)] h0 (fun v h L => v = none ∧ Fr n0 L ∧ Keep h0 h [sr] ∧ Exa Z h sr "java/lang/String" ∧ Fld Z h sr "java/lang/String" "coder" "B" (.int 0) ∧ ∃ (b : Addr) (k : ClassId), Fld Z h sr "java/lang/String" "value" "[B" (.ref b) ∧ Arv Z h b k .byte (NI ul.length) (ul.map BV) (.int 0) ∧ h0.size ≤ b) := by
  refine OMet.of pn_si1 ?_
  intro p e s m below meth c T0 X0 hx hby hml hown0 hnm hret hlk hZ e0
  have hown : s.vm.findClass "java/lang/String" = some m.cls := hown0
  refine OGo.go (fun t k => castTop (ef_si1 m sr cr ul) k) ?_
  refine OGo.go (U' := T0.setTop (mkF m 1 #[.val (.ref sr), .val (.ref cr)] [(.ref sr)])) (fun _ k => XS.aloadN X0.here hx rfl (hb hby d_si1_0) rfl rfl k) ?_
  refine OGo.go (U' := T0.setTop (mkF m 2 #[.val (.ref sr), .val (.ref cr)] [(.ref cr), (.ref sr)])) (fun _ k => XS.aloadN X0.here hx rfl (hb hby d_si1_1) rfl rfl k) ?_
  refine OGo.go (U' := T0.setTop (mkF m 3 #[.val (.ref sr), .val (.ref cr)] [(.int (0 : Int32)), (.ref cr), (.ref sr)])) (fun _ k => XS.iconst X0.here hx rfl (hb hby d_si1_2) k) ?_
  refine OGo.go (U' := T0.setTop (mkF m 4 #[.val (.ref sr), .val (.ref cr)] [(.ref cr), (.int (0 : Int32)), (.ref cr), (.ref sr)])) (fun _ k => XS.aloadN X0.here hx rfl (hb hby d_si1_3) rfl rfl k) ?_
  refine OGo.go (U' := T0.setTop (mkF m 5 #[.val (.ref sr), .val (.ref cr)] [(.int (NI ul.length)), (.int (0 : Int32)), (.ref cr), (.ref sr)])) (fun _ k => Arv.len' X0 hx hZ e0 Ac (g := (mkF m 4 #[.val (.ref sr), .val (.ref cr)] [(.ref cr), (.int (0 : Int32)), (.ref cr), (.ref sr)])) rfl rfl (hb hby d_si1_4) _ k) ?_
  refine OGo.go (U' := T0.setTop (mkF m 6 #[.val (.ref sr), .val (.ref cr)] [.null, (.int (NI ul.length)), (.int (0 : Int32)), (.ref cr), (.ref sr)])) (fun _ k => XS.aconstNull X0.here hx rfl (hb hby d_si1_5) k) ?_
  refine OGo.callI X0 hx hZ (y := (⟨"java/lang/String", "<init>", "([CIILjava/lang/Void;)V"⟩ : MethodName)) rfl hown (hw _ (List.mem_of_getElem? (i := 11) rfl)) (hw _ (List.mem_of_getElem? (i := 12) rfl)) (hw _ (List.mem_of_getElem? (i := 6) rfl)) (hw _ (List.mem_of_getElem? (i := 14) rfl)) (by decide) (g := (mkF m 6 #[.val (.ref sr), .val (.ref cr)] [.null, (.int (NI ul.length)), (.int (0 : Int32)), (.ref cr), (.ref sr)])) (a := sr) (argsL := [(.ref cr), (.int (0 : Int32)), (.int (NI ul.length)), .null]) (rest := []) e0 (rm_si4 l Z a0 hw sr cr ul u_value u_coder kc cs n0 h0 Z0 Es F_value F_coder g0 hne Ac hul hu1 hu2 S0 hcs) rfl (by rw [hml]; rfl) (lenOf pd_22 rfl) rfl (W := 0) (by show 2 * 0 + _ ≤ _; exact Nat.le_of_eq rfl) (hb hby d_si1_6) (by decide) (by decide) (by decide) (by decide) ?_
  rintro _ T2 L2 X2 ⟨rfl, N2, K2, Es2, sc2, b2, k2, sv2, A2, gb2⟩
  have e2 : T2.heap = T2.heap := rfl
  have N3 := Fr.app (Fr.nil n0) N2
  have f4 := Es.keep K2
  have f5 := Ac.keep K2 (ninS (Ne.symm hne) nin0)
  have f6 := own_sta_keep S0 K2 (allS (P := fun x => ∀ cell : Cell, _ → cell.vm.isStatics = false) (own_plain Es) all0)
  have K7 := (Keep.refl h0 [sr]).trans K2 (allS (P := fun x => x ∈ _ ∨ _ ≤ x) (Or.inl (List.mem_of_getElem? (i := 0) rfl)) all0)
  have sz2 := Nat.le_trans (Keep.refl h0 [sr]).1 gb2
  show OGo p e below _ (T2.setTop (mkF m 9 #[.val (.ref sr), .val (.ref cr)] []))
  refine OGo.ret0 X2 hx hret hlk (hb hby d_si1_9) ?_ (by decide) (by decide)
  rw [e2]
  exact ⟨rfl, N3, K7, Es2, sc2, b2, k2, sv2, A2, sz2⟩
theorem b8_32 : B8 (nar .char (32 : Int32)) = 32 := by decide
theorem b8_34 : B8 (nar .char (34 : Int32)) = 34 := by decide
theorem b8_60 : B8 (nar .char (60 : Int32)) = 60 := by decide
theorem b8_61 : B8 (nar .char (61 : Int32)) = 61 := by decide
theorem b8_62 : B8 (nar .char (62 : Int32)) = 62 := by decide
theorem b8_63 : B8 (nar .char (63 : Int32)) = 63 := by decide
theorem b8_101 : B8 (nar .char (101 : Int32)) = 101 := by decide
theorem b8_105 : B8 (nar .char (105 : Int32)) = 105 := by decide
theorem b8_108 : B8 (nar .char (108 : Int32)) = 108 := by decide
theorem b8_109 : B8 (nar .char (109 : Int32)) = 109 := by decide
theorem b8_110 : B8 (nar .char (110 : Int32)) = 110 := by decide
theorem b8_111 : B8 (nar .char (111 : Int32)) = 111 := by decide
theorem b8_114 : B8 (nar .char (114 : Int32)) = 114 := by decide
theorem b8_115 : B8 (nar .char (115 : Int32)) = 115 := by decide
theorem b8_118 : B8 (nar .char (118 : Int32)) = 118 := by decide
theorem b8_120 : B8 (nar .char (120 : Int32)) = 120 := by decide
abbrev tPre : List Value := [.int 60, .int 63, .int 120, .int 109, .int 108, .int 32, .int 118, .int 101, .int 114, .int 115, .int 105, .int 111, .int 110, .int 61, .int 34]
abbrev tPost : List Value := [.int 34, .int 63, .int 62]
def vc (x : Int32) : Value := .int (B8 (nar .char x))
def vlist (n x y z : Int32) : List Value := if n = 0 then [] else if n = 1 then [vc x] else if n = 2 then [vc x, vc y] else [vc x, vc y, vc z]
def elist (n x y z : Int32) : List Value := tPre ++ vlist n x y z ++ tPost
abbrev own_EL : List (String × Nat) := [("com/example/loomwire/loomwire/soap/XmlWriter", 52), ("com/example/loomwire/loomwire/soap/XmlWriter", 58), ("java/lang/String", 7)]
theorem d_si4_0_0 : decode jdk_42_method_149_code 0 = .ok (.aload_n 0, 1) := by decide +kernel
theorem d_si4_0_1 : decode jdk_42_method_149_code 1 = .ok (.invokespecial 1, 3) := by decide +kernel
theorem d_si4_0_4 : decode jdk_42_method_149_code 4 = .ok (.iload_n 3, 1) := by decide +kernel
theorem d_si4_0_5 : decode jdk_42_method_149_code 5 = .ok (.ifCond .ne 22, 3) := by decide +kernel
theorem d_si4_0_8 : decode jdk_42_method_149_code 8 = .ok (.aload_n 0, 1) := by decide +kernel
theorem d_si4_0_9 : decode jdk_42_method_149_code 9 = .ok (.ldc 7, 2) := by decide +kernel
theorem d_si4_0_11 : decode jdk_42_method_149_code 11 = .ok (.getfield 9, 3) := by decide +kernel
theorem d_si4_0_14 : decode jdk_42_method_149_code 14 = .ok (.putfield 9, 3) := by decide +kernel
theorem d_si4_0_17 : decode jdk_42_method_149_code 17 = .ok (.aload_n 0, 1) := by decide +kernel
theorem d_si4_0_18 : decode jdk_42_method_149_code 18 = .ok (.ldc 7, 2) := by decide +kernel
theorem d_si4_0_20 : decode jdk_42_method_149_code 20 = .ok (.getfield 15, 3) := by decide +kernel
theorem d_si4_0_23 : decode jdk_42_method_149_code 23 = .ok (.putfield 15, 3) := by decide +kernel
theorem d_si4_0_26 : decode jdk_42_method_149_code 26 = .ok (.return_, 1) := by decide +kernel
theorem ef_si4_0 (m : MethodId) (sr cr : Addr) : entryFrame m #[(.ref sr), (.ref cr), (.int (0 : Int32)), (.int (0 : Int32)), .null] 6 = mkF m 0 #[.val (.ref sr), .val (.ref cr), .val (.int (0 : Int32)), .val (.int (0 : Int32)), .val .null, .unset] [] := by first | (simp [entryFrame, mkF, argsToLocals, Value.category]; done) | rfl
theorem pn_si4_0 : plainFor (⟨"java/lang/String", "<init>", "([CIILjava/lang/Void;)V"⟩ : MethodName) = true := by first | exact plainFor_of_name (by first | (simp [plainName, overriddenIn]; done) | decide +kernel) | decide +kernel
set_option maxRecDepth 65536 in
set_option maxHeartbeats 40000000 in
theorem rm_si4_0 (l : Launch) (Z : State) (a0 : Array Value) (hw : ∀ d ∈ tables_1, d.before a0 Z = true) (sr cr : Addr) (u_value u_coder : Value) (kc : ClassId) (n0 : Nat) (h0 : Heap) (Z0 : n0 ≤ h0.size) (Es : Exa Z h0 sr "java/lang/String") (F_value : Fld Z h0 sr "java/lang/String" "value" "[B" u_value) (F_coder : Fld Z h0 sr "java/lang/String" "coder" "B" u_coder) (g0 : n0 ≤ sr) (Ac : Arv Z h0 cr kc .char 0 [] (.int 0)) (hne : sr ≠ cr) :
    OMetK l Z own_EL [sr] (⟨"java/lang/String", "<init>", "([CIILjava/lang/Void;)V"⟩ : MethodName) jdk_42_method_149_code 6 none [] ({ frames := 1, cells := 4, slots := 8, locals := 14 } : Room) #[(.ref sr), (.ref cr), (.int (0 : Int32)), (.int (0 : Int32)), .null] h0 (fun v h L => v = none ∧ Fr n0 L ∧ Keep h0 h [sr] ∧ Exa Z h sr "java/lang/String" ∧ Fld Z h sr "java/lang/String" "coder" "B" (.int 0) ∧ ∃ (b : Addr) (k : ClassId), Fld Z h sr "java/lang/String" "value" "[B" (.ref b) ∧ Arv Z h b k .byte 0 [] (.int 0)) := by
  refine OMetK.of pn_si4_0 ?_
  intro p e s m below meth c T0 X0 hx hby hml hown0 hnm hret hlk hZ e0 hs0 Cv0 Sf0
  have C0 := CHr.refl Cv0
  have hown : s.vm.findClass "java/lang/String" = some m.cls := hown0
  refine OGo.go (fun t k => castTop (ef_si4_0 m sr cr) k) ?_
  have wS : ∀ a ∈ Bundle.stringAtoms, a.before a0 Z = true := fun d hd => by
    simp only [Bundle.stringAtoms, List.mem_cons, List.not_mem_nil, or_false] at hd
    rcases hd with rfl | rfl | rfl | rfl | rfl | rfl | rfl
    all_goals first | exact hw _ (List.mem_of_getElem? (i := 6) rfl) | exact hw _ (List.mem_of_getElem? (i := 5) rfl) | exact hw _ (List.mem_of_getElem? (i := 19) rfl) | exact hw _ (List.mem_of_getElem? (i := 20) rfl) | exact hw _ (List.mem_of_getElem? (i := 21) rfl) | exact hw _ (List.mem_of_getElem? (i := 22) rfl) | exact hw _ (List.mem_of_getElem? (i := 23) rfl)
  have hEL : EW Z a0 own_EL := EW.cons (hw _ (List.mem_of_getElem? (i := 123) rfl)) (by decide +kernel) (EW.cons (hw _ (List.mem_of_getElem? (i := 171) rfl)) (by decide +kernel) (EW.cons (hw _ (List.mem_of_getElem? (i := 18) rfl)) (by decide +kernel) EW.nil))
  refine OGo.go (U' := T0.setTop (mkF m 1 #[.val (.ref sr), .val (.ref cr), .val (.int (0 : Int32)), .val (.int (0 : Int32)), .val .null, .unset] [(.ref sr)])) (fun _ k => XS.aloadN X0.here hx rfl (hb hby d_si4_0_0) rfl rfl k) ?_
  obtain ⟨T1, X1, e1, st1⟩ := initO X0 hx hZ hown (hw _ (List.mem_of_getElem? (i := 15) rfl)) (hw _ (List.mem_of_getElem? (i := 16) rfl)) (hw _ (List.mem_of_getElem? (i := 17) rfl)) e0 (g := (mkF m 1 #[.val (.ref sr), .val (.ref cr), .val (.int (0 : Int32)), .val (.int (0 : Int32)), .val .null, .unset] [(.ref sr)])) rfl (by rw [hml]; rfl) rfl (hb hby d_si4_0_1) (by decide) (W := 0) (by show 2 * 0 + _ ≤ _; exact Nat.le_of_eq rfl) (by decide)
  refine OGo.go (U' := T1.setTop (mkF m 4 #[.val (.ref sr), .val (.ref cr), .val (.int (0 : Int32)), .val (.int (0 : Int32)), .val .null, .unset] [])) st1 ?_
  refine OGo.go (U' := T1.setTop (mkF m 5 #[.val (.ref sr), .val (.ref cr), .val (.int (0 : Int32)), .val (.int (0 : Int32)), .val .null, .unset] [(.int (0 : Int32))])) (fun _ k => XS.iloadN X1.here hx rfl (hb hby d_si4_0_4) rfl k) ?_
  refine OGo.go (U' := T1.setTop (mkF m 8 #[.val (.ref sr), .val (.ref cr), .val (.int (0 : Int32)), .val (.int (0 : Int32)), .val .null, .unset] [])) (fun _ k => XS.ifNo X1.here hx rfl (hb hby d_si4_0_5) rfl ((if0 _ _).trans (teq rfl).2) k) ?_
  refine OGo.go (U' := T1.setTop (mkF m 9 #[.val (.ref sr), .val (.ref cr), .val (.int (0 : Int32)), .val (.int (0 : Int32)), .val .null, .unset] [(.ref sr)])) (fun _ k => XS.aloadN X1.here hx rfl (hb hby d_si4_0_8) rfl rfl k) ?_
  obtain ⟨a2, T2, h2, k2, d2, kk2, X2, e2, E2, hS2, hk2, hZ2, hown2, Ea2, Fc2, Fv2, Ab2, -, -, Ch2, -, sfe2, st2⟩ := ldcCH (s := s) (vm0 := s.vm) X1 hx hZ hown (hw _ (List.mem_of_getElem? (i := 18) rfl)) wS e1 ((State.WarmedH.refl s).since 0) (Nat.zero_le _) hEL (by simp [own_EL]) C0.1 (vs := []) (z := 0) ⟨by decide +kernel, by decide +kernel⟩ (by decide) (by decide) (g := (mkF m 9 #[.val (.ref sr), .val (.ref cr), .val (.int (0 : Int32)), .val (.int (0 : Int32)), .val .null, .unset] [(.ref sr)])) rfl (hb hby d_si4_0_9) (n := 0) (by decide +kernel) (by decide) (by decide) (by decide)
  have Sf3 := Ch2.safe Es.lt (Sf0 _ (List.mem_singleton.mpr rfl))
  obtain ⟨naSf3, nbSf3⟩ := sfe2 _ Sf3
  have f4 := Es.ext E2
  have f5 := F_value.ext E2
  have f6 := F_coder.ext E2
  have K7 := (Keep.refl h0 [sr]).ext E2
  refine OGo.go (U' := T2.setTop (mkF m 11 #[.val (.ref sr), .val (.ref cr), .val (.int (0 : Int32)), .val (.int (0 : Int32)), .val .null, .unset] [(.ref a2), (.ref sr)])) st2 ?_
  obtain ⟨T8, X8, e8, st8⟩ := getF X2 hx hZ2 hown2 (host := "") (Or.inl (hw _ (List.mem_of_getElem? (i := 24) rfl))) Via.refl e2 Fv2 (g := (mkF m 11 #[.val (.ref sr), .val (.ref cr), .val (.int (0 : Int32)), .val (.int (0 : Int32)), .val .null, .unset] [(.ref a2), (.ref sr)])) rfl rfl (hb hby d_si4_0_11)
  refine OGo.go (U' := T8.setTop (mkF m 14 #[.val (.ref sr), .val (.ref cr), .val (.int (0 : Int32)), .val (.int (0 : Int32)), .val .null, .unset] [(.ref d2), (.ref sr)])) st8 ?_
  obtain ⟨T9, h9, X9, e9, W9, st9⟩ := putF X8 hx hZ2 hown2 (host := "") (Or.inl (hw _ (List.mem_of_getElem? (i := 24) rfl))) Via.refl e8 f5 f4 (Or.inr ⟨(hw _ (List.mem_of_getElem? (i := 20) rfl)), rfl, hnm⟩) (hw _ (List.mem_of_getElem? (i := 5) rfl)) (ty := (.array .byte)) (by decide) rfl rfl (g := (mkF m 14 #[.val (.ref sr), .val (.ref cr), .val (.int (0 : Int32)), .val (.int (0 : Int32)), .val .null, .unset] [(.ref d2), (.ref sr)])) rfl rfl (hb hby d_si4_0_14)
  have N10 := Fr.snoc X9 (Fr.nil n0) g0
  have C11 := CHr.trans (C0.trans Ch2) (CHr.wr W9 Sf3 (C0.trans Ch2).1)
  have Sf12 := Safe.wr W9 Sf3 (C0.trans Ch2).1 Sf3
  have f13 := f4.wr W9
  have f14 := f5.same W9
  have f15 := f6.other W9 (Or.inr (slot_ne (Or.inr (hw _ (List.mem_of_getElem? (i := 21) rfl))) (Or.inr (hw _ (List.mem_of_getElem? (i := 20) rfl))) (by decide) (t := .byte) (t' := (.array .byte)) (by decide) (by decide)))
  have f16 := Ea2.wr W9
  have f17 := Fc2.other W9 (Or.inl (Ne.symm naSf3))
  have f18 := Fv2.other W9 (Or.inl (Ne.symm naSf3))
  have f19 := Ab2.other W9 (Ne.symm nbSf3)
  have K20 := K7.wr W9 (Or.inl (List.mem_of_getElem? (i := 0) rfl))
  refine OGo.go (U' := T9.setTop (mkF m 17 #[.val (.ref sr), .val (.ref cr), .val (.int (0 : Int32)), .val (.int (0 : Int32)), .val .null, .unset] [])) st9 ?_
  refine OGo.go (U' := T9.setTop (mkF m 18 #[.val (.ref sr), .val (.ref cr), .val (.int (0 : Int32)), .val (.int (0 : Int32)), .val .null, .unset] [(.ref sr)])) (fun _ k => XS.aloadN X9.here hx rfl (hb hby d_si4_0_17) rfl rfl k) ?_
  obtain ⟨a21, T21, h21, k21, d21, kk21, X21, e21, E21, hS21, hk21, hZ21, hown21, Ea21, Fc21, Fv21, Ab21, -, -, Ch21, -, sfe21, st21⟩ := ldcCH (s := s) (vm0 := T2.vm) X9 hx hZ2 hown2 (hw _ (List.mem_of_getElem? (i := 18) rfl)) wS e9 hS2 (Nat.le_trans hk2 (Keep.of_wr W9).1) hEL (by simp [own_EL]) C11.1 (vs := []) (z := 0) ⟨by decide +kernel, by decide +kernel⟩ (by decide) (by decide) (g := (mkF m 18 #[.val (.ref sr), .val (.ref cr), .val (.int (0 : Int32)), .val (.int (0 : Int32)), .val .null, .unset] [(.ref sr)])) rfl (hb hby d_si4_0_18) (n := 0) (by decide +kernel) (by decide) (by decide) (by decide)
  have Sf22 := Ch21.safe f13.lt Sf12
  obtain ⟨naSf22, nbSf22⟩ := sfe21 _ Sf22
  have f23 := f13.ext E21
  have f24 := f14.ext E21
  have f25 := f15.ext E21
  have f26 := f16.ext E21
  have f27 := f17.ext E21
  have f28 := f18.ext E21
  have f29 := f19.ext E21
  have K30 := K20.ext E21
  refine OGo.go (U' := T21.setTop (mkF m 20 #[.val (.ref sr), .val (.ref cr), .val (.int (0 : Int32)), .val (.int (0 : Int32)), .val .null, .unset] [(.ref a21), (.ref sr)])) st21 ?_
  obtain ⟨T31, X31, e31, st31⟩ := getF X21 hx hZ21 hown21 (host := "") (Or.inl (hw _ (List.mem_of_getElem? (i := 25) rfl))) Via.refl e21 Fc21 (g := (mkF m 20 #[.val (.ref sr), .val (.ref cr), .val (.int (0 : Int32)), .val (.int (0 : Int32)), .val .null, .unset] [(.ref a21), (.ref sr)])) rfl rfl (hb hby d_si4_0_20)
  refine OGo.go (U' := T31.setTop (mkF m 23 #[.val (.ref sr), .val (.ref cr), .val (.int (0 : Int32)), .val (.int (0 : Int32)), .val .null, .unset] [(.int (0 : Int32)), (.ref sr)])) st31 ?_
  obtain ⟨T32, h32, X32, e32, W32, st32⟩ := putFN X31 hx hZ21 hown21 (hw _ (List.mem_of_getElem? (i := 25) rfl)) Via.refl e31 f25 f23 (Or.inr ⟨(hw _ (List.mem_of_getElem? (i := 21) rfl)), rfl, hnm⟩) (hw _ (List.mem_of_getElem? (i := 5) rfl)) (ty := .byte) (v' := (.int (nar .byte (0 : Int32)))) (by decide) rfl (fits_nar_byte _) (g := (mkF m 23 #[.val (.ref sr), .val (.ref cr), .val (.int (0 : Int32)), .val (.int (0 : Int32)), .val .null, .unset] [(.int (0 : Int32)), (.ref sr)])) rfl rfl (hb hby d_si4_0_23)
  have N33 := Fr.snoc X32 N10 g0
  have C34 := CHr.trans (C11.trans Ch21) (CHr.wr W32 Sf22 (C11.trans Ch21).1)
  have Sf35 := Safe.wr W32 Sf22 (C11.trans Ch21).1 Sf22
  have f36 := f23.wr W32
  have f37 := f24.other W32 (Or.inr (slot_ne (Or.inr (hw _ (List.mem_of_getElem? (i := 20) rfl))) (Or.inr (hw _ (List.mem_of_getElem? (i := 21) rfl))) (by decide) (t := (.array .byte)) (t' := .byte) (by decide) (by decide)))
  have f38 := f25.same W32
  have f39 := f26.wr W32
  have f40 := f27.other W32 (Or.inl (Ne.symm naSf3))
  have f41 := f28.other W32 (Or.inl (Ne.symm naSf3))
  have f42 := f29.other W32 (Ne.symm nbSf3)
  have f43 := Ea21.wr W32
  have f44 := Fc21.other W32 (Or.inl (Ne.symm naSf22))
  have f45 := Fv21.other W32 (Or.inl (Ne.symm naSf22))
  have f46 := Ab21.other W32 (Ne.symm nbSf22)
  have K47 := K30.wr W32 (Or.inl (List.mem_of_getElem? (i := 0) rfl))
  refine OGo.go (U' := T32.setTop (mkF m 26 #[.val (.ref sr), .val (.ref cr), .val (.int (0 : Int32)), .val (.int (0 : Int32)), .val .null, .unset] [])) st32 ?_
  refine OGo.ret0H (s := s) (vm₁ := T21.vm) X32 hS21 e32 (Nat.le_trans hk21 (Keep.of_wr W32).1) hZ21 hEL hs0 C34 hx hret hlk (hb hby d_si4_0_26) ?_ (by decide) (by decide)
  exact ⟨rfl, N33, K47, f36, (show nar .byte (0 : Int32) = 0 from by decide) ▸ f38, d2, kk2, f37, f42⟩
theorem d_si1_0_0 : decode jdk_42_method_3_code 0 = .ok (.aload_n 0, 1) := by decide +kernel
theorem d_si1_0_1 : decode jdk_42_method_3_code 1 = .ok (.aload_n 1, 1) := by decide +kernel
theorem d_si1_0_2 : decode jdk_42_method_3_code 2 = .ok (.iconst 0, 1) := by decide +kernel
theorem d_si1_0_3 : decode jdk_42_method_3_code 3 = .ok (.aload_n 1, 1) := by decide +kernel
theorem d_si1_0_4 : decode jdk_42_method_3_code 4 = .ok (.arraylength, 1) := by decide +kernel
theorem d_si1_0_5 : decode jdk_42_method_3_code 5 = .ok (.aconst_null, 1) := by decide +kernel
theorem d_si1_0_6 : decode jdk_42_method_3_code 6 = .ok (.invokespecial 27, 3) := by decide +kernel
theorem d_si1_0_9 : decode jdk_42_method_3_code 9 = .ok (.return_, 1) := by decide +kernel
theorem ef_si1_0 (m : MethodId) (sr : Addr) (cr : Addr) : entryFrame m #[(.ref sr), (.ref cr)] 2 = mkF m 0 #[.val (.ref sr), .val (.ref cr)] [] := by first | (simp [entryFrame, mkF, argsToLocals, Value.category]; done) | rfl
theorem pn_si1_0 : plainFor (⟨"java/lang/String", "<init>", "([C)V"⟩ : MethodName) = true := by first | exact plainFor_of_name (by first | (simp [plainName, overriddenIn]; done) | decide +kernel) | decide +kernel
set_option maxRecDepth 65536 in
set_option maxHeartbeats 40000000 in
theorem rm_si1_0 (l : Launch) (Z : State) (a0 : Array Value) (hw : ∀ d ∈ tables_1, d.before a0 Z = true) (sr : Addr) (cr : Addr) (u_value u_coder : Value) (kc : ClassId) (n0 : Nat) (h0 : Heap) (Z0 : n0 ≤ h0.size) (Es : Exa Z h0 sr "java/lang/String") (F_value : Fld Z h0 sr "java/lang/String" "value" "[B" u_value) (F_coder : Fld Z h0 sr "java/lang/String" "coder" "B" u_coder) (g0 : n0 ≤ sr) (Ac : Arv Z h0 cr kc .char 0 [] (.int 0)) (hne : sr ≠ cr) :
    OMetK l Z own_EL [sr] (⟨"java/lang/String", "<init>", "([C)V"⟩ : MethodName) jdk_42_method_3_code 2 none [] ({ frames := 2, cells := 4, slots := 8, locals := 32 } : Room) #[(.ref sr), (.ref cr)] h0 (fun v h L => v = none ∧ Fr n0 L ∧ Keep h0 h [sr] ∧ Exa Z h sr "java/lang/String" ∧ Fld Z h sr "java/lang/String" "coder" "B" (.int 0) ∧ ∃ (b : Addr) (k : ClassId), Fld Z h sr "java/lang/String" "value" "[B" (.ref b) ∧ Arv Z h b k .byte 0 [] (.int 0)) := by
  refine OMetK.of pn_si1_0 ?_
  intro p e s m below meth c T0 X0 hx hby hml hown0 hnm hret hlk hZ e0 hs0 Cv0 Sf0
  have C0 := CHr.refl Cv0
  have hown : s.vm.findClass "java/lang/String" = some m.cls := hown0
  refine OGo.go (fun t k => castTop (ef_si1_0 m sr cr) k) ?_
  have wS : ∀ a ∈ Bundle.stringAtoms, a.before a0 Z = true := fun d hd => by
    simp only [Bundle.stringAtoms, List.mem_cons, List.not_mem_nil, or_false] at hd
    rcases hd with rfl | rfl | rfl | rfl | rfl | rfl | rfl
    all_goals first | exact hw _ (List.mem_of_getElem? (i := 6) rfl) | exact hw _ (List.mem_of_getElem? (i := 5) rfl) | exact hw _ (List.mem_of_getElem? (i := 19) rfl) | exact hw _ (List.mem_of_getElem? (i := 20) rfl) | exact hw _ (List.mem_of_getElem? (i := 21) rfl) | exact hw _ (List.mem_of_getElem? (i := 22) rfl) | exact hw _ (List.mem_of_getElem? (i := 23) rfl)
  have hEL : EW Z a0 own_EL := EW.cons (hw _ (List.mem_of_getElem? (i := 123) rfl)) (by decide +kernel) (EW.cons (hw _ (List.mem_of_getElem? (i := 171) rfl)) (by decide +kernel) (EW.cons (hw _ (List.mem_of_getElem? (i := 18) rfl)) (by decide +kernel) EW.nil))
  refine OGo.go (U' := T0.setTop (mkF m 1 #[.val (.ref sr), .val (.ref cr)] [(.ref sr)])) (fun _ k => XS.aloadN X0.here hx rfl (hb hby d_si1_0_0) rfl rfl k) ?_
  refine OGo.go (U' := T0.setTop (mkF m 2 #[.val (.ref sr), .val (.ref cr)] [(.ref cr), (.ref sr)])) (fun _ k => XS.aloadN X0.here hx rfl (hb hby d_si1_0_1) rfl rfl k) ?_
  refine OGo.go (U' := T0.setTop (mkF m 3 #[.val (.ref sr), .val (.ref cr)] [(.int (0 : Int32)), (.ref cr), (.ref sr)])) (fun _ k => XS.iconst X0.here hx rfl (hb hby d_si1_0_2) k) ?_
  refine OGo.go (U' := T0.setTop (mkF m 4 #[.val (.ref sr), .val (.ref cr)] [(.ref cr), (.int (0 : Int32)), (.ref cr), (.ref sr)])) (fun _ k => XS.aloadN X0.here hx rfl (hb hby d_si1_0_3) rfl rfl k) ?_
  refine OGo.go (U' := T0.setTop (mkF m 5 #[.val (.ref sr), .val (.ref cr)] [(.int (0 : Int32)), (.int (0 : Int32)), (.ref cr), (.ref sr)])) (fun _ k => Arv.len' X0 hx hZ e0 Ac (g := (mkF m 4 #[.val (.ref sr), .val (.ref cr)] [(.ref cr), (.int (0 : Int32)), (.ref cr), (.ref sr)])) rfl rfl (hb hby d_si1_0_4) _ k) ?_
  refine OGo.go (U' := T0.setTop (mkF m 6 #[.val (.ref sr), .val (.ref cr)] [.null, (.int (0 : Int32)), (.int (0 : Int32)), (.ref cr), (.ref sr)])) (fun _ k => XS.aconstNull X0.here hx rfl (hb hby d_si1_0_5) k) ?_
  refine OGo.callIK (s := s) (vm0 := s.vm) X0 hx hZ ((State.WarmedH.refl s).since 0) (Nat.zero_le _) hEL C0.1 (fun x hx => by obtain rfl := List.mem_singleton.mp hx; exact ⟨Es.lt, (Sf0 _ (List.mem_singleton.mpr rfl))⟩) (y := (⟨"java/lang/String", "<init>", "([CIILjava/lang/Void;)V"⟩ : MethodName)) hown (g := (mkF m 6 #[.val (.ref sr), .val (.ref cr)] [.null, (.int (0 : Int32)), (.int (0 : Int32)), (.ref cr), (.ref sr)])) (argsL := [(.ref cr), (.int (0 : Int32)), (.int (0 : Int32)), .null]) (rest := []) e0 (a := sr) rfl (hw _ (List.mem_of_getElem? (i := 11) rfl)) (hw _ (List.mem_of_getElem? (i := 12) rfl)) (hw _ (List.mem_of_getElem? (i := 6) rfl)) (hw _ (List.mem_of_getElem? (i := 14) rfl)) (by decide) (rm_si4_0 l Z a0 hw sr cr u_value u_coder kc n0 h0 Z0 Es F_value F_coder g0 Ac hne) rfl (by rw [hml]; rfl) (lenOf pd_22 rfl) rfl (W := 0) (by show 2 * 0 + _ ≤ _; exact Nat.le_of_eq rfl) (hb hby d_si1_0_6) (by decide) (by decide) (by decide) (by decide) ?_
  rintro _ T2 L2 X2 ⟨rfl, N2, K2, Es2, sc2, b2, k2, sv2, A2⟩ hS2 hZ2 hown2 Ch2
  have e2 : T2.heap = T2.heap := rfl
  have N3 := Fr.app (Fr.nil n0) N2
  have f4 := Es.keep K2
  have K5 := (Keep.refl h0 [sr]).trans K2 (allS (P := fun x => x ∈ _ ∨ _ ≤ x) (Or.inl (List.mem_of_getElem? (i := 0) rfl)) all0)
  show OGo p e below _ (T2.setTop (mkF m 9 #[.val (.ref sr), .val (.ref cr)] []))
  have C6 := CHr.trans C0 Ch2
  have Sf7 := Ch2.safe Es.lt (Sf0 _ (List.mem_singleton.mpr rfl))
  refine OGo.ret0H (s := s) (vm₁ := T2.vm) X2 hS2 e2 (Nat.le_refl _) hZ2 hEL hs0 C6 hx hret hlk (hb hby d_si1_0_9) ?_ (by decide) (by decide)
  exact ⟨rfl, N3, K5, Es2, sc2, b2, k2, sv2, A2⟩
theorem own_vlist_0 {x0 x1 x2 x3 : Int32} (h0 : x0 = 0) : vlist x0 x1 x2 x3 = [] := by rw [vlist, if_pos h0]
theorem own_elist_18 {x0 x1 x2 x3 : Int32} (h0 : x0 = 0) : elist x0 x1 x2 x3 = [.int (B8 (nar .char (60 : Int32))), .int (B8 (nar .char (63 : Int32))), .int (B8 (nar .char (120 : Int32))), .int (B8 (nar .char (109 : Int32))), .int (B8 (nar .char (108 : Int32))), .int (B8 (nar .char (32 : Int32))), .int (B8 (nar .char (118 : Int32))), .int (B8 (nar .char (101 : Int32))), .int (B8 (nar .char (114 : Int32))), .int (B8 (nar .char (115 : Int32))), .int (B8 (nar .char (105 : Int32))), .int (B8 (nar .char (111 : Int32))), .int (B8 (nar .char (110 : Int32))), .int (B8 (nar .char (61 : Int32))), .int (B8 (nar .char (34 : Int32))), .int (B8 (nar .char (34 : Int32))), .int (B8 (nar .char (63 : Int32))), .int (B8 (nar .char (62 : Int32)))] := by
  rw [elist, own_vlist_0 h0]
  simp only [b8_32, b8_34, b8_60, b8_61, b8_62, b8_63, b8_101, b8_105, b8_108, b8_109, b8_110, b8_111, b8_114, b8_115, b8_118, b8_120]
  rfl
theorem own_vlist_1 {x0 x1 x2 x3 : Int32} (h0 : ¬ (x0 = 0)) (h1 : x0 = 1) : vlist x0 x1 x2 x3 = [.int (B8 (nar .char x1))] := by rw [vlist, if_neg h0, if_pos h1]; rfl
theorem own_elist_19 {x0 x1 x2 x3 : Int32} (h0 : ¬ (x0 = 0)) (h1 : x0 = 1) : elist x0 x1 x2 x3 = [.int (B8 (nar .char (60 : Int32))), .int (B8 (nar .char (63 : Int32))), .int (B8 (nar .char (120 : Int32))), .int (B8 (nar .char (109 : Int32))), .int (B8 (nar .char (108 : Int32))), .int (B8 (nar .char (32 : Int32))), .int (B8 (nar .char (118 : Int32))), .int (B8 (nar .char (101 : Int32))), .int (B8 (nar .char (114 : Int32))), .int (B8 (nar .char (115 : Int32))), .int (B8 (nar .char (105 : Int32))), .int (B8 (nar .char (111 : Int32))), .int (B8 (nar .char (110 : Int32))), .int (B8 (nar .char (61 : Int32))), .int (B8 (nar .char (34 : Int32))), .int (B8 (nar .char x1)), .int (B8 (nar .char (34 : Int32))), .int (B8 (nar .char (63 : Int32))), .int (B8 (nar .char (62 : Int32)))] := by
  rw [elist, own_vlist_1 h0 h1]
  simp only [b8_32, b8_34, b8_60, b8_61, b8_62, b8_63, b8_101, b8_105, b8_108, b8_109, b8_110, b8_111, b8_114, b8_115, b8_118, b8_120]
  rfl
theorem own_vlist_2 {x0 x1 x2 x3 : Int32} (h0 : ¬ (x0 = 0)) (h1 : ¬ (x0 = 1)) (h2 : x0 = 2) : vlist x0 x1 x2 x3 = [.int (B8 (nar .char x1)), .int (B8 (nar .char x2))] := by rw [vlist, if_neg h0, if_neg h1, if_pos h2]; rfl
theorem own_elist_20 {x0 x1 x2 x3 : Int32} (h0 : ¬ (x0 = 0)) (h1 : ¬ (x0 = 1)) (h2 : x0 = 2) : elist x0 x1 x2 x3 = [.int (B8 (nar .char (60 : Int32))), .int (B8 (nar .char (63 : Int32))), .int (B8 (nar .char (120 : Int32))), .int (B8 (nar .char (109 : Int32))), .int (B8 (nar .char (108 : Int32))), .int (B8 (nar .char (32 : Int32))), .int (B8 (nar .char (118 : Int32))), .int (B8 (nar .char (101 : Int32))), .int (B8 (nar .char (114 : Int32))), .int (B8 (nar .char (115 : Int32))), .int (B8 (nar .char (105 : Int32))), .int (B8 (nar .char (111 : Int32))), .int (B8 (nar .char (110 : Int32))), .int (B8 (nar .char (61 : Int32))), .int (B8 (nar .char (34 : Int32))), .int (B8 (nar .char x1)), .int (B8 (nar .char x2)), .int (B8 (nar .char (34 : Int32))), .int (B8 (nar .char (63 : Int32))), .int (B8 (nar .char (62 : Int32)))] := by
  rw [elist, own_vlist_2 h0 h1 h2]
  simp only [b8_32, b8_34, b8_60, b8_61, b8_62, b8_63, b8_101, b8_105, b8_108, b8_109, b8_110, b8_111, b8_114, b8_115, b8_118, b8_120]
  rfl
theorem own_vlist_3 {x0 x1 x2 x3 : Int32} (h0 : ¬ (x0 = 0)) (h1 : ¬ (x0 = 1)) (h2 : ¬ (x0 = 2)) : vlist x0 x1 x2 x3 = [.int (B8 (nar .char x1)), .int (B8 (nar .char x2)), .int (B8 (nar .char x3))] := by rw [vlist, if_neg h0, if_neg h1, if_neg h2]; rfl
theorem own_elist_21 {x0 x1 x2 x3 : Int32} (h0 : ¬ (x0 = 0)) (h1 : ¬ (x0 = 1)) (h2 : ¬ (x0 = 2)) : elist x0 x1 x2 x3 = [.int (B8 (nar .char (60 : Int32))), .int (B8 (nar .char (63 : Int32))), .int (B8 (nar .char (120 : Int32))), .int (B8 (nar .char (109 : Int32))), .int (B8 (nar .char (108 : Int32))), .int (B8 (nar .char (32 : Int32))), .int (B8 (nar .char (118 : Int32))), .int (B8 (nar .char (101 : Int32))), .int (B8 (nar .char (114 : Int32))), .int (B8 (nar .char (115 : Int32))), .int (B8 (nar .char (105 : Int32))), .int (B8 (nar .char (111 : Int32))), .int (B8 (nar .char (110 : Int32))), .int (B8 (nar .char (61 : Int32))), .int (B8 (nar .char (34 : Int32))), .int (B8 (nar .char x1)), .int (B8 (nar .char x2)), .int (B8 (nar .char x3)), .int (B8 (nar .char (34 : Int32))), .int (B8 (nar .char (63 : Int32))), .int (B8 (nar .char (62 : Int32)))] := by
  rw [elist, own_vlist_3 h0 h1 h2]
  simp only [b8_32, b8_34, b8_60, b8_61, b8_62, b8_63, b8_101, b8_105, b8_108, b8_109, b8_110, b8_111, b8_114, b8_115, b8_118, b8_120]
  rfl
theorem d_ver_0 : decode method_2_code 0 = .ok (.iload_n 0, 1) := by decide +kernel
theorem d_ver_1 : decode method_2_code 1 = .ok (.ifCond .ne 14, 3) := by decide +kernel
theorem d_ver_4 : decode method_2_code 4 = .ok (.new 7, 3) := by decide +kernel
theorem d_ver_7 : decode method_2_code 7 = .ok (.dup, 1) := by decide +kernel
theorem d_ver_8 : decode method_2_code 8 = .ok (.iconst 0, 1) := by decide +kernel
theorem d_ver_9 : decode method_2_code 9 = .ok (.newarray .char, 2) := by decide +kernel
theorem d_ver_11 : decode method_2_code 11 = .ok (.invokespecial 9, 3) := by decide +kernel
theorem d_ver_14 : decode method_2_code 14 = .ok (.areturn, 1) := by decide +kernel
theorem d_ver_15 : decode method_2_code 15 = .ok (.iload_n 0, 1) := by decide +kernel
theorem d_ver_16 : decode method_2_code 16 = .ok (.iconst 1, 1) := by decide +kernel
theorem d_ver_17 : decode method_2_code 17 = .ok (.if_icmp .ne 18, 3) := by decide +kernel
theorem d_ver_20 : decode method_2_code 20 = .ok (.new 7, 3) := by decide +kernel
theorem d_ver_23 : decode method_2_code 23 = .ok (.dup, 1) := by decide +kernel
theorem d_ver_24 : decode method_2_code 24 = .ok (.iconst 1, 1) := by decide +kernel
theorem d_ver_25 : decode method_2_code 25 = .ok (.newarray .char, 2) := by decide +kernel
theorem d_ver_27 : decode method_2_code 27 = .ok (.dup, 1) := by decide +kernel
theorem d_ver_28 : decode method_2_code 28 = .ok (.iconst 0, 1) := by decide +kernel
theorem d_ver_29 : decode method_2_code 29 = .ok (.iload_n 1, 1) := by decide +kernel
theorem d_ver_30 : decode method_2_code 30 = .ok (.castore, 1) := by decide +kernel
theorem d_ver_31 : decode method_2_code 31 = .ok (.invokespecial 9, 3) := by decide +kernel
theorem d_ver_34 : decode method_2_code 34 = .ok (.areturn, 1) := by decide +kernel
theorem d_ver_35 : decode method_2_code 35 = .ok (.iload_n 0, 1) := by decide +kernel
theorem d_ver_36 : decode method_2_code 36 = .ok (.iconst 2, 1) := by decide +kernel
theorem d_ver_37 : decode method_2_code 37 = .ok (.if_icmp .ne 22, 3) := by decide +kernel
theorem d_ver_40 : decode method_2_code 40 = .ok (.new 7, 3) := by decide +kernel
theorem d_ver_43 : decode method_2_code 43 = .ok (.dup, 1) := by decide +kernel
theorem d_ver_44 : decode method_2_code 44 = .ok (.iconst 2, 1) := by decide +kernel
theorem d_ver_45 : decode method_2_code 45 = .ok (.newarray .char, 2) := by decide +kernel
theorem d_ver_47 : decode method_2_code 47 = .ok (.dup, 1) := by decide +kernel
theorem d_ver_48 : decode method_2_code 48 = .ok (.iconst 0, 1) := by decide +kernel
theorem d_ver_49 : decode method_2_code 49 = .ok (.iload_n 1, 1) := by decide +kernel
theorem d_ver_50 : decode method_2_code 50 = .ok (.castore, 1) := by decide +kernel
theorem d_ver_51 : decode method_2_code 51 = .ok (.dup, 1) := by decide +kernel
theorem d_ver_52 : decode method_2_code 52 = .ok (.iconst 1, 1) := by decide +kernel
theorem d_ver_53 : decode method_2_code 53 = .ok (.iload_n 2, 1) := by decide +kernel
theorem d_ver_54 : decode method_2_code 54 = .ok (.castore, 1) := by decide +kernel
theorem d_ver_55 : decode method_2_code 55 = .ok (.invokespecial 9, 3) := by decide +kernel
theorem d_ver_58 : decode method_2_code 58 = .ok (.areturn, 1) := by decide +kernel
theorem d_ver_59 : decode method_2_code 59 = .ok (.new 7, 3) := by decide +kernel
theorem d_ver_62 : decode method_2_code 62 = .ok (.dup, 1) := by decide +kernel
theorem d_ver_63 : decode method_2_code 63 = .ok (.iconst 3, 1) := by decide +kernel
theorem d_ver_64 : decode method_2_code 64 = .ok (.newarray .char, 2) := by decide +kernel
theorem d_ver_66 : decode method_2_code 66 = .ok (.dup, 1) := by decide +kernel
theorem d_ver_67 : decode method_2_code 67 = .ok (.iconst 0, 1) := by decide +kernel
theorem d_ver_68 : decode method_2_code 68 = .ok (.iload_n 1, 1) := by decide +kernel
theorem d_ver_69 : decode method_2_code 69 = .ok (.castore, 1) := by decide +kernel
theorem d_ver_70 : decode method_2_code 70 = .ok (.dup, 1) := by decide +kernel
theorem d_ver_71 : decode method_2_code 71 = .ok (.iconst 1, 1) := by decide +kernel
theorem d_ver_72 : decode method_2_code 72 = .ok (.iload_n 2, 1) := by decide +kernel
theorem d_ver_73 : decode method_2_code 73 = .ok (.castore, 1) := by decide +kernel
theorem d_ver_74 : decode method_2_code 74 = .ok (.dup, 1) := by decide +kernel
theorem d_ver_75 : decode method_2_code 75 = .ok (.iconst 2, 1) := by decide +kernel
theorem d_ver_76 : decode method_2_code 76 = .ok (.iload_n 3, 1) := by decide +kernel
theorem d_ver_77 : decode method_2_code 77 = .ok (.castore, 1) := by decide +kernel
theorem d_ver_78 : decode method_2_code 78 = .ok (.invokespecial 9, 3) := by decide +kernel
theorem d_ver_81 : decode method_2_code 81 = .ok (.areturn, 1) := by decide +kernel
theorem ef_ver (m : MethodId) (x0 : Int32) (x1 : Int32) (x2 : Int32) (x3 : Int32) : entryFrame m #[(.int x0), (.int x1), (.int x2), (.int x3)] 4 = mkF m 0 #[.val (.int x0), .val (.int x1), .val (.int x2), .val (.int x3)] [] := by first | (simp [entryFrame, mkF, argsToLocals, Value.category]; done) | rfl
theorem pn_ver : plainFor (⟨"com/example/loomwire/loomwire/soap/XmlWriterWriteStartDocument304PinLaw", "version", "(ICCC)Ljava/lang/String;"⟩ : MethodName) = true := by first | exact plainFor_of_name (by first | (simp [plainName, overriddenIn]; done) | decide +kernel) | decide +kernel
set_option maxRecDepth 65536 in
set_option maxHeartbeats 40000000 in
theorem rm_ver (l : Launch) (Z : State) (a0 : Array Value) (hw : ∀ d ∈ tables_1, d.before a0 Z = true) (x0 : Int32) (x1 : Int32) (x2 : Int32) (x3 : Int32) (cs : Int32) (n0 : Nat) (h0 : Heap) (Z0 : n0 ≤ h0.size) (S0 : Sta Z h0 "java/lang/String" "COMPACT_STRINGS" "Z" (.int cs)) (hcs : ¬ cs = 0) (hv1 : ¬ (255 : Int32) < nar .char x1) (hv2 : ¬ (255 : Int32) < nar .char x2) (hv3 : ¬ (255 : Int32) < nar .char x3) :
    OMetK l Z own_EL [] (⟨"com/example/loomwire/loomwire/soap/XmlWriterWriteStartDocument304PinLaw", "version", "(ICCC)Ljava/lang/String;"⟩ : MethodName) method_2_code 4 (some (.object "java/lang/String")) [] ({ frames := 4, cells := 6, slots := 40, locals := 75 } : Room) #[(.int x0), (.int x1), (.int x2), (.int x3)] h0 (fun v h L => ∃ (a b : Addr) (k : ClassId), v = some (.ref a) ∧ Fr n0 L ∧ Keep h0 h [] ∧ Exa Z h a "java/lang/String" ∧ Fld Z h a "java/lang/String" "coder" "B" (.int 0) ∧ Fld Z h a "java/lang/String" "value" "[B" (.ref b) ∧ Arv Z h b k .byte (NI (vlist x0 x1 x2 x3).length) (vlist x0 x1 x2 x3) (.int 0) ∧ h0.size ≤ a) := by
  refine OMetK.of pn_ver ?_
  intro p e s m below meth c T0 X0 hx hby hml hown0 hnm hret hlk hZ e0 hs0 Cv0 Sf0
  have C0 := CHr.refl Cv0
  have hown : s.vm.findClass "com/example/loomwire/loomwire/soap/XmlWriterWriteStartDocument304PinLaw" = some m.cls := hown0
  refine OGo.go (fun t k => castTop (ef_ver m x0 x1 x2 x3) k) ?_
  have wS : ∀ a ∈ Bundle.stringAtoms, a.before a0 Z = true := fun d hd => by
    simp only [Bundle.stringAtoms, List.mem_cons, List.not_mem_nil, or_false] at hd
    rcases hd with rfl | rfl | rfl | rfl | rfl | rfl | rfl
    all_goals first | exact hw _ (List.mem_of_getElem? (i := 6) rfl) | exact hw _ (List.mem_of_getElem? (i := 5) rfl) | exact hw _ (List.mem_of_getElem? (i := 19) rfl) | exact hw _ (List.mem_of_getElem? (i := 20) rfl) | exact hw _ (List.mem_of_getElem? (i := 21) rfl) | exact hw _ (List.mem_of_getElem? (i := 22) rfl) | exact hw _ (List.mem_of_getElem? (i := 23) rfl)
  have hEL : EW Z a0 own_EL := EW.cons (hw _ (List.mem_of_getElem? (i := 123) rfl)) (by decide +kernel) (EW.cons (hw _ (List.mem_of_getElem? (i := 171) rfl)) (by decide +kernel) (EW.cons (hw _ (List.mem_of_getElem? (i := 18) rfl)) (by decide +kernel) EW.nil))
  refine OGo.go (U' := T0.setTop (mkF m 1 #[.val (.int x0), .val (.int x1), .val (.int x2), .val (.int x3)] [(.int x0)])) (fun _ k => XS.iloadN X0.here hx rfl (hb hby d_ver_0) rfl k) ?_
  by_cases hc1 : x0 = (0 : Int32)
  · skip
    refine OGo.go (U' := T0.setTop (mkF m 4 #[.val (.int x0), .val (.int x1), .val (.int x2), .val (.int x3)] [])) (fun _ k => XS.ifNo X0.here hx rfl (hb hby d_ver_1) rfl ((if0 _ _).trans (teq hc1).2) k) ?_
    obtain ⟨T2, h2, X2, e2, E2, A2, D2, -, st2⟩ := newO X0 hx hZ hown (hw _ (List.mem_of_getElem? (i := 4) rfl)) (hw _ (List.mem_of_getElem? (i := 5) rfl)) (hw _ (List.mem_of_getElem? (i := 6) rfl)) e0 (g := (mkF m 4 #[.val (.int x0), .val (.int x1), .val (.int x2), .val (.int x3)] [])) rfl (hb hby d_ver_4) (by decide) (by decide)
    obtain ⟨b2, gb2⟩ : ∃ z, z = h0.size := ⟨_, rfl⟩
    rw [← gb2] at A2 D2 st2
    have g3 : n0 ≤ b2 := Nat.le_trans Z0 (Nat.le_of_eq gb2.symm)
    have sz4 := Nat.le_trans (Keep.refl h0 []).1 (Nat.le_of_eq gb2.symm)
    have C5 := CHr.trans C0 (CHr.ext E2 C0.1)
    have Sf6 := Safe.ext E2 C0.1 (Safe.new (Nat.le_of_eq gb2.symm))
    have f7 := S0.ext E2
    have K8 := (Keep.refl h0 []).ext E2
    have f9 : Fld Z h2 b2 "java/lang/String" "value" "[B" .null := D2 (Or.inr (hw _ (List.mem_of_getElem? (i := 20) rfl))) (ty := (.array .byte)) (by decide)
    have f10 : Fld Z h2 b2 "java/lang/String" "coder" "B" (.int (0 : Int32)) := D2 (Or.inr (hw _ (List.mem_of_getElem? (i := 21) rfl))) (ty := .byte) (by decide)
    refine OGo.go (U' := T2.setTop (mkF m 7 #[.val (.int x0), .val (.int x1), .val (.int x2), .val (.int x3)] [(.ref b2)])) st2 ?_
    refine OGo.go (U' := T2.setTop (mkF m 8 #[.val (.int x0), .val (.int x1), .val (.int x2), .val (.int x3)] [(.ref b2), (.ref b2)])) (fun _ k => XS.dup X2.here hx rfl (hb hby d_ver_7) rfl rfl k) ?_
    refine OGo.go (U' := T2.setTop (mkF m 9 #[.val (.int x0), .val (.int x1), .val (.int x2), .val (.int x3)] [(.int (0 : Int32)), (.ref b2), (.ref b2)])) (fun _ k => XS.iconst X2.here hx rfl (hb hby d_ver_8) k) ?_
    obtain ⟨T11, h11, k11, X11, e11, E11, A11, st11⟩ := newP X2 hx hZ (hw _ (List.mem_of_getElem? (i := 7) rfl)) e2 (g := (mkF m 9 #[.val (.int x0), .val (.int x1), .val (.int x2), .val (.int x3)] [(.int (0 : Int32)), (.ref b2), (.ref b2)])) rfl (hb hby d_ver_9) rfl (n := 0) (by decide) (cap := 0) (by decide) (by decide) (by decide) (by decide)
    obtain ⟨b11, gb11⟩ : ∃ z, z = h2.size := ⟨_, rfl⟩
    rw [← gb11] at A11 st11
    have ne12 : b2 ≠ b11 := Nat.ne_of_lt (Nat.lt_of_lt_of_le A2.lt (Nat.le_of_eq gb11.symm))
    have g13 : n0 ≤ b11 := Nat.le_trans (Nat.le_trans Z0 E2.1) (Nat.le_of_eq gb11.symm)
    have sz14 := Nat.le_trans K8.1 (Nat.le_of_eq gb11.symm)
    have C15 := CHr.trans C5 (CHr.ext E11 C5.1)
    have Sf16 := Safe.ext E11 C5.1 Sf6
    have Sf17 := Safe.ext E11 C5.1 (Safe.new (Nat.le_of_eq gb11.symm))
    have f18 := f7.ext E11
    have f19 := A2.ext E11
    have f20 := f9.ext E11
    have f21 := f10.ext E11
    have K22 := K8.ext E11
    have V11 : Arv Z h11 b11 k11 .char 0 [] (.int (0 : Int32)) := (Arv.new A11 (by decide)).pad (pad_rep [] _ 0)
    refine OGo.go (U' := T11.setTop (mkF m 11 #[.val (.int x0), .val (.int x1), .val (.int x2), .val (.int x3)] [(.ref b11), (.ref b2), (.ref b2)])) st11 ?_
    refine OGo.callIK (s := s) (vm0 := s.vm) X11 hx hZ ((State.WarmedH.refl s).since 0) (Nat.zero_le _) hEL C15.1 (fun x hx => by obtain rfl := List.mem_singleton.mp hx; exact ⟨f19.lt, Sf16⟩) (y := (⟨"java/lang/String", "<init>", "([C)V"⟩ : MethodName)) hown (g := (mkF m 11 #[.val (.int x0), .val (.int x1), .val (.int x2), .val (.int x3)] [(.ref b11), (.ref b2), (.ref b2)])) (argsL := [(.ref b11)]) (rest := [(.ref b2)]) e11 (a := b2) rfl (hw _ (List.mem_of_getElem? (i := 8) rfl)) (hw _ (List.mem_of_getElem? (i := 9) rfl)) (hw _ (List.mem_of_getElem? (i := 6) rfl)) (hw _ (List.mem_of_getElem? (i := 10) rfl)) (by decide) (rm_si1_0 l Z a0 hw b2 b11 .null (.int (0 : Int32)) k11 n0 h11 (Nat.le_trans (Nat.le_trans Z0 E2.1) E11.1) f19 f20 f21 g3 V11 ne12) rfl (by rw [hml]; rfl) (lenOf pd_23 rfl) rfl (W := 1) (by show 2 * 0 + _ ≤ _; exact Nat.le_of_eq rfl) (hb hby d_ver_11) (by decide) (by decide) (by decide) (by decide) ?_
    rintro _ T23 L23 X23 ⟨rfl, N23, K23, Es23, sc23, b23, k23, sv23, A23⟩ hS23 hZ23 hown23 Ch23
    have e23 : T23.heap = T23.heap := rfl
    have N24 := Fr.app (Fr.nil n0) N23
    have f25 := own_sta_keep f18 K23 (allS (P := fun x => ∀ cell : Cell, _ → cell.vm.isStatics = false) (own_plain f19) all0)
    have f26 := f19.keep K23
    have K27 := K22.trans K23 (allS (P := fun x => x ∈ _ ∨ _ ≤ x) (Or.inr sz4) all0)
    show OGo p e below _ (T23.setTop (mkF m 14 #[.val (.int x0), .val (.int x1), .val (.int x2), .val (.int x3)] [(.ref b2)]))
    have C28 := CHr.trans C15 Ch23
    have Sf29 := Ch23.safe f19.lt Sf16
    have Sf30 := Ch23.safe V11.lt Sf17
    refine OGo.retAH (s := s) (vm₁ := T23.vm) X23 hS23 e23 (Nat.le_refl _) hZ23 hEL hs0 C28 hx hret hlk rfl rfl (hb hby d_ver_14) ?_ (by decide) (by decide)
    refine ⟨b2, b23, k23, rfl, N24, K27, Es23, sc23, sv23, ?_, sz4⟩
    rw [own_vlist_0 hc1]
    exact A23
  · skip
    refine OGo.go (U' := T0.setTop (mkF m 15 #[.val (.int x0), .val (.int x1), .val (.int x2), .val (.int x3)] [])) (fun _ k => XS.ifYes X0.here hx rfl (pc0 := 1) (pc' := 15) rfl (hb hby d_ver_1) rfl ((if0 _ _).trans (feq hc1).2) (by decide) (by decide) k) ?_
    refine OGo.go (U' := T0.setTop (mkF m 16 #[.val (.int x0), .val (.int x1), .val (.int x2), .val (.int x3)] [(.int x0)])) (fun _ k => XS.iloadN X0.here hx rfl (hb hby d_ver_15) rfl k) ?_
    refine OGo.go (U' := T0.setTop (mkF m 17 #[.val (.int x0), .val (.int x1), .val (.int x2), .val (.int x3)] [(.int (1 : Int32)), (.int x0)])) (fun _ k => XS.iconst X0.here hx rfl (hb hby d_ver_16) k) ?_
    by_cases hc31 : x0 = (1 : Int32)
    · skip
      refine OGo.go (U' := T0.setTop (mkF m 20 #[.val (.int x0), .val (.int x1), .val (.int x2), .val (.int x3)] [])) (fun _ k => XS.icmpNo X0.here hx rfl (hb hby d_ver_17) rfl (teq hc31).2 k) ?_
      obtain ⟨T32, h32, X32, e32, E32, A32, D32, -, st32⟩ := newO X0 hx hZ hown (hw _ (List.mem_of_getElem? (i := 4) rfl)) (hw _ (List.mem_of_getElem? (i := 5) rfl)) (hw _ (List.mem_of_getElem? (i := 6) rfl)) e0 (g := (mkF m 20 #[.val (.int x0), .val (.int x1), .val (.int x2), .val (.int x3)] [])) rfl (hb hby d_ver_20) (by decide) (by decide)
      obtain ⟨b32, gb32⟩ : ∃ z, z = h0.size := ⟨_, rfl⟩
      rw [← gb32] at A32 D32 st32
      have g33 : n0 ≤ b32 := Nat.le_trans Z0 (Nat.le_of_eq gb32.symm)
      have sz34 := Nat.le_trans (Keep.refl h0 []).1 (Nat.le_of_eq gb32.symm)
      have C35 := CHr.trans C0 (CHr.ext E32 C0.1)
      have Sf36 := Safe.ext E32 C0.1 (Safe.new (Nat.le_of_eq gb32.symm))
      have f37 := S0.ext E32
      have K38 := (Keep.refl h0 []).ext E32
      have f39 : Fld Z h32 b32 "java/lang/String" "value" "[B" .null := D32 (Or.inr (hw _ (List.mem_of_getElem? (i := 20) rfl))) (ty := (.array .byte)) (by decide)
      have f40 : Fld Z h32 b32 "java/lang/String" "coder" "B" (.int (0 : Int32)) := D32 (Or.inr (hw _ (List.mem_of_getElem? (i := 21) rfl))) (ty := .byte) (by decide)
      refine OGo.go (U' := T32.setTop (mkF m 23 #[.val (.int x0), .val (.int x1), .val (.int x2), .val (.int x3)] [(.ref b32)])) st32 ?_
      refine OGo.go (U' := T32.setTop (mkF m 24 #[.val (.int x0), .val (.int x1), .val (.int x2), .val (.int x3)] [(.ref b32), (.ref b32)])) (fun _ k => XS.dup X32.here hx rfl (hb hby d_ver_23) rfl rfl k) ?_
      refine OGo.go (U' := T32.setTop (mkF m 25 #[.val (.int x0), .val (.int x1), .val (.int x2), .val (.int x3)] [(.int (1 : Int32)), (.ref b32), (.ref b32)])) (fun _ k => XS.iconst X32.here hx rfl (hb hby d_ver_24) k) ?_
      obtain ⟨T41, h41, k41, X41, e41, E41, A41, st41⟩ := newP X32 hx hZ (hw _ (List.mem_of_getElem? (i := 7) rfl)) e32 (g := (mkF m 25 #[.val (.int x0), .val (.int x1), .val (.int x2), .val (.int x3)] [(.int (1 : Int32)), (.ref b32), (.ref b32)])) rfl (hb hby d_ver_25) rfl (n := 1) (by decide) (cap := 1) (by decide) (by decide) (by decide) (by decide)
      obtain ⟨b41, gb41⟩ : ∃ z, z = h32.size := ⟨_, rfl⟩
      rw [← gb41] at A41 st41
      have ne42 : b32 ≠ b41 := Nat.ne_of_lt (Nat.lt_of_lt_of_le A32.lt (Nat.le_of_eq gb41.symm))
      have g43 : n0 ≤ b41 := Nat.le_trans (Nat.le_trans Z0 E32.1) (Nat.le_of_eq gb41.symm)
      have sz44 := Nat.le_trans K38.1 (Nat.le_of_eq gb41.symm)
      have C45 := CHr.trans C35 (CHr.ext E41 C35.1)
      have Sf46 := Safe.ext E41 C35.1 Sf36
      have Sf47 := Safe.ext E41 C35.1 (Safe.new (Nat.le_of_eq gb41.symm))
      have f48 := f37.ext E41
      have f49 := A32.ext E41
      have f50 := f39.ext E41
      have f51 := f40.ext E41
      have K52 := K38.ext E41
      have V41 : Arv Z h41 b41 k41 .char 1 [(.int (0 : Int32))] (.int (0 : Int32)) := (Arv.new A41 (by decide)).pad (pad_rep [] _ 1)
      refine OGo.go (U' := T41.setTop (mkF m 27 #[.val (.int x0), .val (.int x1), .val (.int x2), .val (.int x3)] [(.ref b41), (.ref b32), (.ref b32)])) st41 ?_
      refine OGo.go (U' := T41.setTop (mkF m 28 #[.val (.int x0), .val (.int x1), .val (.int x2), .val (.int x3)] [(.ref b41), (.ref b41), (.ref b32), (.ref b32)])) (fun _ k => XS.dup X41.here hx rfl (hb hby d_ver_27) rfl rfl k) ?_
      refine OGo.go (U' := T41.setTop (mkF m 29 #[.val (.int x0), .val (.int x1), .val (.int x2), .val (.int x3)] [(.int (0 : Int32)), (.ref b41), (.ref b41), (.ref b32), (.ref b32)])) (fun _ k => XS.iconst X41.here hx rfl (hb hby d_ver_28) k) ?_
      refine OGo.go (U' := T41.setTop (mkF m 30 #[.val (.int x0), .val (.int x1), .val (.int x2), .val (.int x3)] [(.int x1), (.int (0 : Int32)), (.ref b41), (.ref b41), (.ref b32), (.ref b32)])) (fun _ k => XS.iloadN X41.here hx rfl (hb hby d_ver_29) rfl k) ?_
      obtain ⟨T53, h53, X53, e53, W53, V53, st53⟩ := Arv.stC' X41 hx hZ e41 V41 ⟨by decide, by decide⟩ 0 (by decide) (by simp) (g := (mkF m 30 #[.val (.int x0), .val (.int x1), .val (.int x2), .val (.int x3)] [(.int x1), (.int (0 : Int32)), (.ref b41), (.ref b41), (.ref b32), (.ref b32)])) rfl rfl (hb hby d_ver_30)
      have N54 := Fr.snoc X53 (Fr.nil n0) g43
      have C55 := CHr.trans C45 (CHr.wr W53 Sf47 C45.1)
      have Sf56 := Safe.wr W53 Sf47 C45.1 Sf46
      have Sf57 := Safe.wr W53 Sf47 C45.1 Sf47
      have f58 := f48.wr W53
      have f59 := f49.wr W53
      have f60 := f50.other W53 (Or.inl ne42)
      have f61 := f51.other W53 (Or.inl ne42)
      have K62 := K52.wr W53 (Or.inr sz44)
      refine OGo.go (U' := T53.setTop (mkF m 31 #[.val (.int x0), .val (.int x1), .val (.int x2), .val (.int x3)] [(.ref b41), (.ref b32), (.ref b32)])) st53 ?_
      refine OGo.callI X53 hx hZ (y := (⟨"java/lang/String", "<init>", "([C)V"⟩ : MethodName)) rfl hown (hw _ (List.mem_of_getElem? (i := 8) rfl)) (hw _ (List.mem_of_getElem? (i := 9) rfl)) (hw _ (List.mem_of_getElem? (i := 6) rfl)) (hw _ (List.mem_of_getElem? (i := 10) rfl)) (by decide) (g := (mkF m 31 #[.val (.int x0), .val (.int x1), .val (.int x2), .val (.int x3)] [(.ref b41), (.ref b32), (.ref b32)])) (a := b32) (argsL := [(.ref b41)]) (rest := [(.ref b32)]) e53 (rm_si1 l Z a0 hw b32 b41 [(nar .char x1)] .null (.int (0 : Int32)) k41 cs n0 h53 (Nat.le_trans (Nat.le_trans (Nat.le_trans Z0 E32.1) E41.1) (Keep.of_wr W53).1) f59 f60 f61 g33 ne42 V53 (own_uS (show ¬ (255 : Int32) < (nar .char x1) from hv1) own_u0) (show 1 ≤ 1 from by decide) (show 1 ≤ 24 from by decide) f58 hcs) rfl (by rw [hml]; rfl) (lenOf pd_23 rfl) rfl (W := 1) (by show 2 * 0 + _ ≤ _; exact Nat.le_of_eq rfl) (hb hby d_ver_31) (by decide) (by decide) (by decide) (by decide) ?_
      rintro _ T63 L63 X63 ⟨rfl, N63, K63, Es63, sc63, b63, k63, sv63, A63, gb63⟩
      have e63 : T63.heap = T63.heap := rfl
      have N64 := Fr.app N54 N63
      have C65 := CHr.trans C55 (CHr.keep K63 (sfS Sf56 sf0) C55.1)
      have Sf66 := Safe.keep K63 (sfS Sf56 sf0) C55.1 Sf56
      have Sf67 := Safe.keep K63 (sfS Sf56 sf0) C55.1 Sf57
      have f68 := own_sta_keep f58 K63 (allS (P := fun x => ∀ cell : Cell, _ → cell.vm.isStatics = false) (own_plain f59) all0)
      have f69 := f59.keep K63
      have f70 := V53.keep K63 (ninS (Ne.symm ne42) nin0)
      have K71 := K62.trans K63 (allS (P := fun x => x ∈ _ ∨ _ ≤ x) (Or.inr sz34) all0)
      have sz63 := Nat.le_trans K62.1 gb63
      show OGo p e below _ (T63.setTop (mkF m 34 #[.val (.int x0), .val (.int x1), .val (.int x2), .val (.int x3)] [(.ref b32)]))
      refine OGo.retAH (s := s) (vm₁ := s.vm) X63 ((State.WarmedH.refl s).since 0) e63 (Nat.zero_le _) hZ hEL hs0 C65 hx hret hlk rfl rfl (hb hby d_ver_34) ?_ (by decide) (by decide)
      refine ⟨b32, b63, k63, rfl, N64, K71, Es63, sc63, sv63, ?_, sz34⟩
      rw [own_vlist_1 hc1 hc31]
      exact A63
    · skip
      refine OGo.go (U' := T0.setTop (mkF m 35 #[.val (.int x0), .val (.int x1), .val (.int x2), .val (.int x3)] [])) (fun _ k => XS.icmpYes X0.here hx rfl (pc0 := 17) (pc' := 35) rfl (hb hby d_ver_17) rfl (feq hc31).2 (by decide) (by decide) k) ?_
      refine OGo.go (U' := T0.setTop (mkF m 36 #[.val (.int x0), .val (.int x1), .val (.int x2), .val (.int x3)] [(.int x0)])) (fun _ k => XS.iloadN X0.here hx rfl (hb hby d_ver_35) rfl k) ?_
      refine OGo.go (U' := T0.setTop (mkF m 37 #[.val (.int x0), .val (.int x1), .val (.int x2), .val (.int x3)] [(.int (2 : Int32)), (.int x0)])) (fun _ k => XS.iconst X0.here hx rfl (hb hby d_ver_36) k) ?_
      by_cases hc72 : x0 = (2 : Int32)
      · skip
        refine OGo.go (U' := T0.setTop (mkF m 40 #[.val (.int x0), .val (.int x1), .val (.int x2), .val (.int x3)] [])) (fun _ k => XS.icmpNo X0.here hx rfl (hb hby d_ver_37) rfl (teq hc72).2 k) ?_
        obtain ⟨T73, h73, X73, e73, E73, A73, D73, -, st73⟩ := newO X0 hx hZ hown (hw _ (List.mem_of_getElem? (i := 4) rfl)) (hw _ (List.mem_of_getElem? (i := 5) rfl)) (hw _ (List.mem_of_getElem? (i := 6) rfl)) e0 (g := (mkF m 40 #[.val (.int x0), .val (.int x1), .val (.int x2), .val (.int x3)] [])) rfl (hb hby d_ver_40) (by decide) (by decide)
        obtain ⟨b73, gb73⟩ : ∃ z, z = h0.size := ⟨_, rfl⟩
        rw [← gb73] at A73 D73 st73
        have g74 : n0 ≤ b73 := Nat.le_trans Z0 (Nat.le_of_eq gb73.symm)
        have sz75 := Nat.le_trans (Keep.refl h0 []).1 (Nat.le_of_eq gb73.symm)
        have C76 := CHr.trans C0 (CHr.ext E73 C0.1)
        have Sf77 := Safe.ext E73 C0.1 (Safe.new (Nat.le_of_eq gb73.symm))
        have f78 := S0.ext E73
        have K79 := (Keep.refl h0 []).ext E73
        have f80 : Fld Z h73 b73 "java/lang/String" "value" "[B" .null := D73 (Or.inr (hw _ (List.mem_of_getElem? (i := 20) rfl))) (ty := (.array .byte)) (by decide)
        have f81 : Fld Z h73 b73 "java/lang/String" "coder" "B" (.int (0 : Int32)) := D73 (Or.inr (hw _ (List.mem_of_getElem? (i := 21) rfl))) (ty := .byte) (by decide)
        refine OGo.go (U' := T73.setTop (mkF m 43 #[.val (.int x0), .val (.int x1), .val (.int x2), .val (.int x3)] [(.ref b73)])) st73 ?_
        refine OGo.go (U' := T73.setTop (mkF m 44 #[.val (.int x0), .val (.int x1), .val (.int x2), .val (.int x3)] [(.ref b73), (.ref b73)])) (fun _ k => XS.dup X73.here hx rfl (hb hby d_ver_43) rfl rfl k) ?_
        refine OGo.go (U' := T73.setTop (mkF m 45 #[.val (.int x0), .val (.int x1), .val (.int x2), .val (.int x3)] [(.int (2 : Int32)), (.ref b73), (.ref b73)])) (fun _ k => XS.iconst X73.here hx rfl (hb hby d_ver_44) k) ?_
        obtain ⟨T82, h82, k82, X82, e82, E82, A82, st82⟩ := newP X73 hx hZ (hw _ (List.mem_of_getElem? (i := 7) rfl)) e73 (g := (mkF m 45 #[.val (.int x0), .val (.int x1), .val (.int x2), .val (.int x3)] [(.int (2 : Int32)), (.ref b73), (.ref b73)])) rfl (hb hby d_ver_45) rfl (n := 2) (by decide) (cap := 2) (by decide) (by decide) (by decide) (by decide)
        obtain ⟨b82, gb82⟩ : ∃ z, z = h73.size := ⟨_, rfl⟩
        rw [← gb82] at A82 st82
        have ne83 : b73 ≠ b82 := Nat.ne_of_lt (Nat.lt_of_lt_of_le A73.lt (Nat.le_of_eq gb82.symm))
        have g84 : n0 ≤ b82 := Nat.le_trans (Nat.le_trans Z0 E73.1) (Nat.le_of_eq gb82.symm)
        have sz85 := Nat.le_trans K79.1 (Nat.le_of_eq gb82.symm)
        have C86 := CHr.trans C76 (CHr.ext E82 C76.1)
        have Sf87 := Safe.ext E82 C76.1 Sf77
        have Sf88 := Safe.ext E82 C76.1 (Safe.new (Nat.le_of_eq gb82.symm))
        have f89 := f78.ext E82
        have f90 := A73.ext E82
        have f91 := f80.ext E82
        have f92 := f81.ext E82
        have K93 := K79.ext E82
        have V82 : Arv Z h82 b82 k82 .char 2 [(.int (0 : Int32)), (.int (0 : Int32))] (.int (0 : Int32)) := (Arv.new A82 (by decide)).pad (pad_rep [] _ 2)
        refine OGo.go (U' := T82.setTop (mkF m 47 #[.val (.int x0), .val (.int x1), .val (.int x2), .val (.int x3)] [(.ref b82), (.ref b73), (.ref b73)])) st82 ?_
        refine OGo.go (U' := T82.setTop (mkF m 48 #[.val (.int x0), .val (.int x1), .val (.int x2), .val (.int x3)] [(.ref b82), (.ref b82), (.ref b73), (.ref b73)])) (fun _ k => XS.dup X82.here hx rfl (hb hby d_ver_47) rfl rfl k) ?_
        refine OGo.go (U' := T82.setTop (mkF m 49 #[.val (.int x0), .val (.int x1), .val (.int x2), .val (.int x3)] [(.int (0 : Int32)), (.ref b82), (.ref b82), (.ref b73), (.ref b73)])) (fun _ k => XS.iconst X82.here hx rfl (hb hby d_ver_48) k) ?_
        refine OGo.go (U' := T82.setTop (mkF m 50 #[.val (.int x0), .val (.int x1), .val (.int x2), .val (.int x3)] [(.int x1), (.int (0 : Int32)), (.ref b82), (.ref b82), (.ref b73), (.ref b73)])) (fun _ k => XS.iloadN X82.here hx rfl (hb hby d_ver_49) rfl k) ?_
        obtain ⟨T94, h94, X94, e94, W94, V94, st94⟩ := Arv.stC' X82 hx hZ e82 V82 ⟨by decide, by decide⟩ 0 (by decide) (by simp) (g := (mkF m 50 #[.val (.int x0), .val (.int x1), .val (.int x2), .val (.int x3)] [(.int x1), (.int (0 : Int32)), (.ref b82), (.ref b82), (.ref b73), (.ref b73)])) rfl rfl (hb hby d_ver_50)
        have N95 := Fr.snoc X94 (Fr.nil n0) g84
        have C96 := CHr.trans C86 (CHr.wr W94 Sf88 C86.1)
        have Sf97 := Safe.wr W94 Sf88 C86.1 Sf87
        have Sf98 := Safe.wr W94 Sf88 C86.1 Sf88
        have f99 := f89.wr W94
        have f100 := f90.wr W94
        have f101 := f91.other W94 (Or.inl ne83)
        have f102 := f92.other W94 (Or.inl ne83)
        have K103 := K93.wr W94 (Or.inr sz85)
        refine OGo.go (U' := T94.setTop (mkF m 51 #[.val (.int x0), .val (.int x1), .val (.int x2), .val (.int x3)] [(.ref b82), (.ref b73), (.ref b73)])) st94 ?_
        refine OGo.go (U' := T94.setTop (mkF m 52 #[.val (.int x0), .val (.int x1), .val (.int x2), .val (.int x3)] [(.ref b82), (.ref b82), (.ref b73), (.ref b73)])) (fun _ k => XS.dup X94.here hx rfl (hb hby d_ver_51) rfl rfl k) ?_
        refine OGo.go (U' := T94.setTop (mkF m 53 #[.val (.int x0), .val (.int x1), .val (.int x2), .val (.int x3)] [(.int (1 : Int32)), (.ref b82), (.ref b82), (.ref b73), (.ref b73)])) (fun _ k => XS.iconst X94.here hx rfl (hb hby d_ver_52) k) ?_
        refine OGo.go (U' := T94.setTop (mkF m 54 #[.val (.int x0), .val (.int x1), .val (.int x2), .val (.int x3)] [(.int x2), (.int (1 : Int32)), (.ref b82), (.ref b82), (.ref b73), (.ref b73)])) (fun _ k => XS.iloadN X94.here hx rfl (hb hby d_ver_53) rfl k) ?_
        obtain ⟨T104, h104, X104, e104, W104, V104, st104⟩ := Arv.stC' X94 hx hZ e94 V94 ⟨by decide, by decide⟩ 1 (by decide) (by simp) (g := (mkF m 54 #[.val (.int x0), .val (.int x1), .val (.int x2), .val (.int x3)] [(.int x2), (.int (1 : Int32)), (.ref b82), (.ref b82), (.ref b73), (.ref b73)])) rfl rfl (hb hby d_ver_54)
        have N105 := Fr.snoc X104 N95 g84
        have C106 := CHr.trans C96 (CHr.wr W104 Sf98 C96.1)
        have Sf107 := Safe.wr W104 Sf98 C96.1 Sf97
        have Sf108 := Safe.wr W104 Sf98 C96.1 Sf98
        have f109 := f99.wr W104
        have f110 := f100.wr W104
        have f111 := f101.other W104 (Or.inl ne83)
        have f112 := f102.other W104 (Or.inl ne83)
        have K113 := K103.wr W104 (Or.inr sz85)
        refine OGo.go (U' := T104.setTop (mkF m 55 #[.val (.int x0), .val (.int x1), .val (.int x2), .val (.int x3)] [(.ref b82), (.ref b73), (.ref b73)])) st104 ?_
        refine OGo.callI X104 hx hZ (y := (⟨"java/lang/String", "<init>", "([C)V"⟩ : MethodName)) rfl hown (hw _ (List.mem_of_getElem? (i := 8) rfl)) (hw _ (List.mem_of_getElem? (i := 9) rfl)) (hw _ (List.mem_of_getElem? (i := 6) rfl)) (hw _ (List.mem_of_getElem? (i := 10) rfl)) (by decide) (g := (mkF m 55 #[.val (.int x0), .val (.int x1), .val (.int x2), .val (.int x3)] [(.ref b82), (.ref b73), (.ref b73)])) (a := b73) (argsL := [(.ref b82)]) (rest := [(.ref b73)]) e104 (rm_si1 l Z a0 hw b73 b82 [(nar .char x1), (nar .char x2)] .null (.int (0 : Int32)) k82 cs n0 h104 (Nat.le_trans (Nat.le_trans (Nat.le_trans (Nat.le_trans Z0 E73.1) E82.1) (Keep.of_wr W94).1) (Keep.of_wr W104).1) f110 f111 f112 g74 ne83 V104 (own_uS (show ¬ (255 : Int32) < (nar .char x1) from hv1) (own_uS (show ¬ (255 : Int32) < (nar .char x2) from hv2) own_u0)) (show 1 ≤ 2 from by decide) (show 2 ≤ 24 from by decide) f109 hcs) rfl (by rw [hml]; rfl) (lenOf pd_23 rfl) rfl (W := 1) (by show 2 * 0 + _ ≤ _; exact Nat.le_of_eq rfl) (hb hby d_ver_55) (by decide) (by decide) (by decide) (by decide) ?_
        rintro _ T114 L114 X114 ⟨rfl, N114, K114, Es114, sc114, b114, k114, sv114, A114, gb114⟩
        have e114 : T114.heap = T114.heap := rfl
        have N115 := Fr.app N105 N114
        have C116 := CHr.trans C106 (CHr.keep K114 (sfS Sf107 sf0) C106.1)
        have Sf117 := Safe.keep K114 (sfS Sf107 sf0) C106.1 Sf107
        have Sf118 := Safe.keep K114 (sfS Sf107 sf0) C106.1 Sf108
        have f119 := own_sta_keep f109 K114 (allS (P := fun x => ∀ cell : Cell, _ → cell.vm.isStatics = false) (own_plain f110) all0)
        have f120 := f110.keep K114
        have f121 := V104.keep K114 (ninS (Ne.symm ne83) nin0)
        have K122 := K113.trans K114 (allS (P := fun x => x ∈ _ ∨ _ ≤ x) (Or.inr sz75) all0)
        have sz114 := Nat.le_trans K113.1 gb114
        show OGo p e below _ (T114.setTop (mkF m 58 #[.val (.int x0), .val (.int x1), .val (.int x2), .val (.int x3)] [(.ref b73)]))
        refine OGo.retAH (s := s) (vm₁ := s.vm) X114 ((State.WarmedH.refl s).since 0) e114 (Nat.zero_le _) hZ hEL hs0 C116 hx hret hlk rfl rfl (hb hby d_ver_58) ?_ (by decide) (by decide)
        refine ⟨b73, b114, k114, rfl, N115, K122, Es114, sc114, sv114, ?_, sz75⟩
        rw [own_vlist_2 hc1 hc31 hc72]
        exact A114
      · skip
        refine OGo.go (U' := T0.setTop (mkF m 59 #[.val (.int x0), .val (.int x1), .val (.int x2), .val (.int x3)] [])) (fun _ k => XS.icmpYes X0.here hx rfl (pc0 := 37) (pc' := 59) rfl (hb hby d_ver_37) rfl (feq hc72).2 (by decide) (by decide) k) ?_
        obtain ⟨T123, h123, X123, e123, E123, A123, D123, -, st123⟩ := newO X0 hx hZ hown (hw _ (List.mem_of_getElem? (i := 4) rfl)) (hw _ (List.mem_of_getElem? (i := 5) rfl)) (hw _ (List.mem_of_getElem? (i := 6) rfl)) e0 (g := (mkF m 59 #[.val (.int x0), .val (.int x1), .val (.int x2), .val (.int x3)] [])) rfl (hb hby d_ver_59) (by decide) (by decide)
        obtain ⟨b123, gb123⟩ : ∃ z, z = h0.size := ⟨_, rfl⟩
        rw [← gb123] at A123 D123 st123
        have g124 : n0 ≤ b123 := Nat.le_trans Z0 (Nat.le_of_eq gb123.symm)
        have sz125 := Nat.le_trans (Keep.refl h0 []).1 (Nat.le_of_eq gb123.symm)
        have C126 := CHr.trans C0 (CHr.ext E123 C0.1)
        have Sf127 := Safe.ext E123 C0.1 (Safe.new (Nat.le_of_eq gb123.symm))
        have f128 := S0.ext E123
        have K129 := (Keep.refl h0 []).ext E123
        have f130 : Fld Z h123 b123 "java/lang/String" "value" "[B" .null := D123 (Or.inr (hw _ (List.mem_of_getElem? (i := 20) rfl))) (ty := (.array .byte)) (by decide)
        have f131 : Fld Z h123 b123 "java/lang/String" "coder" "B" (.int (0 : Int32)) := D123 (Or.inr (hw _ (List.mem_of_getElem? (i := 21) rfl))) (ty := .byte) (by decide)
        refine OGo.go (U' := T123.setTop (mkF m 62 #[.val (.int x0), .val (.int x1), .val (.int x2), .val (.int x3)] [(.ref b123)])) st123 ?_
        refine OGo.go (U' := T123.setTop (mkF m 63 #[.val (.int x0), .val (.int x1), .val (.int x2), .val (.int x3)] [(.ref b123), (.ref b123)])) (fun _ k => XS.dup X123.here hx rfl (hb hby d_ver_62) rfl rfl k) ?_
        refine OGo.go (U' := T123.setTop (mkF m 64 #[.val (.int x0), .val (.int x1), .val (.int x2), .val (.int x3)] [(.int (3 : Int32)), (.ref b123), (.ref b123)])) (fun _ k => XS.iconst X123.here hx rfl (hb hby d_ver_63) k) ?_
        obtain ⟨T132, h132, k132, X132, e132, E132, A132, st132⟩ := newP X123 hx hZ (hw _ (List.mem_of_getElem? (i := 7) rfl)) e123 (g := (mkF m 64 #[.val (.int x0), .val (.int x1), .val (.int x2), .val (.int x3)] [(.int (3 : Int32)), (.ref b123), (.ref b123)])) rfl (hb hby d_ver_64) rfl (n := 3) (by decide) (cap := 3) (by decide) (by decide) (by decide) (by decide)
        obtain ⟨b132, gb132⟩ : ∃ z, z = h123.size := ⟨_, rfl⟩
        rw [← gb132] at A132 st132
        have ne133 : b123 ≠ b132 := Nat.ne_of_lt (Nat.lt_of_lt_of_le A123.lt (Nat.le_of_eq gb132.symm))
        have g134 : n0 ≤ b132 := Nat.le_trans (Nat.le_trans Z0 E123.1) (Nat.le_of_eq gb132.symm)
        have sz135 := Nat.le_trans K129.1 (Nat.le_of_eq gb132.symm)
        have C136 := CHr.trans C126 (CHr.ext E132 C126.1)
        have Sf137 := Safe.ext E132 C126.1 Sf127
        have Sf138 := Safe.ext E132 C126.1 (Safe.new (Nat.le_of_eq gb132.symm))
        have f139 := f128.ext E132
        have f140 := A123.ext E132
        have f141 := f130.ext E132
        have f142 := f131.ext E132
        have K143 := K129.ext E132
        have V132 : Arv Z h132 b132 k132 .char 3 [(.int (0 : Int32)), (.int (0 : Int32)), (.int (0 : Int32))] (.int (0 : Int32)) := (Arv.new A132 (by decide)).pad (pad_rep [] _ 3)
        refine OGo.go (U' := T132.setTop (mkF m 66 #[.val (.int x0), .val (.int x1), .val (.int x2), .val (.int x3)] [(.ref b132), (.ref b123), (.ref b123)])) st132 ?_
        refine OGo.go (U' := T132.setTop (mkF m 67 #[.val (.int x0), .val (.int x1), .val (.int x2), .val (.int x3)] [(.ref b132), (.ref b132), (.ref b123), (.ref b123)])) (fun _ k => XS.dup X132.here hx rfl (hb hby d_ver_66) rfl rfl k) ?_
        refine OGo.go (U' := T132.setTop (mkF m 68 #[.val (.int x0), .val (.int x1), .val (.int x2), .val (.int x3)] [(.int (0 : Int32)), (.ref b132), (.ref b132), (.ref b123), (.ref b123)])) (fun _ k => XS.iconst X132.here hx rfl (hb hby d_ver_67) k) ?_
        refine OGo.go (U' := T132.setTop (mkF m 69 #[.val (.int x0), .val (.int x1), .val (.int x2), .val (.int x3)] [(.int x1), (.int (0 : Int32)), (.ref b132), (.ref b132), (.ref b123), (.ref b123)])) (fun _ k => XS.iloadN X132.here hx rfl (hb hby d_ver_68) rfl k) ?_
        obtain ⟨T144, h144, X144, e144, W144, V144, st144⟩ := Arv.stC' X132 hx hZ e132 V132 ⟨by decide, by decide⟩ 0 (by decide) (by simp) (g := (mkF m 69 #[.val (.int x0), .val (.int x1), .val (.int x2), .val (.int x3)] [(.int x1), (.int (0 : Int32)), (.ref b132), (.ref b132), (.ref b123), (.ref b123)])) rfl rfl (hb hby d_ver_69)
        have N145 := Fr.snoc X144 (Fr.nil n0) g134
        have C146 := CHr.trans C136 (CHr.wr W144 Sf138 C136.1)
        have Sf147 := Safe.wr W144 Sf138 C136.1 Sf137
        have Sf148 := Safe.wr W144 Sf138 C136.1 Sf138
        have f149 := f139.wr W144
        have f150 := f140.wr W144
        have f151 := f141.other W144 (Or.inl ne133)
        have f152 := f142.other W144 (Or.inl ne133)
        have K153 := K143.wr W144 (Or.inr sz135)
        refine OGo.go (U' := T144.setTop (mkF m 70 #[.val (.int x0), .val (.int x1), .val (.int x2), .val (.int x3)] [(.ref b132), (.ref b123), (.ref b123)])) st144 ?_
        refine OGo.go (U' := T144.setTop (mkF m 71 #[.val (.int x0), .val (.int x1), .val (.int x2), .val (.int x3)] [(.ref b132), (.ref b132), (.ref b123), (.ref b123)])) (fun _ k => XS.dup X144.here hx rfl (hb hby d_ver_70) rfl rfl k) ?_
        refine OGo.go (U' := T144.setTop (mkF m 72 #[.val (.int x0), .val (.int x1), .val (.int x2), .val (.int x3)] [(.int (1 : Int32)), (.ref b132), (.ref b132), (.ref b123), (.ref b123)])) (fun _ k => XS.iconst X144.here hx rfl (hb hby d_ver_71) k) ?_
        refine OGo.go (U' := T144.setTop (mkF m 73 #[.val (.int x0), .val (.int x1), .val (.int x2), .val (.int x3)] [(.int x2), (.int (1 : Int32)), (.ref b132), (.ref b132), (.ref b123), (.ref b123)])) (fun _ k => XS.iloadN X144.here hx rfl (hb hby d_ver_72) rfl k) ?_
        obtain ⟨T154, h154, X154, e154, W154, V154, st154⟩ := Arv.stC' X144 hx hZ e144 V144 ⟨by decide, by decide⟩ 1 (by decide) (by simp) (g := (mkF m 73 #[.val (.int x0), .val (.int x1), .val (.int x2), .val (.int x3)] [(.int x2), (.int (1 : Int32)), (.ref b132), (.ref b132), (.ref b123), (.ref b123)])) rfl rfl (hb hby d_ver_73)
        have N155 := Fr.snoc X154 N145 g134
        have C156 := CHr.trans C146 (CHr.wr W154 Sf148 C146.1)
        have Sf157 := Safe.wr W154 Sf148 C146.1 Sf147
        have Sf158 := Safe.wr W154 Sf148 C146.1 Sf148
        have f159 := f149.wr W154
        have f160 := f150.wr W154
        have f161 := f151.other W154 (Or.inl ne133)
        have f162 := f152.other W154 (Or.inl ne133)
        have K163 := K153.wr W154 (Or.inr sz135)
        refine OGo.go (U' := T154.setTop (mkF m 74 #[.val (.int x0), .val (.int x1), .val (.int x2), .val (.int x3)] [(.ref b132), (.ref b123), (.ref b123)])) st154 ?_
        refine OGo.go (U' := T154.setTop (mkF m 75 #[.val (.int x0), .val (.int x1), .val (.int x2), .val (.int x3)] [(.ref b132), (.ref b132), (.ref b123), (.ref b123)])) (fun _ k => XS.dup X154.here hx rfl (hb hby d_ver_74) rfl rfl k) ?_
        refine OGo.go (U' := T154.setTop (mkF m 76 #[.val (.int x0), .val (.int x1), .val (.int x2), .val (.int x3)] [(.int (2 : Int32)), (.ref b132), (.ref b132), (.ref b123), (.ref b123)])) (fun _ k => XS.iconst X154.here hx rfl (hb hby d_ver_75) k) ?_
        refine OGo.go (U' := T154.setTop (mkF m 77 #[.val (.int x0), .val (.int x1), .val (.int x2), .val (.int x3)] [(.int x3), (.int (2 : Int32)), (.ref b132), (.ref b132), (.ref b123), (.ref b123)])) (fun _ k => XS.iloadN X154.here hx rfl (hb hby d_ver_76) rfl k) ?_
        obtain ⟨T164, h164, X164, e164, W164, V164, st164⟩ := Arv.stC' X154 hx hZ e154 V154 ⟨by decide, by decide⟩ 2 (by decide) (by simp) (g := (mkF m 77 #[.val (.int x0), .val (.int x1), .val (.int x2), .val (.int x3)] [(.int x3), (.int (2 : Int32)), (.ref b132), (.ref b132), (.ref b123), (.ref b123)])) rfl rfl (hb hby d_ver_77)
        have N165 := Fr.snoc X164 N155 g134
        have C166 := CHr.trans C156 (CHr.wr W164 Sf158 C156.1)
        have Sf167 := Safe.wr W164 Sf158 C156.1 Sf157
        have Sf168 := Safe.wr W164 Sf158 C156.1 Sf158
        have f169 := f159.wr W164
        have f170 := f160.wr W164
        have f171 := f161.other W164 (Or.inl ne133)
        have f172 := f162.other W164 (Or.inl ne133)
        have K173 := K163.wr W164 (Or.inr sz135)
        refine OGo.go (U' := T164.setTop (mkF m 78 #[.val (.int x0), .val (.int x1), .val (.int x2), .val (.int x3)] [(.ref b132), (.ref b123), (.ref b123)])) st164 ?_
        refine OGo.callI X164 hx hZ (y := (⟨"java/lang/String", "<init>", "([C)V"⟩ : MethodName)) rfl hown (hw _ (List.mem_of_getElem? (i := 8) rfl)) (hw _ (List.mem_of_getElem? (i := 9) rfl)) (hw _ (List.mem_of_getElem? (i := 6) rfl)) (hw _ (List.mem_of_getElem? (i := 10) rfl)) (by decide) (g := (mkF m 78 #[.val (.int x0), .val (.int x1), .val (.int x2), .val (.int x3)] [(.ref b132), (.ref b123), (.ref b123)])) (a := b123) (argsL := [(.ref b132)]) (rest := [(.ref b123)]) e164 (rm_si1 l Z a0 hw b123 b132 [(nar .char x1), (nar .char x2), (nar .char x3)] .null (.int (0 : Int32)) k132 cs n0 h164 (Nat.le_trans (Nat.le_trans (Nat.le_trans (Nat.le_trans (Nat.le_trans Z0 E123.1) E132.1) (Keep.of_wr W144).1) (Keep.of_wr W154).1) (Keep.of_wr W164).1) f170 f171 f172 g124 ne133 V164 (own_uS (show ¬ (255 : Int32) < (nar .char x1) from hv1) (own_uS (show ¬ (255 : Int32) < (nar .char x2) from hv2) (own_uS (show ¬ (255 : Int32) < (nar .char x3) from hv3) own_u0))) (show 1 ≤ 3 from by decide) (show 3 ≤ 24 from by decide) f169 hcs) rfl (by rw [hml]; rfl) (lenOf pd_23 rfl) rfl (W := 1) (by show 2 * 0 + _ ≤ _; exact Nat.le_of_eq rfl) (hb hby d_ver_78) (by decide) (by decide) (by decide) (by decide) ?_
        rintro _ T174 L174 X174 ⟨rfl, N174, K174, Es174, sc174, b174, k174, sv174, A174, gb174⟩
        have e174 : T174.heap = T174.heap := rfl
        have N175 := Fr.app N165 N174
        have C176 := CHr.trans C166 (CHr.keep K174 (sfS Sf167 sf0) C166.1)
        have Sf177 := Safe.keep K174 (sfS Sf167 sf0) C166.1 Sf167
        have Sf178 := Safe.keep K174 (sfS Sf167 sf0) C166.1 Sf168
        have f179 := own_sta_keep f169 K174 (allS (P := fun x => ∀ cell : Cell, _ → cell.vm.isStatics = false) (own_plain f170) all0)
        have f180 := f170.keep K174
        have f181 := V164.keep K174 (ninS (Ne.symm ne133) nin0)
        have K182 := K173.trans K174 (allS (P := fun x => x ∈ _ ∨ _ ≤ x) (Or.inr sz125) all0)
        have sz174 := Nat.le_trans K173.1 gb174
        show OGo p e below _ (T174.setTop (mkF m 81 #[.val (.int x0), .val (.int x1), .val (.int x2), .val (.int x3)] [(.ref b123)]))
        refine OGo.retAH (s := s) (vm₁ := s.vm) X174 ((State.WarmedH.refl s).since 0) e174 (Nat.zero_le _) hZ hEL hs0 C176 hx hret hlk rfl rfl (hb hby d_ver_81) ?_ (by decide) (by decide)
        refine ⟨b123, b174, k174, rfl, N175, K182, Es174, sc174, sv174, ?_, sz125⟩
        rw [own_vlist_3 hc1 hc31 hc72]
        exact A174
theorem d_exp_0 : decode method_3_code 0 = .ok (.iload_n 0, 1) := by decide +kernel
theorem d_exp_1 : decode method_3_code 1 = .ok (.ifCond .ne 117, 3) := by decide +kernel
theorem d_exp_4 : decode method_3_code 4 = .ok (.new 7, 3) := by decide +kernel
theorem d_exp_7 : decode method_3_code 7 = .ok (.dup, 1) := by decide +kernel
theorem d_exp_8 : decode method_3_code 8 = .ok (.bipush 18, 2) := by decide +kernel
theorem d_exp_10 : decode method_3_code 10 = .ok (.newarray .char, 2) := by decide +kernel
theorem d_exp_12 : decode method_3_code 12 = .ok (.dup, 1) := by decide +kernel
theorem d_exp_13 : decode method_3_code 13 = .ok (.iconst 0, 1) := by decide +kernel
theorem d_exp_14 : decode method_3_code 14 = .ok (.bipush 60, 2) := by decide +kernel
theorem d_exp_16 : decode method_3_code 16 = .ok (.castore, 1) := by decide +kernel
theorem d_exp_17 : decode method_3_code 17 = .ok (.dup, 1) := by decide +kernel
theorem d_exp_18 : decode method_3_code 18 = .ok (.iconst 1, 1) := by decide +kernel
theorem d_exp_19 : decode method_3_code 19 = .ok (.bipush 63, 2) := by decide +kernel
theorem d_exp_21 : decode method_3_code 21 = .ok (.castore, 1) := by decide +kernel
theorem d_exp_22 : decode method_3_code 22 = .ok (.dup, 1) := by decide +kernel
theorem d_exp_23 : decode method_3_code 23 = .ok (.iconst 2, 1) := by decide +kernel
theorem d_exp_24 : decode method_3_code 24 = .ok (.bipush 120, 2) := by decide +kernel
theorem d_exp_26 : decode method_3_code 26 = .ok (.castore, 1) := by decide +kernel
theorem d_exp_27 : decode method_3_code 27 = .ok (.dup, 1) := by decide +kernel
theorem d_exp_28 : decode method_3_code 28 = .ok (.iconst 3, 1) := by decide +kernel
theorem d_exp_29 : decode method_3_code 29 = .ok (.bipush 109, 2) := by decide +kernel
theorem d_exp_31 : decode method_3_code 31 = .ok (.castore, 1) := by decide +kernel
theorem d_exp_32 : decode method_3_code 32 = .ok (.dup, 1) := by decide +kernel
theorem d_exp_33 : decode method_3_code 33 = .ok (.iconst 4, 1) := by decide +kernel
theorem d_exp_34 : decode method_3_code 34 = .ok (.bipush 108, 2) := by decide +kernel
theorem d_exp_36 : decode method_3_code 36 = .ok (.castore, 1) := by decide +kernel
theorem d_exp_37 : decode method_3_code 37 = .ok (.dup, 1) := by decide +kernel
theorem d_exp_38 : decode method_3_code 38 = .ok (.iconst 5, 1) := by decide +kernel
theorem d_exp_39 : decode method_3_code 39 = .ok (.bipush 32, 2) := by decide +kernel
theorem d_exp_41 : decode method_3_code 41 = .ok (.castore, 1) := by decide +kernel
theorem d_exp_42 : decode method_3_code 42 = .ok (.dup, 1) := by decide +kernel
theorem d_exp_43 : decode method_3_code 43 = .ok (.bipush 6, 2) := by decide +kernel
theorem d_exp_45 : decode method_3_code 45 = .ok (.bipush 118, 2) := by decide +kernel
theorem d_exp_47 : decode method_3_code 47 = .ok (.castore, 1) := by decide +kernel
theorem d_exp_48 : decode method_3_code 48 = .ok (.dup, 1) := by decide +kernel
theorem d_exp_49 : decode method_3_code 49 = .ok (.bipush 7, 2) := by decide +kernel
theorem d_exp_51 : decode method_3_code 51 = .ok (.bipush 101, 2) := by decide +kernel
theorem d_exp_53 : decode method_3_code 53 = .ok (.castore, 1) := by decide +kernel
theorem d_exp_54 : decode method_3_code 54 = .ok (.dup, 1) := by decide +kernel
theorem d_exp_55 : decode method_3_code 55 = .ok (.bipush 8, 2) := by decide +kernel
theorem d_exp_57 : decode method_3_code 57 = .ok (.bipush 114, 2) := by decide +kernel
theorem d_exp_59 : decode method_3_code 59 = .ok (.castore, 1) := by decide +kernel
theorem d_exp_60 : decode method_3_code 60 = .ok (.dup, 1) := by decide +kernel
theorem d_exp_61 : decode method_3_code 61 = .ok (.bipush 9, 2) := by decide +kernel
theorem d_exp_63 : decode method_3_code 63 = .ok (.bipush 115, 2) := by decide +kernel
theorem d_exp_65 : decode method_3_code 65 = .ok (.castore, 1) := by decide +kernel
theorem d_exp_66 : decode method_3_code 66 = .ok (.dup, 1) := by decide +kernel
theorem d_exp_67 : decode method_3_code 67 = .ok (.bipush 10, 2) := by decide +kernel
theorem d_exp_69 : decode method_3_code 69 = .ok (.bipush 105, 2) := by decide +kernel
theorem d_exp_71 : decode method_3_code 71 = .ok (.castore, 1) := by decide +kernel
theorem d_exp_72 : decode method_3_code 72 = .ok (.dup, 1) := by decide +kernel
theorem d_exp_73 : decode method_3_code 73 = .ok (.bipush 11, 2) := by decide +kernel
theorem d_exp_75 : decode method_3_code 75 = .ok (.bipush 111, 2) := by decide +kernel
theorem d_exp_77 : decode method_3_code 77 = .ok (.castore, 1) := by decide +kernel
theorem d_exp_78 : decode method_3_code 78 = .ok (.dup, 1) := by decide +kernel
theorem d_exp_79 : decode method_3_code 79 = .ok (.bipush 12, 2) := by decide +kernel
theorem d_exp_81 : decode method_3_code 81 = .ok (.bipush 110, 2) := by decide +kernel
theorem d_exp_83 : decode method_3_code 83 = .ok (.castore, 1) := by decide +kernel
theorem d_exp_84 : decode method_3_code 84 = .ok (.dup, 1) := by decide +kernel
theorem d_exp_85 : decode method_3_code 85 = .ok (.bipush 13, 2) := by decide +kernel
theorem d_exp_87 : decode method_3_code 87 = .ok (.bipush 61, 2) := by decide +kernel
theorem d_exp_89 : decode method_3_code 89 = .ok (.castore, 1) := by decide +kernel
theorem d_exp_90 : decode method_3_code 90 = .ok (.dup, 1) := by decide +kernel
theorem d_exp_91 : decode method_3_code 91 = .ok (.bipush 14, 2) := by decide +kernel
theorem d_exp_93 : decode method_3_code 93 = .ok (.bipush 34, 2) := by decide +kernel
theorem d_exp_95 : decode method_3_code 95 = .ok (.castore, 1) := by decide +kernel
theorem d_exp_96 : decode method_3_code 96 = .ok (.dup, 1) := by decide +kernel
theorem d_exp_97 : decode method_3_code 97 = .ok (.bipush 15, 2) := by decide +kernel
theorem d_exp_99 : decode method_3_code 99 = .ok (.bipush 34, 2) := by decide +kernel
theorem d_exp_101 : decode method_3_code 101 = .ok (.castore, 1) := by decide +kernel
theorem d_exp_102 : decode method_3_code 102 = .ok (.dup, 1) := by decide +kernel
theorem d_exp_103 : decode method_3_code 103 = .ok (.bipush 16, 2) := by decide +kernel
theorem d_exp_105 : decode method_3_code 105 = .ok (.bipush 63, 2) := by decide +kernel
theorem d_exp_107 : decode method_3_code 107 = .ok (.castore, 1) := by decide +kernel
theorem d_exp_108 : decode method_3_code 108 = .ok (.dup, 1) := by decide +kernel
theorem d_exp_109 : decode method_3_code 109 = .ok (.bipush 17, 2) := by decide +kernel
theorem d_exp_111 : decode method_3_code 111 = .ok (.bipush 62, 2) := by decide +kernel
theorem d_exp_113 : decode method_3_code 113 = .ok (.castore, 1) := by decide +kernel
theorem d_exp_114 : decode method_3_code 114 = .ok (.invokespecial 9, 3) := by decide +kernel
theorem d_exp_117 : decode method_3_code 117 = .ok (.areturn, 1) := by decide +kernel
theorem d_exp_118 : decode method_3_code 118 = .ok (.iload_n 0, 1) := by decide +kernel
theorem d_exp_119 : decode method_3_code 119 = .ok (.iconst 1, 1) := by decide +kernel
theorem d_exp_120 : decode method_3_code 120 = .ok (.if_icmp .ne 122, 3) := by decide +kernel
theorem d_exp_123 : decode method_3_code 123 = .ok (.new 7, 3) := by decide +kernel
theorem d_exp_126 : decode method_3_code 126 = .ok (.dup, 1) := by decide +kernel
theorem d_exp_127 : decode method_3_code 127 = .ok (.bipush 19, 2) := by decide +kernel
theorem d_exp_129 : decode method_3_code 129 = .ok (.newarray .char, 2) := by decide +kernel
theorem d_exp_131 : decode method_3_code 131 = .ok (.dup, 1) := by decide +kernel
theorem d_exp_132 : decode method_3_code 132 = .ok (.iconst 0, 1) := by decide +kernel
theorem d_exp_133 : decode method_3_code 133 = .ok (.bipush 60, 2) := by decide +kernel
theorem d_exp_135 : decode method_3_code 135 = .ok (.castore, 1) := by decide +kernel
theorem d_exp_136 : decode method_3_code 136 = .ok (.dup, 1) := by decide +kernel
theorem d_exp_137 : decode method_3_code 137 = .ok (.iconst 1, 1) := by decide +kernel
theorem d_exp_138 : decode method_3_code 138 = .ok (.bipush 63, 2) := by decide +kernel
theorem d_exp_140 : decode method_3_code 140 = .ok (.castore, 1) := by decide +kernel
theorem d_exp_141 : decode method_3_code 141 = .ok (.dup, 1) := by decide +kernel
theorem d_exp_142 : decode method_3_code 142 = .ok (.iconst 2, 1) := by decide +kernel
theorem d_exp_143 : decode method_3_code 143 = .ok (.bipush 120, 2) := by decide +kernel
theorem d_exp_145 : decode method_3_code 145 = .ok (.castore, 1) := by decide +kernel
theorem d_exp_146 : decode method_3_code 146 = .ok (.dup, 1) := by decide +kernel
theorem d_exp_147 : decode method_3_code 147 = .ok (.iconst 3, 1) := by decide +kernel
theorem d_exp_148 : decode method_3_code 148 = .ok (.bipush 109, 2) := by decide +kernel
theorem d_exp_150 : decode method_3_code 150 = .ok (.castore, 1) := by decide +kernel
theorem d_exp_151 : decode method_3_code 151 = .ok (.dup, 1) := by decide +kernel
theorem d_exp_152 : decode method_3_code 152 = .ok (.iconst 4, 1) := by decide +kernel
theorem d_exp_153 : decode method_3_code 153 = .ok (.bipush 108, 2) := by decide +kernel
theorem d_exp_155 : decode method_3_code 155 = .ok (.castore, 1) := by decide +kernel
theorem d_exp_156 : decode method_3_code 156 = .ok (.dup, 1) := by decide +kernel
theorem d_exp_157 : decode method_3_code 157 = .ok (.iconst 5, 1) := by decide +kernel
theorem d_exp_158 : decode method_3_code 158 = .ok (.bipush 32, 2) := by decide +kernel
theorem d_exp_160 : decode method_3_code 160 = .ok (.castore, 1) := by decide +kernel
theorem d_exp_161 : decode method_3_code 161 = .ok (.dup, 1) := by decide +kernel
theorem d_exp_162 : decode method_3_code 162 = .ok (.bipush 6, 2) := by decide +kernel
theorem d_exp_164 : decode method_3_code 164 = .ok (.bipush 118, 2) := by decide +kernel
theorem d_exp_166 : decode method_3_code 166 = .ok (.castore, 1) := by decide +kernel
theorem d_exp_167 : decode method_3_code 167 = .ok (.dup, 1) := by decide +kernel
theorem d_exp_168 : decode method_3_code 168 = .ok (.bipush 7, 2) := by decide +kernel
theorem d_exp_170 : decode method_3_code 170 = .ok (.bipush 101, 2) := by decide +kernel
theorem d_exp_172 : decode method_3_code 172 = .ok (.castore, 1) := by decide +kernel
theorem d_exp_173 : decode method_3_code 173 = .ok (.dup, 1) := by decide +kernel
theorem d_exp_174 : decode method_3_code 174 = .ok (.bipush 8, 2) := by decide +kernel
theorem d_exp_176 : decode method_3_code 176 = .ok (.bipush 114, 2) := by decide +kernel
theorem d_exp_178 : decode method_3_code 178 = .ok (.castore, 1) := by decide +kernel
theorem d_exp_179 : decode method_3_code 179 = .ok (.dup, 1) := by decide +kernel
theorem d_exp_180 : decode method_3_code 180 = .ok (.bipush 9, 2) := by decide +kernel
theorem d_exp_182 : decode method_3_code 182 = .ok (.bipush 115, 2) := by decide +kernel
theorem d_exp_184 : decode method_3_code 184 = .ok (.castore, 1) := by decide +kernel
theorem d_exp_185 : decode method_3_code 185 = .ok (.dup, 1) := by decide +kernel
theorem d_exp_186 : decode method_3_code 186 = .ok (.bipush 10, 2) := by decide +kernel
theorem d_exp_188 : decode method_3_code 188 = .ok (.bipush 105, 2) := by decide +kernel
theorem d_exp_190 : decode method_3_code 190 = .ok (.castore, 1) := by decide +kernel
theorem d_exp_191 : decode method_3_code 191 = .ok (.dup, 1) := by decide +kernel
theorem d_exp_192 : decode method_3_code 192 = .ok (.bipush 11, 2) := by decide +kernel
theorem d_exp_194 : decode method_3_code 194 = .ok (.bipush 111, 2) := by decide +kernel
theorem d_exp_196 : decode method_3_code 196 = .ok (.castore, 1) := by decide +kernel
theorem d_exp_197 : decode method_3_code 197 = .ok (.dup, 1) := by decide +kernel
theorem d_exp_198 : decode method_3_code 198 = .ok (.bipush 12, 2) := by decide +kernel
theorem d_exp_200 : decode method_3_code 200 = .ok (.bipush 110, 2) := by decide +kernel
theorem d_exp_202 : decode method_3_code 202 = .ok (.castore, 1) := by decide +kernel
theorem d_exp_203 : decode method_3_code 203 = .ok (.dup, 1) := by decide +kernel
theorem d_exp_204 : decode method_3_code 204 = .ok (.bipush 13, 2) := by decide +kernel
theorem d_exp_206 : decode method_3_code 206 = .ok (.bipush 61, 2) := by decide +kernel
theorem d_exp_208 : decode method_3_code 208 = .ok (.castore, 1) := by decide +kernel
theorem d_exp_209 : decode method_3_code 209 = .ok (.dup, 1) := by decide +kernel
theorem d_exp_210 : decode method_3_code 210 = .ok (.bipush 14, 2) := by decide +kernel
theorem d_exp_212 : decode method_3_code 212 = .ok (.bipush 34, 2) := by decide +kernel
theorem d_exp_214 : decode method_3_code 214 = .ok (.castore, 1) := by decide +kernel
theorem d_exp_215 : decode method_3_code 215 = .ok (.dup, 1) := by decide +kernel
theorem d_exp_216 : decode method_3_code 216 = .ok (.bipush 15, 2) := by decide +kernel
theorem d_exp_218 : decode method_3_code 218 = .ok (.iload_n 1, 1) := by decide +kernel
theorem d_exp_219 : decode method_3_code 219 = .ok (.castore, 1) := by decide +kernel
theorem d_exp_220 : decode method_3_code 220 = .ok (.dup, 1) := by decide +kernel
theorem d_exp_221 : decode method_3_code 221 = .ok (.bipush 16, 2) := by decide +kernel
theorem d_exp_223 : decode method_3_code 223 = .ok (.bipush 34, 2) := by decide +kernel
theorem d_exp_225 : decode method_3_code 225 = .ok (.castore, 1) := by decide +kernel
theorem d_exp_226 : decode method_3_code 226 = .ok (.dup, 1) := by decide +kernel
theorem d_exp_227 : decode method_3_code 227 = .ok (.bipush 17, 2) := by decide +kernel
theorem d_exp_229 : decode method_3_code 229 = .ok (.bipush 63, 2) := by decide +kernel
theorem d_exp_231 : decode method_3_code 231 = .ok (.castore, 1) := by decide +kernel
theorem d_exp_232 : decode method_3_code 232 = .ok (.dup, 1) := by decide +kernel
theorem d_exp_233 : decode method_3_code 233 = .ok (.bipush 18, 2) := by decide +kernel
theorem d_exp_235 : decode method_3_code 235 = .ok (.bipush 62, 2) := by decide +kernel
theorem d_exp_237 : decode method_3_code 237 = .ok (.castore, 1) := by decide +kernel
theorem d_exp_238 : decode method_3_code 238 = .ok (.invokespecial 9, 3) := by decide +kernel
theorem d_exp_241 : decode method_3_code 241 = .ok (.areturn, 1) := by decide +kernel
theorem d_exp_242 : decode method_3_code 242 = .ok (.iload_n 0, 1) := by decide +kernel
theorem d_exp_243 : decode method_3_code 243 = .ok (.iconst 2, 1) := by decide +kernel
theorem d_exp_244 : decode method_3_code 244 = .ok (.if_icmp .ne 127, 3) := by decide +kernel
theorem d_exp_247 : decode method_3_code 247 = .ok (.new 7, 3) := by decide +kernel
theorem d_exp_250 : decode method_3_code 250 = .ok (.dup, 1) := by decide +kernel
theorem d_exp_251 : decode method_3_code 251 = .ok (.bipush 20, 2) := by decide +kernel
theorem d_exp_253 : decode method_3_code 253 = .ok (.newarray .char, 2) := by decide +kernel
theorem d_exp_255 : decode method_3_code 255 = .ok (.dup, 1) := by decide +kernel
theorem d_exp_256 : decode method_3_code 256 = .ok (.iconst 0, 1) := by decide +kernel
theorem d_exp_257 : decode method_3_code 257 = .ok (.bipush 60, 2) := by decide +kernel
theorem d_exp_259 : decode method_3_code 259 = .ok (.castore, 1) := by decide +kernel
theorem d_exp_260 : decode method_3_code 260 = .ok (.dup, 1) := by decide +kernel
theorem d_exp_261 : decode method_3_code 261 = .ok (.iconst 1, 1) := by decide +kernel
theorem d_exp_262 : decode method_3_code 262 = .ok (.bipush 63, 2) := by decide +kernel
theorem d_exp_264 : decode method_3_code 264 = .ok (.castore, 1) := by decide +kernel
theorem d_exp_265 : decode method_3_code 265 = .ok (.dup, 1) := by decide +kernel
theorem d_exp_266 : decode method_3_code 266 = .ok (.iconst 2, 1) := by decide +kernel
theorem d_exp_267 : decode method_3_code 267 = .ok (.bipush 120, 2) := by decide +kernel
theorem d_exp_269 : decode method_3_code 269 = .ok (.castore, 1) := by decide +kernel
theorem d_exp_270 : decode method_3_code 270 = .ok (.dup, 1) := by decide +kernel
theorem d_exp_271 : decode method_3_code 271 = .ok (.iconst 3, 1) := by decide +kernel
theorem d_exp_272 : decode method_3_code 272 = .ok (.bipush 109, 2) := by decide +kernel
theorem d_exp_274 : decode method_3_code 274 = .ok (.castore, 1) := by decide +kernel
theorem d_exp_275 : decode method_3_code 275 = .ok (.dup, 1) := by decide +kernel
theorem d_exp_276 : decode method_3_code 276 = .ok (.iconst 4, 1) := by decide +kernel
theorem d_exp_277 : decode method_3_code 277 = .ok (.bipush 108, 2) := by decide +kernel
theorem d_exp_279 : decode method_3_code 279 = .ok (.castore, 1) := by decide +kernel
theorem d_exp_280 : decode method_3_code 280 = .ok (.dup, 1) := by decide +kernel
theorem d_exp_281 : decode method_3_code 281 = .ok (.iconst 5, 1) := by decide +kernel
theorem d_exp_282 : decode method_3_code 282 = .ok (.bipush 32, 2) := by decide +kernel
theorem d_exp_284 : decode method_3_code 284 = .ok (.castore, 1) := by decide +kernel
theorem d_exp_285 : decode method_3_code 285 = .ok (.dup, 1) := by decide +kernel
theorem d_exp_286 : decode method_3_code 286 = .ok (.bipush 6, 2) := by decide +kernel
theorem d_exp_288 : decode method_3_code 288 = .ok (.bipush 118, 2) := by decide +kernel
theorem d_exp_290 : decode method_3_code 290 = .ok (.castore, 1) := by decide +kernel
theorem d_exp_291 : decode method_3_code 291 = .ok (.dup, 1) := by decide +kernel
theorem d_exp_292 : decode method_3_code 292 = .ok (.bipush 7, 2) := by decide +kernel
theorem d_exp_294 : decode method_3_code 294 = .ok (.bipush 101, 2) := by decide +kernel
theorem d_exp_296 : decode method_3_code 296 = .ok (.castore, 1) := by decide +kernel
theorem d_exp_297 : decode method_3_code 297 = .ok (.dup, 1) := by decide +kernel
theorem d_exp_298 : decode method_3_code 298 = .ok (.bipush 8, 2) := by decide +kernel
theorem d_exp_300 : decode method_3_code 300 = .ok (.bipush 114, 2) := by decide +kernel
theorem d_exp_302 : decode method_3_code 302 = .ok (.castore, 1) := by decide +kernel
theorem d_exp_303 : decode method_3_code 303 = .ok (.dup, 1) := by decide +kernel
theorem d_exp_304 : decode method_3_code 304 = .ok (.bipush 9, 2) := by decide +kernel
theorem d_exp_306 : decode method_3_code 306 = .ok (.bipush 115, 2) := by decide +kernel
theorem d_exp_308 : decode method_3_code 308 = .ok (.castore, 1) := by decide +kernel
theorem d_exp_309 : decode method_3_code 309 = .ok (.dup, 1) := by decide +kernel
theorem d_exp_310 : decode method_3_code 310 = .ok (.bipush 10, 2) := by decide +kernel
theorem d_exp_312 : decode method_3_code 312 = .ok (.bipush 105, 2) := by decide +kernel
theorem d_exp_314 : decode method_3_code 314 = .ok (.castore, 1) := by decide +kernel
theorem d_exp_315 : decode method_3_code 315 = .ok (.dup, 1) := by decide +kernel
theorem d_exp_316 : decode method_3_code 316 = .ok (.bipush 11, 2) := by decide +kernel
theorem d_exp_318 : decode method_3_code 318 = .ok (.bipush 111, 2) := by decide +kernel
theorem d_exp_320 : decode method_3_code 320 = .ok (.castore, 1) := by decide +kernel
theorem d_exp_321 : decode method_3_code 321 = .ok (.dup, 1) := by decide +kernel
theorem d_exp_322 : decode method_3_code 322 = .ok (.bipush 12, 2) := by decide +kernel
theorem d_exp_324 : decode method_3_code 324 = .ok (.bipush 110, 2) := by decide +kernel
theorem d_exp_326 : decode method_3_code 326 = .ok (.castore, 1) := by decide +kernel
theorem d_exp_327 : decode method_3_code 327 = .ok (.dup, 1) := by decide +kernel
theorem d_exp_328 : decode method_3_code 328 = .ok (.bipush 13, 2) := by decide +kernel
theorem d_exp_330 : decode method_3_code 330 = .ok (.bipush 61, 2) := by decide +kernel
theorem d_exp_332 : decode method_3_code 332 = .ok (.castore, 1) := by decide +kernel
theorem d_exp_333 : decode method_3_code 333 = .ok (.dup, 1) := by decide +kernel
theorem d_exp_334 : decode method_3_code 334 = .ok (.bipush 14, 2) := by decide +kernel
theorem d_exp_336 : decode method_3_code 336 = .ok (.bipush 34, 2) := by decide +kernel
theorem d_exp_338 : decode method_3_code 338 = .ok (.castore, 1) := by decide +kernel
theorem d_exp_339 : decode method_3_code 339 = .ok (.dup, 1) := by decide +kernel
theorem d_exp_340 : decode method_3_code 340 = .ok (.bipush 15, 2) := by decide +kernel
theorem d_exp_342 : decode method_3_code 342 = .ok (.iload_n 1, 1) := by decide +kernel
theorem d_exp_343 : decode method_3_code 343 = .ok (.castore, 1) := by decide +kernel
theorem d_exp_344 : decode method_3_code 344 = .ok (.dup, 1) := by decide +kernel
theorem d_exp_345 : decode method_3_code 345 = .ok (.bipush 16, 2) := by decide +kernel
theorem d_exp_347 : decode method_3_code 347 = .ok (.iload_n 2, 1) := by decide +kernel
theorem d_exp_348 : decode method_3_code 348 = .ok (.castore, 1) := by decide +kernel
theorem d_exp_349 : decode method_3_code 349 = .ok (.dup, 1) := by decide +kernel
theorem d_exp_350 : decode method_3_code 350 = .ok (.bipush 17, 2) := by decide +kernel
theorem d_exp_352 : decode method_3_code 352 = .ok (.bipush 34, 2) := by decide +kernel
theorem d_exp_354 : decode method_3_code 354 = .ok (.castore, 1) := by decide +kernel
theorem d_exp_355 : decode method_3_code 355 = .ok (.dup, 1) := by decide +kernel
theorem d_exp_356 : decode method_3_code 356 = .ok (.bipush 18, 2) := by decide +kernel
theorem d_exp_358 : decode method_3_code 358 = .ok (.bipush 63, 2) := by decide +kernel
theorem d_exp_360 : decode method_3_code 360 = .ok (.castore, 1) := by decide +kernel
theorem d_exp_361 : decode method_3_code 361 = .ok (.dup, 1) := by decide +kernel
theorem d_exp_362 : decode method_3_code 362 = .ok (.bipush 19, 2) := by decide +kernel
theorem d_exp_364 : decode method_3_code 364 = .ok (.bipush 62, 2) := by decide +kernel
theorem d_exp_366 : decode method_3_code 366 = .ok (.castore, 1) := by decide +kernel
theorem d_exp_367 : decode method_3_code 367 = .ok (.invokespecial 9, 3) := by decide +kernel
theorem d_exp_370 : decode method_3_code 370 = .ok (.areturn, 1) := by decide +kernel
theorem d_exp_371 : decode method_3_code 371 = .ok (.new 7, 3) := by decide +kernel
theorem d_exp_374 : decode method_3_code 374 = .ok (.dup, 1) := by decide +kernel
theorem d_exp_375 : decode method_3_code 375 = .ok (.bipush 21, 2) := by decide +kernel
theorem d_exp_377 : decode method_3_code 377 = .ok (.newarray .char, 2) := by decide +kernel
theorem d_exp_379 : decode method_3_code 379 = .ok (.dup, 1) := by decide +kernel
theorem d_exp_380 : decode method_3_code 380 = .ok (.iconst 0, 1) := by decide +kernel
theorem d_exp_381 : decode method_3_code 381 = .ok (.bipush 60, 2) := by decide +kernel
theorem d_exp_383 : decode method_3_code 383 = .ok (.castore, 1) := by decide +kernel
theorem d_exp_384 : decode method_3_code 384 = .ok (.dup, 1) := by decide +kernel
theorem d_exp_385 : decode method_3_code 385 = .ok (.iconst 1, 1) := by decide +kernel
theorem d_exp_386 : decode method_3_code 386 = .ok (.bipush 63, 2) := by decide +kernel
theorem d_exp_388 : decode method_3_code 388 = .ok (.castore, 1) := by decide +kernel
theorem d_exp_389 : decode method_3_code 389 = .ok (.dup, 1) := by decide +kernel
theorem d_exp_390 : decode method_3_code 390 = .ok (.iconst 2, 1) := by decide +kernel
theorem d_exp_391 : decode method_3_code 391 = .ok (.bipush 120, 2) := by decide +kernel
theorem d_exp_393 : decode method_3_code 393 = .ok (.castore, 1) := by decide +kernel
theorem d_exp_394 : decode method_3_code 394 = .ok (.dup, 1) := by decide +kernel
theorem d_exp_395 : decode method_3_code 395 = .ok (.iconst 3, 1) := by decide +kernel
theorem d_exp_396 : decode method_3_code 396 = .ok (.bipush 109, 2) := by decide +kernel
theorem d_exp_398 : decode method_3_code 398 = .ok (.castore, 1) := by decide +kernel
theorem d_exp_399 : decode method_3_code 399 = .ok (.dup, 1) := by decide +kernel
theorem d_exp_400 : decode method_3_code 400 = .ok (.iconst 4, 1) := by decide +kernel
theorem d_exp_401 : decode method_3_code 401 = .ok (.bipush 108, 2) := by decide +kernel
theorem d_exp_403 : decode method_3_code 403 = .ok (.castore, 1) := by decide +kernel
theorem d_exp_404 : decode method_3_code 404 = .ok (.dup, 1) := by decide +kernel
theorem d_exp_405 : decode method_3_code 405 = .ok (.iconst 5, 1) := by decide +kernel
theorem d_exp_406 : decode method_3_code 406 = .ok (.bipush 32, 2) := by decide +kernel
theorem d_exp_408 : decode method_3_code 408 = .ok (.castore, 1) := by decide +kernel
theorem d_exp_409 : decode method_3_code 409 = .ok (.dup, 1) := by decide +kernel
theorem d_exp_410 : decode method_3_code 410 = .ok (.bipush 6, 2) := by decide +kernel
theorem d_exp_412 : decode method_3_code 412 = .ok (.bipush 118, 2) := by decide +kernel
theorem d_exp_414 : decode method_3_code 414 = .ok (.castore, 1) := by decide +kernel
theorem d_exp_415 : decode method_3_code 415 = .ok (.dup, 1) := by decide +kernel
theorem d_exp_416 : decode method_3_code 416 = .ok (.bipush 7, 2) := by decide +kernel
theorem d_exp_418 : decode method_3_code 418 = .ok (.bipush 101, 2) := by decide +kernel
theorem d_exp_420 : decode method_3_code 420 = .ok (.castore, 1) := by decide +kernel
theorem d_exp_421 : decode method_3_code 421 = .ok (.dup, 1) := by decide +kernel
theorem d_exp_422 : decode method_3_code 422 = .ok (.bipush 8, 2) := by decide +kernel
theorem d_exp_424 : decode method_3_code 424 = .ok (.bipush 114, 2) := by decide +kernel
theorem d_exp_426 : decode method_3_code 426 = .ok (.castore, 1) := by decide +kernel
theorem d_exp_427 : decode method_3_code 427 = .ok (.dup, 1) := by decide +kernel
theorem d_exp_428 : decode method_3_code 428 = .ok (.bipush 9, 2) := by decide +kernel
theorem d_exp_430 : decode method_3_code 430 = .ok (.bipush 115, 2) := by decide +kernel
theorem d_exp_432 : decode method_3_code 432 = .ok (.castore, 1) := by decide +kernel
theorem d_exp_433 : decode method_3_code 433 = .ok (.dup, 1) := by decide +kernel
theorem d_exp_434 : decode method_3_code 434 = .ok (.bipush 10, 2) := by decide +kernel
theorem d_exp_436 : decode method_3_code 436 = .ok (.bipush 105, 2) := by decide +kernel
theorem d_exp_438 : decode method_3_code 438 = .ok (.castore, 1) := by decide +kernel
theorem d_exp_439 : decode method_3_code 439 = .ok (.dup, 1) := by decide +kernel
theorem d_exp_440 : decode method_3_code 440 = .ok (.bipush 11, 2) := by decide +kernel
theorem d_exp_442 : decode method_3_code 442 = .ok (.bipush 111, 2) := by decide +kernel
theorem d_exp_444 : decode method_3_code 444 = .ok (.castore, 1) := by decide +kernel
theorem d_exp_445 : decode method_3_code 445 = .ok (.dup, 1) := by decide +kernel
theorem d_exp_446 : decode method_3_code 446 = .ok (.bipush 12, 2) := by decide +kernel
theorem d_exp_448 : decode method_3_code 448 = .ok (.bipush 110, 2) := by decide +kernel
theorem d_exp_450 : decode method_3_code 450 = .ok (.castore, 1) := by decide +kernel
theorem d_exp_451 : decode method_3_code 451 = .ok (.dup, 1) := by decide +kernel
theorem d_exp_452 : decode method_3_code 452 = .ok (.bipush 13, 2) := by decide +kernel
theorem d_exp_454 : decode method_3_code 454 = .ok (.bipush 61, 2) := by decide +kernel
theorem d_exp_456 : decode method_3_code 456 = .ok (.castore, 1) := by decide +kernel
theorem d_exp_457 : decode method_3_code 457 = .ok (.dup, 1) := by decide +kernel
theorem d_exp_458 : decode method_3_code 458 = .ok (.bipush 14, 2) := by decide +kernel
theorem d_exp_460 : decode method_3_code 460 = .ok (.bipush 34, 2) := by decide +kernel
theorem d_exp_462 : decode method_3_code 462 = .ok (.castore, 1) := by decide +kernel
theorem d_exp_463 : decode method_3_code 463 = .ok (.dup, 1) := by decide +kernel
theorem d_exp_464 : decode method_3_code 464 = .ok (.bipush 15, 2) := by decide +kernel
theorem d_exp_466 : decode method_3_code 466 = .ok (.iload_n 1, 1) := by decide +kernel
theorem d_exp_467 : decode method_3_code 467 = .ok (.castore, 1) := by decide +kernel
theorem d_exp_468 : decode method_3_code 468 = .ok (.dup, 1) := by decide +kernel
theorem d_exp_469 : decode method_3_code 469 = .ok (.bipush 16, 2) := by decide +kernel
theorem d_exp_471 : decode method_3_code 471 = .ok (.iload_n 2, 1) := by decide +kernel
theorem d_exp_472 : decode method_3_code 472 = .ok (.castore, 1) := by decide +kernel
theorem d_exp_473 : decode method_3_code 473 = .ok (.dup, 1) := by decide +kernel
theorem d_exp_474 : decode method_3_code 474 = .ok (.bipush 17, 2) := by decide +kernel
theorem d_exp_476 : decode method_3_code 476 = .ok (.iload_n 3, 1) := by decide +kernel
theorem d_exp_477 : decode method_3_code 477 = .ok (.castore, 1) := by decide +kernel
theorem d_exp_478 : decode method_3_code 478 = .ok (.dup, 1) := by decide +kernel
theorem d_exp_479 : decode method_3_code 479 = .ok (.bipush 18, 2) := by decide +kernel
theorem d_exp_481 : decode method_3_code 481 = .ok (.bipush 34, 2) := by decide +kernel
theorem d_exp_483 : decode method_3_code 483 = .ok (.castore, 1) := by decide +kernel
theorem d_exp_484 : decode method_3_code 484 = .ok (.dup, 1) := by decide +kernel
theorem d_exp_485 : decode method_3_code 485 = .ok (.bipush 19, 2) := by decide +kernel
theorem d_exp_487 : decode method_3_code 487 = .ok (.bipush 63, 2) := by decide +kernel
theorem d_exp_489 : decode method_3_code 489 = .ok (.castore, 1) := by decide +kernel
theorem d_exp_490 : decode method_3_code 490 = .ok (.dup, 1) := by decide +kernel
theorem d_exp_491 : decode method_3_code 491 = .ok (.bipush 20, 2) := by decide +kernel
theorem d_exp_493 : decode method_3_code 493 = .ok (.bipush 62, 2) := by decide +kernel
theorem d_exp_495 : decode method_3_code 495 = .ok (.castore, 1) := by decide +kernel
theorem d_exp_496 : decode method_3_code 496 = .ok (.invokespecial 9, 3) := by decide +kernel
theorem d_exp_499 : decode method_3_code 499 = .ok (.areturn, 1) := by decide +kernel
theorem ef_exp (m : MethodId) (x0 : Int32) (x1 : Int32) (x2 : Int32) (x3 : Int32) : entryFrame m #[(.int x0), (.int x1), (.int x2), (.int x3)] 4 = mkF m 0 #[.val (.int x0), .val (.int x1), .val (.int x2), .val (.int x3)] [] := by first | (simp [entryFrame, mkF, argsToLocals, Value.category]; done) | rfl
theorem pn_exp : plainFor (⟨"com/example/loomwire/loomwire/soap/XmlWriterWriteStartDocument304PinLaw", "expected", "(ICCC)Ljava/lang/String;"⟩ : MethodName) = true := by first | exact plainFor_of_name (by first | (simp [plainName, overriddenIn]; done) | decide +kernel) | decide +kernel
set_option maxRecDepth 65536 in
set_option maxHeartbeats 40000000 in
theorem rm_exp (l : Launch) (Z : State) (a0 : Array Value) (hw : ∀ d ∈ tables_1, d.before a0 Z = true) (x0 : Int32) (x1 : Int32) (x2 : Int32) (x3 : Int32) (cs : Int32) (n0 : Nat) (h0 : Heap) (Z0 : n0 ≤ h0.size) (S0 : Sta Z h0 "java/lang/String" "COMPACT_STRINGS" "Z" (.int cs)) (hcs : ¬ cs = 0) (hv1 : ¬ (255 : Int32) < nar .char x1) (hv2 : ¬ (255 : Int32) < nar .char x2) (hv3 : ¬ (255 : Int32) < nar .char x3) :
    OMet l Z (⟨"com/example/loomwire/loomwire/soap/XmlWriterWriteStartDocument304PinLaw", "expected", "(ICCC)Ljava/lang/String;"⟩ : MethodName) method_3_code 4 (some (.object "java/lang/String")) [] ({ frames := 4, cells := 3, slots := 50, locals := 75 } : Room) #[(.int x0), (.int x1), (.int x2), (.int x3)] h0 (fun v h L => ∃ (a b : Addr) (k : ClassId), v = some (.ref a) ∧ Fr n0 L ∧ Keep h0 h [] ∧ Exa Z h a "java/lang/String" ∧ Fld Z h a "java/lang/String" "coder" "B" (.int 0) ∧ Fld Z h a "java/lang/String" "value" "[B" (.ref b) ∧ Arv Z h b k .byte (NI (elist x0 x1 x2 x3).length) (elist x0 x1 x2 x3) (.int 0) ∧ h0.size ≤ a ∧ h0.size ≤ b) := by
  refine OMet.of pn_exp ?_
  intro p e s m below meth c T0 X0 hx hby hml hown0 hnm hret hlk hZ e0
  have hown : s.vm.findClass "com/example/loomwire/loomwire/soap/XmlWriterWriteStartDocument304PinLaw" = some m.cls := hown0
  refine OGo.go (fun t k => castTop (ef_exp m x0 x1 x2 x3) k) ?_
  refine OGo.go (U' := T0.setTop (mkF m 1 #[.val (.int x0), .val (.int x1), .val (.int x2), .val (.int x3)] [(.int x0)])) (fun _ k => XS.iloadN X0.here hx rfl (hb hby d_exp_0) rfl k) ?_
  by_cases hc1 : x0 = (0 : Int32)
  · skip
    refine OGo.go (U' := T0.setTop (mkF m 4 #[.val (.int x0), .val (.int x1), .val (.int x2), .val (.int x3)] [])) (fun _ k => XS.ifNo X0.here hx rfl (hb hby d_exp_1) rfl ((if0 _ _).trans (teq hc1).2) k) ?_
    obtain ⟨T2, h2, X2, e2, E2, A2, D2, -, st2⟩ := newO X0 hx hZ hown (hw _ (List.mem_of_getElem? (i := 4) rfl)) (hw _ (List.mem_of_getElem? (i := 5) rfl)) (hw _ (List.mem_of_getElem? (i := 6) rfl)) e0 (g := (mkF m 4 #[.val (.int x0), .val (.int x1), .val (.int x2), .val (.int x3)] [])) rfl (hb hby d_exp_4) (by decide) (by decide)
    obtain ⟨b2, gb2⟩ : ∃ z, z = h0.size := ⟨_, rfl⟩
    rw [← gb2] at A2 D2 st2
    have g3 : n0 ≤ b2 := Nat.le_trans Z0 (Nat.le_of_eq gb2.symm)
    have sz4 := Nat.le_trans (Keep.refl h0 []).1 (Nat.le_of_eq gb2.symm)
    have f5 := S0.ext E2
    have K6 := (Keep.refl h0 []).ext E2
    have f7 : Fld Z h2 b2 "java/lang/String" "value" "[B" .null := D2 (Or.inr (hw _ (List.mem_of_getElem? (i := 20) rfl))) (ty := (.array .byte)) (by decide)
    have f8 : Fld Z h2 b2 "java/lang/String" "coder" "B" (.int (0 : Int32)) := D2 (Or.inr (hw _ (List.mem_of_getElem? (i := 21) rfl))) (ty := .byte) (by decide)
    refine OGo.go (U' := T2.setTop (mkF m 7 #[.val (.int x0), .val (.int x1), .val (.int x2), .val (.int x3)] [(.ref b2)])) st2 ?_
    refine OGo.go (U' := T2.setTop (mkF m 8 #[.val (.int x0), .val (.int x1), .val (.int x2), .val (.int x3)] [(.ref b2), (.ref b2)])) (fun _ k => XS.dup X2.here hx rfl (hb hby d_exp_7) rfl rfl k) ?_
    refine OGo.go (U' := T2.setTop (mkF m 10 #[.val (.int x0), .val (.int x1), .val (.int x2), .val (.int x3)] [(.int (18 : Int32)), (.ref b2), (.ref b2)])) (fun _ k => XS.bipush X2.here hx rfl (hb hby d_exp_8) k) ?_
    obtain ⟨T9, h9, k9, X9, e9, E9, A9, st9⟩ := newP X2 hx hZ (hw _ (List.mem_of_getElem? (i := 7) rfl)) e2 (g := (mkF m 10 #[.val (.int x0), .val (.int x1), .val (.int x2), .val (.int x3)] [(.int (18 : Int32)), (.ref b2), (.ref b2)])) rfl (hb hby d_exp_10) rfl (n := 18) (by decide) (cap := 18) (by decide) (by decide) (by decide) (by decide)
    obtain ⟨b9, gb9⟩ : ∃ z, z = h2.size := ⟨_, rfl⟩
    rw [← gb9] at A9 st9
    have ne10 : b2 ≠ b9 := Nat.ne_of_lt (Nat.lt_of_lt_of_le A2.lt (Nat.le_of_eq gb9.symm))
    have g11 : n0 ≤ b9 := Nat.le_trans (Nat.le_trans Z0 E2.1) (Nat.le_of_eq gb9.symm)
    have sz12 := Nat.le_trans K6.1 (Nat.le_of_eq gb9.symm)
    have f13 := f5.ext E9
    have f14 := A2.ext E9
    have f15 := f7.ext E9
    have f16 := f8.ext E9
    have K17 := K6.ext E9
    have V9 : Arv Z h9 b9 k9 .char 18 [] (.int 0) := Arv.new A9 (by decide)
    refine OGo.go (U' := T9.setTop (mkF m 12 #[.val (.int x0), .val (.int x1), .val (.int x2), .val (.int x3)] [(.ref b9), (.ref b2), (.ref b2)])) st9 ?_
    refine OGo.go (U' := T9.setTop (mkF m 13 #[.val (.int x0), .val (.int x1), .val (.int x2), .val (.int x3)] [(.ref b9), (.ref b9), (.ref b2), (.ref b2)])) (fun _ k => XS.dup X9.here hx rfl (hb hby d_exp_12) rfl rfl k) ?_
    refine OGo.go (U' := T9.setTop (mkF m 14 #[.val (.int x0), .val (.int x1), .val (.int x2), .val (.int x3)] [(.int (0 : Int32)), (.ref b9), (.ref b9), (.ref b2), (.ref b2)])) (fun _ k => XS.iconst X9.here hx rfl (hb hby d_exp_13) k) ?_
    refine OGo.go (U' := T9.setTop (mkF m 16 #[.val (.int x0), .val (.int x1), .val (.int x2), .val (.int x3)] [(.int (60 : Int32)), (.int (0 : Int32)), (.ref b9), (.ref b9), (.ref b2), (.ref b2)])) (fun _ k => XS.bipush X9.here hx rfl (hb hby d_exp_14) k) ?_
    have P18 : CPk p l e _ s m _ below meth c _ _ Z n0 h0 b2 b9 k9 18 cs _ _ T9 h9 _ 0 [] := ⟨X9, e9, (Fr.nil n0), K17, (Nat.le_trans (Nat.le_trans Z0 E2.1) E9.1), f14, f15, f16, f13, V9, rfl⟩
    refine own_cst ne10 g11 sz12 hx hZ P18 18 (by decide) (by decide) (q := 0) (by decide) (x := (60 : Int32)) (j := (0 : Int32)) (by decide) (g := (mkF m 16 #[.val (.int x0), .val (.int x1), .val (.int x2), .val (.int x3)] [(.int (60 : Int32)), (.int (0 : Int32)), (.ref b9), (.ref b9), (.ref b2), (.ref b2)])) rfl (rest := [(.ref b9), (.ref b2), (.ref b2)]) rfl (hb hby d_exp_16) (fun T19 h19 L19 P19 => ?_)
    show OGo p e below _ (T19.setTop (mkF m 17 #[.val (.int x0), .val (.int x1), .val (.int x2), .val (.int x3)] [(.ref b9), (.ref b2), (.ref b2)]))
    refine OGo.go (U' := T19.setTop (mkF m 18 #[.val (.int x0), .val (.int x1), .val (.int x2), .val (.int x3)] [(.ref b9), (.ref b9), (.ref b2), (.ref b2)])) (fun _ k => XS.dup P19.1.here hx rfl (hb hby d_exp_17) rfl rfl k) ?_
    refine OGo.go (U' := T19.setTop (mkF m 19 #[.val (.int x0), .val (.int x1), .val (.int x2), .val (.int x3)] [(.int (1 : Int32)), (.ref b9), (.ref b9), (.ref b2), (.ref b2)])) (fun _ k => XS.iconst P19.1.here hx rfl (hb hby d_exp_18) k) ?_
    refine OGo.go (U' := T19.setTop (mkF m 21 #[.val (.int x0), .val (.int x1), .val (.int x2), .val (.int x3)] [(.int (63 : Int32)), (.int (1 : Int32)), (.ref b9), (.ref b9), (.ref b2), (.ref b2)])) (fun _ k => XS.bipush P19.1.here hx rfl (hb hby d_exp_19) k) ?_
    refine own_cst ne10 g11 sz12 hx hZ P19 18 (by decide) (by decide) (q := 1) (by decide) (x := (63 : Int32)) (j := (1 : Int32)) (by decide) (g := (mkF m 21 #[.val (.int x0), .val (.int x1), .val (.int x2), .val (.int x3)] [(.int (63 : Int32)), (.int (1 : Int32)), (.ref b9), (.ref b9), (.ref b2), (.ref b2)])) rfl (rest := [(.ref b9), (.ref b2), (.ref b2)]) rfl (hb hby d_exp_21) (fun T21 h21 L21 P21 => ?_)
    show OGo p e below _ (T21.setTop (mkF m 22 #[.val (.int x0), .val (.int x1), .val (.int x2), .val (.int x3)] [(.ref b9), (.ref b2), (.ref b2)]))
    refine OGo.go (U' := T21.setTop (mkF m 23 #[.val (.int x0), .val (.int x1), .val (.int x2), .val (.int x3)] [(.ref b9), (.ref b9), (.ref b2), (.ref b2)])) (fun _ k => XS.dup P21.1.here hx rfl (hb hby d_exp_22) rfl rfl k) ?_
    refine OGo.go (U' := T21.setTop (mkF m 24 #[.val (.int x0), .val (.int x1), .val (.int x2), .val (.int x3)] [(.int (2 : Int32)), (.ref b9), (.ref b9), (.ref b2), (.ref b2)])) (fun _ k => XS.iconst P21.1.here hx rfl (hb hby d_exp_23) k) ?_
    refine OGo.go (U' := T21.setTop (mkF m 26 #[.val (.int x0), .val (.int x1), .val (.int x2), .val (.int x3)] [(.int (120 : Int32)), (.int (2 : Int32)), (.ref b9), (.ref b9), (.ref b2), (.ref b2)])) (fun _ k => XS.bipush P21.1.here hx rfl (hb hby d_exp_24) k) ?_
    refine own_cst ne10 g11 sz12 hx hZ P21 18 (by decide) (by decide) (q := 2) (by decide) (x := (120 : Int32)) (j := (2 : Int32)) (by decide) (g := (mkF m 26 #[.val (.int x0), .val (.int x1), .val (.int x2), .val (.int x3)] [(.int (120 : Int32)), (.int (2 : Int32)), (.ref b9), (.ref b9), (.ref b2), (.ref b2)])) rfl (rest := [(.ref b9), (.ref b2), (.ref b2)]) rfl (hb hby d_exp_26) (fun T23 h23 L23 P23 => ?_)
    show OGo p e below _ (T23.setTop (mkF m 27 #[.val (.int x0), .val (.int x1), .val (.int x2), .val (.int x3)] [(.ref b9), (.ref b2), (.ref b2)]))
    refine OGo.go (U' := T23.setTop (mkF m 28 #[.val (.int x0), .val (.int x1), .val (.int x2), .val (.int x3)] [(.ref b9), (.ref b9), (.ref b2), (.ref b2)])) (fun _ k => XS.dup P23.1.here hx rfl (hb hby d_exp_27) rfl rfl k) ?_
    refine OGo.go (U' := T23.setTop (mkF m 29 #[.val (.int x0), .val (.int x1), .val (.int x2), .val (.int x3)] [(.int (3 : Int32)), (.ref b9), (.ref b9), (.ref b2), (.ref b2)])) (fun _ k => XS.iconst P23.1.here hx rfl (hb hby d_exp_28) k) ?_
    refine OGo.go (U' := T23.setTop (mkF m 31 #[.val (.int x0), .val (.int x1), .val (.int x2), .val (.int x3)] [(.int (109 : Int32)), (.int (3 : Int32)), (.ref b9), (.ref b9), (.ref b2), (.ref b2)])) (fun _ k => XS.bipush P23.1.here hx rfl (hb hby d_exp_29) k) ?_
    refine own_cst ne10 g11 sz12 hx hZ P23 18 (by decide) (by decide) (q := 3) (by decide) (x := (109 : Int32)) (j := (3 : Int32)) (by decide) (g := (mkF m 31 #[.val (.int x0), .val (.int x1), .val (.int x2), .val (.int x3)] [(.int (109 : Int32)), (.int (3 : Int32)), (.ref b9), (.ref b9), (.ref b2), (.ref b2)])) rfl (rest := [(.ref b9), (.ref b2), (.ref b2)]) rfl (hb hby d_exp_31) (fun T25 h25 L25 P25 => ?_)
    show OGo p e below _ (T25.setTop (mkF m 32 #[.val (.int x0), .val (.int x1), .val (.int x2), .val (.int x3)] [(.ref b9), (.ref b2), (.ref b2)]))
    refine OGo.go (U' := T25.setTop (mkF m 33 #[.val (.int x0), .val (.int x1), .val (.int x2), .val (.int x3)] [(.ref b9), (.ref b9), (.ref b2), (.ref b2)])) (fun _ k => XS.dup P25.1.here hx rfl (hb hby d_exp_32) rfl rfl k) ?_
    refine OGo.go (U' := T25.setTop (mkF m 34 #[.val (.int x0), .val (.int x1), .val (.int x2), .val (.int x3)] [(.int (4 : Int32)), (.ref b9), (.ref b9), (.ref b2), (.ref b2)])) (fun _ k => XS.iconst P25.1.here hx rfl (hb hby d_exp_33) k) ?_
    refine OGo.go (U' := T25.setTop (mkF m 36 #[.val (.int x0), .val (.int x1), .val (.int x2), .val (.int x3)] [(.int (108 : Int32)), (.int (4 : Int32)), (.ref b9), (.ref b9), (.ref b2), (.ref b2)])) (fun _ k => XS.bipush P25.1.here hx rfl (hb hby d_exp_34) k) ?_
    refine own_cst ne10 g11 sz12 hx hZ P25 18 (by decide) (by decide) (q := 4) (by decide) (x := (108 : Int32)) (j := (4 : Int32)) (by decide) (g := (mkF m 36 #[.val (.int x0), .val (.int x1), .val (.int x2), .val (.int x3)] [(.int (108 : Int32)), (.int (4 : Int32)), (.ref b9), (.ref b9), (.ref b2), (.ref b2)])) rfl (rest := [(.ref b9), (.ref b2), (.ref b2)]) rfl (hb hby d_exp_36) (fun T27 h27 L27 P27 => ?_)
    show OGo p e below _ (T27.setTop (mkF m 37 #[.val (.int x0), .val (.int x1), .val (.int x2), .val (.int x3)] [(.ref b9), (.ref b2), (.ref b2)]))
    refine OGo.go (U' := T27.setTop (mkF m 38 #[.val (.int x0), .val (.int x1), .val (.int x2), .val (.int x3)] [(.ref b9), (.ref b9), (.ref b2), (.ref b2)])) (fun _ k => XS.dup P27.1.here hx rfl (hb hby d_exp_37) rfl rfl k) ?_
    refine OGo.go (U' := T27.setTop (mkF m 39 #[.val (.int x0), .val (.int x1), .val (.int x2), .val (.int x3)] [(.int (5 : Int32)), (.ref b9), (.ref b9), (.ref b2), (.ref b2)])) (fun _ k => XS.iconst P27.1.here hx rfl (hb hby d_exp_38) k) ?_
    refine OGo.go (U' := T27.setTop (mkF m 41 #[.val (.int x0), .val (.int x1), .val (.int x2), .val (.int x3)] [(.int (32 : Int32)), (.int (5 : Int32)), (.ref b9), (.ref b9), (.ref b2), (.ref b2)])) (fun _ k => XS.bipush P27.1.here hx rfl (hb hby d_exp_39) k) ?_
    refine own_cst ne10 g11 sz12 hx hZ P27 18 (by decide) (by decide) (q := 5) (by decide) (x := (32 : Int32)) (j := (5 : Int32)) (by decide) (g := (mkF m 41 #[.val (.int x0), .val (.int x1), .val (.int x2), .val (.int x3)] [(.int (32 : Int32)), (.int (5 : Int32)), (.ref b9), (.ref b9), (.ref b2), (.ref b2)])) rfl (rest := [(.ref b9), (.ref b2), (.ref b2)]) rfl (hb hby d_exp_41) (fun T29 h29 L29 P29 => ?_)
    show OGo p e below _ (T29.setTop (mkF m 42 #[.val (.int x0), .val (.int x1), .val (.int x2), .val (.int x3)] [(.ref b9), (.ref b2), (.ref b2)]))
    refine OGo.go (U' := T29.setTop (mkF m 43 #[.val (.int x0), .val (.int x1), .val (.int x2), .val (.int x3)] [(.ref b9), (.ref b9), (.ref b2), (.ref b2)])) (fun _ k => XS.dup P29.1.here hx rfl (hb hby d_exp_42) rfl rfl k) ?_
    refine OGo.go (U' := T29.setTop (mkF m 45 #[.val (.int x0), .val (.int x1), .val (.int x2), .val (.int x3)] [(.int (6 : Int32)), (.ref b9), (.ref b9), (.ref b2), (.ref b2)])) (fun _ k => XS.bipush P29.1.here hx rfl (hb hby d_exp_43) k) ?_
    refine OGo.go (U' := T29.setTop (mkF m 47 #[.val (.int x0), .val (.int x1), .val (.int x2), .val (.int x3)] [(.int (118 : Int32)), (.int (6 : Int32)), (.ref b9), (.ref b9), (.ref b2), (.ref b2)])) (fun _ k => XS.bipush P29.1.here hx rfl (hb hby d_exp_45) k) ?_
    refine own_cst ne10 g11 sz12 hx hZ P29 18 (by decide) (by decide) (q := 6) (by decide) (x := (118 : Int32)) (j := (6 : Int32)) (by decide) (g := (mkF m 47 #[.val (.int x0), .val (.int x1), .val (.int x2), .val (.int x3)] [(.int (118 : Int32)), (.int (6 : Int32)), (.ref b9), (.ref b9), (.ref b2), (.ref b2)])) rfl (rest := [(.ref b9), (.ref b2), (.ref b2)]) rfl (hb hby d_exp_47) (fun T31 h31 L31 P31 => ?_)
    show OGo p e below _ (T31.setTop (mkF m 48 #[.val (.int x0), .val (.int x1), .val (.int x2), .val (.int x3)] [(.ref b9), (.ref b2), (.ref b2)]))
    refine OGo.go (U' := T31.setTop (mkF m 49 #[.val (.int x0), .val (.int x1), .val (.int x2), .val (.int x3)] [(.ref b9), (.ref b9), (.ref b2), (.ref b2)])) (fun _ k => XS.dup P31.1.here hx rfl (hb hby d_exp_48) rfl rfl k) ?_
    refine OGo.go (U' := T31.setTop (mkF m 51 #[.val (.int x0), .val (.int x1), .val (.int x2), .val (.int x3)] [(.int (7 : Int32)), (.ref b9), (.ref b9), (.ref b2), (.ref b2)])) (fun _ k => XS.bipush P31.1.here hx rfl (hb hby d_exp_49) k) ?_
    refine OGo.go (U' := T31.setTop (mkF m 53 #[.val (.int x0), .val (.int x1), .val (.int x2), .val (.int x3)] [(.int (101 : Int32)), (.int (7 : Int32)), (.ref b9), (.ref b9), (.ref b2), (.ref b2)])) (fun _ k => XS.bipush P31.1.here hx rfl (hb hby d_exp_51) k) ?_
    refine own_cst ne10 g11 sz12 hx hZ P31 18 (by decide) (by decide) (q := 7) (by decide) (x := (101 : Int32)) (j := (7 : Int32)) (by decide) (g := (mkF m 53 #[.val (.int x0), .val (.int x1), .val (.int x2), .val (.int x3)] [(.int (101 : Int32)), (.int (7 : Int32)), (.ref b9), (.ref b9), (.ref b2), (.ref b2)])) rfl (rest := [(.ref b9), (.ref b2), (.ref b2)]) rfl (hb hby d_exp_53) (fun T33 h33 L33 P33 => ?_)
    show OGo p e below _ (T33.setTop (mkF m 54 #[.val (.int x0), .val (.int x1), .val (.int x2), .val (.int x3)] [(.ref b9), (.ref b2), (.ref b2)]))
    refine OGo.go (U' := T33.setTop (mkF m 55 #[.val (.int x0), .val (.int x1), .val (.int x2), .val (.int x3)] [(.ref b9), (.ref b9), (.ref b2), (.ref b2)])) (fun _ k => XS.dup P33.1.here hx rfl (hb hby d_exp_54) rfl rfl k) ?_
    refine OGo.go (U' := T33.setTop (mkF m 57 #[.val (.int x0), .val (.int x1), .val (.int x2), .val (.int x3)] [(.int (8 : Int32)), (.ref b9), (.ref b9), (.ref b2), (.ref b2)])) (fun _ k => XS.bipush P33.1.here hx rfl (hb hby d_exp_55) k) ?_
    refine OGo.go (U' := T33.setTop (mkF m 59 #[.val (.int x0), .val (.int x1), .val (.int x2), .val (.int x3)] [(.int (114 : Int32)), (.int (8 : Int32)), (.ref b9), (.ref b9), (.ref b2), (.ref b2)])) (fun _ k => XS.bipush P33.1.here hx rfl (hb hby d_exp_57) k) ?_
    refine own_cst ne10 g11 sz12 hx hZ P33 18 (by decide) (by decide) (q := 8) (by decide) (x := (114 : Int32)) (j := (8 : Int32)) (by decide) (g := (mkF m 59 #[.val (.int x0), .val (.int x1), .val (.int x2), .val (.int x3)] [(.int (114 : Int32)), (.int (8 : Int32)), (.ref b9), (.ref b9), (.ref b2), (.ref b2)])) rfl (rest := [(.ref b9), (.ref b2), (.ref b2)]) rfl (hb hby d_exp_59) (fun T35 h35 L35 P35 => ?_)
    show OGo p e below _ (T35.setTop (mkF m 60 #[.val (.int x0), .val (.int x1), .val (.int x2), .val (.int x3)] [(.ref b9), (.ref b2), (.ref b2)]))
    refine OGo.go (U' := T35.setTop (mkF m 61 #[.val (.int x0), .val (.int x1), .val (.int x2), .val (.int x3)] [(.ref b9), (.ref b9), (.ref b2), (.ref b2)])) (fun _ k => XS.dup P35.1.here hx rfl (hb hby d_exp_60) rfl rfl k) ?_
    refine OGo.go (U' := T35.setTop (mkF m 63 #[.val (.int x0), .val (.int x1), .val (.int x2), .val (.int x3)] [(.int (9 : Int32)), (.ref b9), (.ref b9), (.ref b2), (.ref b2)])) (fun _ k => XS.bipush P35.1.here hx rfl (hb hby d_exp_61) k) ?_
    refine OGo.go (U' := T35.setTop (mkF m 65 #[.val (.int x0), .val (.int x1), .val (.int x2), .val (.int x3)] [(.int (115 : Int32)), (.int (9 : Int32)), (.ref b9), (.ref b9), (.ref b2), (.ref b2)])) (fun _ k => XS.bipush P35.1.here hx rfl (hb hby d_exp_63) k) ?_
    refine own_cst ne10 g11 sz12 hx hZ P35 18 (by decide) (by decide) (q := 9) (by decide) (x := (115 : Int32)) (j := (9 : Int32)) (by decide) (g := (mkF m 65 #[.val (.int x0), .val (.int x1), .val (.int x2), .val (.int x3)] [(.int (115 : Int32)), (.int (9 : Int32)), (.ref b9), (.ref b9), (.ref b2), (.ref b2)])) rfl (rest := [(.ref b9), (.ref b2), (.ref b2)]) rfl (hb hby d_exp_65) (fun T37 h37 L37 P37 => ?_)
    show OGo p e below _ (T37.setTop (mkF m 66 #[.val (.int x0), .val (.int x1), .val (.int x2), .val (.int x3)] [(.ref b9), (.ref b2), (.ref b2)]))
    refine OGo.go (U' := T37.setTop (mkF m 67 #[.val (.int x0), .val (.int x1), .val (.int x2), .val (.int x3)] [(.ref b9), (.ref b9), (.ref b2), (.ref b2)])) (fun _ k => XS.dup P37.1.here hx rfl (hb hby d_exp_66) rfl rfl k) ?_
    refine OGo.go (U' := T37.setTop (mkF m 69 #[.val (.int x0), .val (.int x1), .val (.int x2), .val (.int x3)] [(.int (10 : Int32)), (.ref b9), (.ref b9), (.ref b2), (.ref b2)])) (fun _ k => XS.bipush P37.1.here hx rfl (hb hby d_exp_67) k) ?_
    refine OGo.go (U' := T37.setTop (mkF m 71 #[.val (.int x0), .val (.int x1), .val (.int x2), .val (.int x3)] [(.int (105 : Int32)), (.int (10 : Int32)), (.ref b9), (.ref b9), (.ref b2), (.ref b2)])) (fun _ k => XS.bipush P37.1.here hx rfl (hb hby d_exp_69) k) ?_
    refine own_cst ne10 g11 sz12 hx hZ P37 18 (by decide) (by decide) (q := 10) (by decide) (x := (105 : Int32)) (j := (10 : Int32)) (by decide) (g := (mkF m 71 #[.val (.int x0), .val (.int x1), .val (.int x2), .val (.int x3)] [(.int (105 : Int32)), (.int (10 : Int32)), (.ref b9), (.ref b9), (.ref b2), (.ref b2)])) rfl (rest := [(.ref b9), (.ref b2), (.ref b2)]) rfl (hb hby d_exp_71) (fun T39 h39 L39 P39 => ?_)
    show OGo p e below _ (T39.setTop (mkF m 72 #[.val (.int x0), .val (.int x1), .val (.int x2), .val (.int x3)] [(.ref b9), (.ref b2), (.ref b2)]))
    refine OGo.go (U' := T39.setTop (mkF m 73 #[.val (.int x0), .val (.int x1), .val (.int x2), .val (.int x3)] [(.ref b9), (.ref b9), (.ref b2), (.ref b2)])) (fun _ k => XS.dup P39.1.here hx rfl (hb hby d_exp_72) rfl rfl k) ?_
    refine OGo.go (U' := T39.setTop (mkF m 75 #[.val (.int x0), .val (.int x1), .val (.int x2), .val (.int x3)] [(.int (11 : Int32)), (.ref b9), (.ref b9), (.ref b2), (.ref b2)])) (fun _ k => XS.bipush P39.1.here hx rfl (hb hby d_exp_73) k) ?_
    refine OGo.go (U' := T39.setTop (mkF m 77 #[.val (.int x0), .val (.int x1), .val (.int x2), .val (.int x3)] [(.int (111 : Int32)), (.int (11 : Int32)), (.ref b9), (.ref b9), (.ref b2), (.ref b2)])) (fun _ k => XS.bipush P39.1.here hx rfl (hb hby d_exp_75) k) ?_
    refine own_cst ne10 g11 sz12 hx hZ P39 18 (by decide) (by decide) (q := 11) (by decide) (x := (111 : Int32)) (j := (11 : Int32)) (by decide) (g := (mkF m 77 #[.val (.int x0), .val (.int x1), .val (.int x2), .val (.int x3)] [(.int (111 : Int32)), (.int (11 : Int32)), (.ref b9), (.ref b9), (.ref b2), (.ref b2)])) rfl (rest := [(.ref b9), (.ref b2), (.ref b2)]) rfl (hb hby d_exp_77) (fun T41 h41 L41 P41 => ?_)
    show OGo p e below _ (T41.setTop (mkF m 78 #[.val (.int x0), .val (.int x1), .val (.int x2), .val (.int x3)] [(.ref b9), (.ref b2), (.ref b2)]))
    refine OGo.go (U' := T41.setTop (mkF m 79 #[.val (.int x0), .val (.int x1), .val (.int x2), .val (.int x3)] [(.ref b9), (.ref b9), (.ref b2), (.ref b2)])) (fun _ k => XS.dup P41.1.here hx rfl (hb hby d_exp_78) rfl rfl k) ?_
    refine OGo.go (U' := T41.setTop (mkF m 81 #[.val (.int x0), .val (.int x1), .val (.int x2), .val (.int x3)] [(.int (12 : Int32)), (.ref b9), (.ref b9), (.ref b2), (.ref b2)])) (fun _ k => XS.bipush P41.1.here hx rfl (hb hby d_exp_79) k) ?_
    refine OGo.go (U' := T41.setTop (mkF m 83 #[.val (.int x0), .val (.int x1), .val (.int x2), .val (.int x3)] [(.int (110 : Int32)), (.int (12 : Int32)), (.ref b9), (.ref b9), (.ref b2), (.ref b2)])) (fun _ k => XS.bipush P41.1.here hx rfl (hb hby d_exp_81) k) ?_
    refine own_cst ne10 g11 sz12 hx hZ P41 18 (by decide) (by decide) (q := 12) (by decide) (x := (110 : Int32)) (j := (12 : Int32)) (by decide) (g := (mkF m 83 #[.val (.int x0), .val (.int x1), .val (.int x2), .val (.int x3)] [(.int (110 : Int32)), (.int (12 : Int32)), (.ref b9), (.ref b9), (.ref b2), (.ref b2)])) rfl (rest := [(.ref b9), (.ref b2), (.ref b2)]) rfl (hb hby d_exp_83) (fun T43 h43 L43 P43 => ?_)
    show OGo p e below _ (T43.setTop (mkF m 84 #[.val (.int x0), .val (.int x1), .val (.int x2), .val (.int x3)] [(.ref b9), (.ref b2), (.ref b2)]))
    refine OGo.go (U' := T43.setTop (mkF m 85 #[.val (.int x0), .val (.int x1), .val (.int x2), .val (.int x3)] [(.ref b9), (.ref b9), (.ref b2), (.ref b2)])) (fun _ k => XS.dup P43.1.here hx rfl (hb hby d_exp_84) rfl rfl k) ?_
    refine OGo.go (U' := T43.setTop (mkF m 87 #[.val (.int x0), .val (.int x1), .val (.int x2), .val (.int x3)] [(.int (13 : Int32)), (.ref b9), (.ref b9), (.ref b2), (.ref b2)])) (fun _ k => XS.bipush P43.1.here hx rfl (hb hby d_exp_85) k) ?_
    refine OGo.go (U' := T43.setTop (mkF m 89 #[.val (.int x0), .val (.int x1), .val (.int x2), .val (.int x3)] [(.int (61 : Int32)), (.int (13 : Int32)), (.ref b9), (.ref b9), (.ref b2), (.ref b2)])) (fun _ k => XS.bipush P43.1.here hx rfl (hb hby d_exp_87) k) ?_
    refine own_cst ne10 g11 sz12 hx hZ P43 18 (by decide) (by decide) (q := 13) (by decide) (x := (61 : Int32)) (j := (13 : Int32)) (by decide) (g := (mkF m 89 #[.val (.int x0), .val (.int x1), .val (.int x2), .val (.int x3)] [(.int (61 : Int32)), (.int (13 : Int32)), (.ref b9), (.ref b9), (.ref b2), (.ref b2)])) rfl (rest := [(.ref b9), (.ref b2), (.ref b2)]) rfl (hb hby d_exp_89) (fun T45 h45 L45 P45 => ?_)
    show OGo p e below _ (T45.setTop (mkF m 90 #[.val (.int x0), .val (.int x1), .val (.int x2), .val (.int x3)] [(.ref b9), (.ref b2), (.ref b2)]))
    refine OGo.go (U' := T45.setTop (mkF m 91 #[.val (.int x0), .val (.int x1), .val (.int x2), .val (.int x3)] [(.ref b9), (.ref b9), (.ref b2), (.ref b2)])) (fun _ k => XS.dup P45.1.here hx rfl (hb hby d_exp_90) rfl rfl k) ?_
    refine OGo.go (U' := T45.setTop (mkF m 93 #[.val (.int x0), .val (.int x1), .val (.int x2), .val (.int x3)] [(.int (14 : Int32)), (.ref b9), (.ref b9), (.ref b2), (.ref b2)])) (fun _ k => XS.bipush P45.1.here hx rfl (hb hby d_exp_91) k) ?_
    refine OGo.go (U' := T45.setTop (mkF m 95 #[.val (.int x0), .val (.int x1), .val (.int x2), .val (.int x3)] [(.int (34 : Int32)), (.int (14 : Int32)), (.ref b9), (.ref b9), (.ref b2), (.ref b2)])) (fun _ k => XS.bipush P45.1.here hx rfl (hb hby d_exp_93) k) ?_
    refine own_cst ne10 g11 sz12 hx hZ P45 18 (by decide) (by decide) (q := 14) (by decide) (x := (34 : Int32)) (j := (14 : Int32)) (by decide) (g := (mkF m 95 #[.val (.int x0), .val (.int x1), .val (.int x2), .val (.int x3)] [(.int (34 : Int32)), (.int (14 : Int32)), (.ref b9), (.ref b9), (.ref b2), (.ref b2)])) rfl (rest := [(.ref b9), (.ref b2), (.ref b2)]) rfl (hb hby d_exp_95) (fun T47 h47 L47 P47 => ?_)
    show OGo p e below _ (T47.setTop (mkF m 96 #[.val (.int x0), .val (.int x1), .val (.int x2), .val (.int x3)] [(.ref b9), (.ref b2), (.ref b2)]))
    refine OGo.go (U' := T47.setTop (mkF m 97 #[.val (.int x0), .val (.int x1), .val (.int x2), .val (.int x3)] [(.ref b9), (.ref b9), (.ref b2), (.ref b2)])) (fun _ k => XS.dup P47.1.here hx rfl (hb hby d_exp_96) rfl rfl k) ?_
    refine OGo.go (U' := T47.setTop (mkF m 99 #[.val (.int x0), .val (.int x1), .val (.int x2), .val (.int x3)] [(.int (15 : Int32)), (.ref b9), (.ref b9), (.ref b2), (.ref b2)])) (fun _ k => XS.bipush P47.1.here hx rfl (hb hby d_exp_97) k) ?_
    refine OGo.go (U' := T47.setTop (mkF m 101 #[.val (.int x0), .val (.int x1), .val (.int x2), .val (.int x3)] [(.int (34 : Int32)), (.int (15 : Int32)), (.ref b9), (.ref b9), (.ref b2), (.ref b2)])) (fun _ k => XS.bipush P47.1.here hx rfl (hb hby d_exp_99) k) ?_
    refine own_cst ne10 g11 sz12 hx hZ P47 18 (by decide) (by decide) (q := 15) (by decide) (x := (34 : Int32)) (j := (15 : Int32)) (by decide) (g := (mkF m 101 #[.val (.int x0), .val (.int x1), .val (.int x2), .val (.int x3)] [(.int (34 : Int32)), (.int (15 : Int32)), (.ref b9), (.ref b9), (.ref b2), (.ref b2)])) rfl (rest := [(.ref b9), (.ref b2), (.ref b2)]) rfl (hb hby d_exp_101) (fun T49 h49 L49 P49 => ?_)
    show OGo p e below _ (T49.setTop (mkF m 102 #[.val (.int x0), .val (.int x1), .val (.int x2), .val (.int x3)] [(.ref b9), (.ref b2), (.ref b2)]))
    refine OGo.go (U' := T49.setTop (mkF m 103 #[.val (.int x0), .val (.int x1), .val (.int x2), .val (.int x3)] [(.ref b9), (.ref b9), (.ref b2), (.ref b2)])) (fun _ k => XS.dup P49.1.here hx rfl (hb hby d_exp_102) rfl rfl k) ?_
    refine OGo.go (U' := T49.setTop (mkF m 105 #[.val (.int x0), .val (.int x1), .val (.int x2), .val (.int x3)] [(.int (16 : Int32)), (.ref b9), (.ref b9), (.ref b2), (.ref b2)])) (fun _ k => XS.bipush P49.1.here hx rfl (hb hby d_exp_103) k) ?_
    refine OGo.go (U' := T49.setTop (mkF m 107 #[.val (.int x0), .val (.int x1), .val (.int x2), .val (.int x3)] [(.int (63 : Int32)), (.int (16 : Int32)), (.ref b9), (.ref b9), (.ref b2), (.ref b2)])) (fun _ k => XS.bipush P49.1.here hx rfl (hb hby d_exp_105) k) ?_
    refine own_cst ne10 g11 sz12 hx hZ P49 18 (by decide) (by decide) (q := 16) (by decide) (x := (63 : Int32)) (j := (16 : Int32)) (by decide) (g := (mkF m 107 #[.val (.int x0), .val (.int x1), .val (.int x2), .val (.int x3)] [(.int (63 : Int32)), (.int (16 : Int32)), (.ref b9), (.ref b9), (.ref b2), (.ref b2)])) rfl (rest := [(.ref b9), (.ref b2), (.ref b2)]) rfl (hb hby d_exp_107) (fun T51 h51 L51 P51 => ?_)
    show OGo p e below _ (T51.setTop (mkF m 108 #[.val (.int x0), .val (.int x1), .val (.int x2), .val (.int x3)] [(.ref b9), (.ref b2), (.ref b2)]))
    refine OGo.go (U' := T51.setTop (mkF m 109 #[.val (.int x0), .val (.int x1), .val (.int x2), .val (.int x3)] [(.ref b9), (.ref b9), (.ref b2), (.ref b2)])) (fun _ k => XS.dup P51.1.here hx rfl (hb hby d_exp_108) rfl rfl k) ?_
    refine OGo.go (U' := T51.setTop (mkF m 111 #[.val (.int x0), .val (.int x1), .val (.int x2), .val (.int x3)] [(.int (17 : Int32)), (.ref b9), (.ref b9), (.ref b2), (.ref b2)])) (fun _ k => XS.bipush P51.1.here hx rfl (hb hby d_exp_109) k) ?_
    refine OGo.go (U' := T51.setTop (mkF m 113 #[.val (.int x0), .val (.int x1), .val (.int x2), .val (.int x3)] [(.int (62 : Int32)), (.int (17 : Int32)), (.ref b9), (.ref b9), (.ref b2), (.ref b2)])) (fun _ k => XS.bipush P51.1.here hx rfl (hb hby d_exp_111) k) ?_
    refine own_cst ne10 g11 sz12 hx hZ P51 18 (by decide) (by decide) (q := 17) (by decide) (x := (62 : Int32)) (j := (17 : Int32)) (by decide) (g := (mkF m 113 #[.val (.int x0), .val (.int x1), .val (.int x2), .val (.int x3)] [(.int (62 : Int32)), (.int (17 : Int32)), (.ref b9), (.ref b9), (.ref b2), (.ref b2)])) rfl (rest := [(.ref b9), (.ref b2), (.ref b2)]) rfl (hb hby d_exp_113) (fun T53 h53 L53 P53 => ?_)
    show OGo p e below _ (T53.setTop (mkF m 114 #[.val (.int x0), .val (.int x1), .val (.int x2), .val (.int x3)] [(.ref b9), (.ref b2), (.ref b2)]))
    obtain ⟨X53, e53, N53, K53, z53, Es53, fv53, fc53, S53, A53, -⟩ := P53
    simp only [List.nil_append, List.cons_append] at A53
    refine OGo.callI X53 hx hZ (y := (⟨"java/lang/String", "<init>", "([C)V"⟩ : MethodName)) rfl hown (hw _ (List.mem_of_getElem? (i := 8) rfl)) (hw _ (List.mem_of_getElem? (i := 9) rfl)) (hw _ (List.mem_of_getElem? (i := 6) rfl)) (hw _ (List.mem_of_getElem? (i := 10) rfl)) (by decide) (g := (mkF m 114 #[.val (.int x0), .val (.int x1), .val (.int x2), .val (.int x3)] [(.ref b9), (.ref b2), (.ref b2)])) (a := b2) (argsL := [(.ref b9)]) (rest := [(.ref b2)]) e53 (rm_si1 l Z a0 hw b2 b9 [(nar .char (60 : Int32)), (nar .char (63 : Int32)), (nar .char (120 : Int32)), (nar .char (109 : Int32)), (nar .char (108 : Int32)), (nar .char (32 : Int32)), (nar .char (118 : Int32)), (nar .char (101 : Int32)), (nar .char (114 : Int32)), (nar .char (115 : Int32)), (nar .char (105 : Int32)), (nar .char (111 : Int32)), (nar .char (110 : Int32)), (nar .char (61 : Int32)), (nar .char (34 : Int32)), (nar .char (34 : Int32)), (nar .char (63 : Int32)), (nar .char (62 : Int32))] .null (.int (0 : Int32)) k9 cs n0 h53 z53 Es53 fv53 fc53 g3 ne10 A53 (own_uS (show ¬ (255 : Int32) < (nar .char (60 : Int32)) from (by decide)) (own_uS (show ¬ (255 : Int32) < (nar .char (63 : Int32)) from (by decide)) (own_uS (show ¬ (255 : Int32) < (nar .char (120 : Int32)) from (by decide)) (own_uS (show ¬ (255 : Int32) < (nar .char (109 : Int32)) from (by decide)) (own_uS (show ¬ (255 : Int32) < (nar .char (108 : Int32)) from (by decide)) (own_uS (show ¬ (255 : Int32) < (nar .char (32 : Int32)) from (by decide)) (own_uS (show ¬ (255 : Int32) < (nar .char (118 : Int32)) from (by decide)) (own_uS (show ¬ (255 : Int32) < (nar .char (101 : Int32)) from (by decide)) (own_uS (show ¬ (255 : Int32) < (nar .char (114 : Int32)) from (by decide)) (own_uS (show ¬ (255 : Int32) < (nar .char (115 : Int32)) from (by decide)) (own_uS (show ¬ (255 : Int32) < (nar .char (105 : Int32)) from (by decide)) (own_uS (show ¬ (255 : Int32) < (nar .char (111 : Int32)) from (by decide)) (own_uS (show ¬ (255 : Int32) < (nar .char (110 : Int32)) from (by decide)) (own_uS (show ¬ (255 : Int32) < (nar .char (61 : Int32)) from (by decide)) (own_uS (show ¬ (255 : Int32) < (nar .char (34 : Int32)) from (by decide)) (own_uS (show ¬ (255 : Int32) < (nar .char (34 : Int32)) from (by decide)) (own_uS (show ¬ (255 : Int32) < (nar .char (63 : Int32)) from (by decide)) (own_uS (show ¬ (255 : Int32) < (nar .char (62 : Int32)) from (by decide)) own_u0)))))))))))))))))) (show 1 ≤ 18 from by decide) (show 18 ≤ 24 from by decide) S53 hcs) rfl (by rw [hml]; rfl) (lenOf pd_23 rfl) rfl (W := 1) (by show 2 * 0 + _ ≤ _; exact Nat.le_of_eq rfl) (hb hby d_exp_114) (by decide) (by decide) (by decide) (by decide) ?_
    rintro _ T54 L54 X54 ⟨rfl, N54, K54, Es54, sc54, b54, k54, sv54, A54, gb54⟩
    have e54 : T54.heap = T54.heap := rfl
    have N55 := Fr.app N53 N54
    have f56 := own_sta_keep S53 K54 (allS (P := fun x => ∀ cell : Cell, _ → cell.vm.isStatics = false) (own_plain Es53) all0)
    have f57 := Es53.keep K54
    have f58 := A53.keep K54 (ninS (Ne.symm ne10) nin0)
    have K59 := K53.trans K54 (allS (P := fun x => x ∈ _ ∨ _ ≤ x) (Or.inr sz4) all0)
    have sz54 := Nat.le_trans K53.1 gb54
    show OGo p e below _ (T54.setTop (mkF m 117 #[.val (.int x0), .val (.int x1), .val (.int x2), .val (.int x3)] [(.ref b2)]))
    refine OGo.retA X54 hx hret hlk rfl rfl (hb hby d_exp_117) ?_ (by decide) (by decide)
    rw [e54]
    refine ⟨b2, b54, k54, rfl, N55, K59, Es54, sc54, sv54, ?_, sz4, sz54⟩
    rw [own_elist_18 hc1]
    exact A54
  · skip
    refine OGo.go (U' := T0.setTop (mkF m 118 #[.val (.int x0), .val (.int x1), .val (.int x2), .val (.int x3)] [])) (fun _ k => XS.ifYes X0.here hx rfl (pc0 := 1) (pc' := 118) rfl (hb hby d_exp_1) rfl ((if0 _ _).trans (feq hc1).2) (by decide) (by decide) k) ?_
    refine OGo.go (U' := T0.setTop (mkF m 119 #[.val (.int x0), .val (.int x1), .val (.int x2), .val (.int x3)] [(.int x0)])) (fun _ k => XS.iloadN X0.here hx rfl (hb hby d_exp_118) rfl k) ?_
    refine OGo.go (U' := T0.setTop (mkF m 120 #[.val (.int x0), .val (.int x1), .val (.int x2), .val (.int x3)] [(.int (1 : Int32)), (.int x0)])) (fun _ k => XS.iconst X0.here hx rfl (hb hby d_exp_119) k) ?_
    by_cases hc60 : x0 = (1 : Int32)
    · skip
      refine OGo.go (U' := T0.setTop (mkF m 123 #[.val (.int x0), .val (.int x1), .val (.int x2), .val (.int x3)] [])) (fun _ k => XS.icmpNo X0.here hx rfl (hb hby d_exp_120) rfl (teq hc60).2 k) ?_
      obtain ⟨T61, h61, X61, e61, E61, A61, D61, -, st61⟩ := newO X0 hx hZ hown (hw _ (List.mem_of_getElem? (i := 4) rfl)) (hw _ (List.mem_of_getElem? (i := 5) rfl)) (hw _ (List.mem_of_getElem? (i := 6) rfl)) e0 (g := (mkF m 123 #[.val (.int x0), .val (.int x1), .val (.int x2), .val (.int x3)] [])) rfl (hb hby d_exp_123) (by decide) (by decide)
      obtain ⟨b61, gb61⟩ : ∃ z, z = h0.size := ⟨_, rfl⟩
      rw [← gb61] at A61 D61 st61
      have g62 : n0 ≤ b61 := Nat.le_trans Z0 (Nat.le_of_eq gb61.symm)
      have sz63 := Nat.le_trans (Keep.refl h0 []).1 (Nat.le_of_eq gb61.symm)
      have f64 := S0.ext E61
      have K65 := (Keep.refl h0 []).ext E61
      have f66 : Fld Z h61 b61 "java/lang/String" "value" "[B" .null := D61 (Or.inr (hw _ (List.mem_of_getElem? (i := 20) rfl))) (ty := (.array .byte)) (by decide)
      have f67 : Fld Z h61 b61 "java/lang/String" "coder" "B" (.int (0 : Int32)) := D61 (Or.inr (hw _ (List.mem_of_getElem? (i := 21) rfl))) (ty := .byte) (by decide)
      refine OGo.go (U' := T61.setTop (mkF m 126 #[.val (.int x0), .val (.int x1), .val (.int x2), .val (.int x3)] [(.ref b61)])) st61 ?_
      refine OGo.go (U' := T61.setTop (mkF m 127 #[.val (.int x0), .val (.int x1), .val (.int x2), .val (.int x3)] [(.ref b61), (.ref b61)])) (fun _ k => XS.dup X61.here hx rfl (hb hby d_exp_126) rfl rfl k) ?_
      refine OGo.go (U' := T61.setTop (mkF m 129 #[.val (.int x0), .val (.int x1), .val (.int x2), .val (.int x3)] [(.int (19 : Int32)), (.ref b61), (.ref b61)])) (fun _ k => XS.bipush X61.here hx rfl (hb hby d_exp_127) k) ?_
      obtain ⟨T68, h68, k68, X68, e68, E68, A68, st68⟩ := newP X61 hx hZ (hw _ (List.mem_of_getElem? (i := 7) rfl)) e61 (g := (mkF m 129 #[.val (.int x0), .val (.int x1), .val (.int x2), .val (.int x3)] [(.int (19 : Int32)), (.ref b61), (.ref b61)])) rfl (hb hby d_exp_129) rfl (n := 19) (by decide) (cap := 19) (by decide) (by decide) (by decide) (by decide)
      obtain ⟨b68, gb68⟩ : ∃ z, z = h61.size := ⟨_, rfl⟩
      rw [← gb68] at A68 st68
      have ne69 : b61 ≠ b68 := Nat.ne_of_lt (Nat.lt_of_lt_of_le A61.lt (Nat.le_of_eq gb68.symm))
      have g70 : n0 ≤ b68 := Nat.le_trans (Nat.le_trans Z0 E61.1) (Nat.le_of_eq gb68.symm)
      have sz71 := Nat.le_trans K65.1 (Nat.le_of_eq gb68.symm)
      have f72 := f64.ext E68
      have f73 := A61.ext E68
      have f74 := f66.ext E68
      have f75 := f67.ext E68
      have K76 := K65.ext E68
      have V68 : Arv Z h68 b68 k68 .char 19 [] (.int 0) := Arv.new A68 (by decide)
      refine OGo.go (U' := T68.setTop (mkF m 131 #[.val (.int x0), .val (.int x1), .val (.int x2), .val (.int x3)] [(.ref b68), (.ref b61), (.ref b61)])) st68 ?_
      refine OGo.go (U' := T68.setTop (mkF m 132 #[.val (.int x0), .val (.int x1), .val (.int x2), .val (.int x3)] [(.ref b68), (.ref b68), (.ref b61), (.ref b61)])) (fun _ k => XS.dup X68.here hx rfl (hb hby d_exp_131) rfl rfl k) ?_
      refine OGo.go (U' := T68.setTop (mkF m 133 #[.val (.int x0), .val (.int x1), .val (.int x2), .val (.int x3)] [(.int (0 : Int32)), (.ref b68), (.ref b68), (.ref b61), (.ref b61)])) (fun _ k => XS.iconst X68.here hx rfl (hb hby d_exp_132) k) ?_
      refine OGo.go (U' := T68.setTop (mkF m 135 #[.val (.int x0), .val (.int x1), .val (.int x2), .val (.int x3)] [(.int (60 : Int32)), (.int (0 : Int32)), (.ref b68), (.ref b68), (.ref b61), (.ref b61)])) (fun _ k => XS.bipush X68.here hx rfl (hb hby d_exp_133) k) ?_
      have P77 : CPk p l e _ s m _ below meth c _ _ Z n0 h0 b61 b68 k68 19 cs _ _ T68 h68 _ 0 [] := ⟨X68, e68, (Fr.nil n0), K76, (Nat.le_trans (Nat.le_trans Z0 E61.1) E68.1), f73, f74, f75, f72, V68, rfl⟩
      refine own_cst ne69 g70 sz71 hx hZ P77 19 (by decide) (by decide) (q := 0) (by decide) (x := (60 : Int32)) (j := (0 : Int32)) (by decide) (g := (mkF m 135 #[.val (.int x0), .val (.int x1), .val (.int x2), .val (.int x3)] [(.int (60 : Int32)), (.int (0 : Int32)), (.ref b68), (.ref b68), (.ref b61), (.ref b61)])) rfl (rest := [(.ref b68), (.ref b61), (.ref b61)]) rfl (hb hby d_exp_135) (fun T78 h78 L78 P78 => ?_)
      show OGo p e below _ (T78.setTop (mkF m 136 #[.val (.int x0), .val (.int x1), .val (.int x2), .val (.int x3)] [(.ref b68), (.ref b61), (.ref b61)]))
      refine OGo.go (U' := T78.setTop (mkF m 137 #[.val (.int x0), .val (.int x1), .val (.int x2), .val (.int x3)] [(.ref b68), (.ref b68), (.ref b61), (.ref b61)])) (fun _ k => XS.dup P78.1.here hx rfl (hb hby d_exp_136) rfl rfl k) ?_
      refine OGo.go (U' := T78.setTop (mkF m 138 #[.val (.int x0), .val (.int x1), .val (.int x2), .val (.int x3)] [(.int (1 : Int32)), (.ref b68), (.ref b68), (.ref b61), (.ref b61)])) (fun _ k => XS.iconst P78.1.here hx rfl (hb hby d_exp_137) k) ?_
      refine OGo.go (U' := T78.setTop (mkF m 140 #[.val (.int x0), .val (.int x1), .val (.int x2), .val (.int x3)] [(.int (63 : Int32)), (.int (1 : Int32)), (.ref b68), (.ref b68), (.ref b61), (.ref b61)])) (fun _ k => XS.bipush P78.1.here hx rfl (hb hby d_exp_138) k) ?_
      refine own_cst ne69 g70 sz71 hx hZ P78 19 (by decide) (by decide) (q := 1) (by decide) (x := (63 : Int32)) (j := (1 : Int32)) (by decide) (g := (mkF m 140 #[.val (.int x0), .val (.int x1), .val (.int x2), .val (.int x3)] [(.int (63 : Int32)), (.int (1 : Int32)), (.ref b68), (.ref b68), (.ref b61), (.ref b61)])) rfl (rest := [(.ref b68), (.ref b61), (.ref b61)]) rfl (hb hby d_exp_140) (fun T80 h80 L80 P80 => ?_)
      show OGo p e below _ (T80.setTop (mkF m 141 #[.val (.int x0), .val (.int x1), .val (.int x2), .val (.int x3)] [(.ref b68), (.ref b61), (.ref b61)]))
      refine OGo.go (U' := T80.setTop (mkF m 142 #[.val (.int x0), .val (.int x1), .val (.int x2), .val (.int x3)] [(.ref b68), (.ref b68), (.ref b61), (.ref b61)])) (fun _ k => XS.dup P80.1.here hx rfl (hb hby d_exp_141) rfl rfl k) ?_
      refine OGo.go (U' := T80.setTop (mkF m 143 #[.val (.int x0), .val (.int x1), .val (.int x2), .val (.int x3)] [(.int (2 : Int32)), (.ref b68), (.ref b68), (.ref b61), (.ref b61)])) (fun _ k => XS.iconst P80.1.here hx rfl (hb hby d_exp_142) k) ?_
      refine OGo.go (U' := T80.setTop (mkF m 145 #[.val (.int x0), .val (.int x1), .val (.int x2), .val (.int x3)] [(.int (120 : Int32)), (.int (2 : Int32)), (.ref b68), (.ref b68), (.ref b61), (.ref b61)])) (fun _ k => XS.bipush P80.1.here hx rfl (hb hby d_exp_143) k) ?_
      refine own_cst ne69 g70 sz71 hx hZ P80 19 (by decide) (by decide) (q := 2) (by decide) (x := (120 : Int32)) (j := (2 : Int32)) (by decide) (g := (mkF m 145 #[.val (.int x0), .val (.int x1), .val (.int x2), .val (.int x3)] [(.int (120 : Int32)), (.int (2 : Int32)), (.ref b68), (.ref b68), (.ref b61), (.ref b61)])) rfl (rest := [(.ref b68), (.ref b61), (.ref b61)]) rfl (hb hby d_exp_145) (fun T82 h82 L82 P82 => ?_)
      show OGo p e below _ (T82.setTop (mkF m 146 #[.val (.int x0), .val (.int x1), .val (.int x2), .val (.int x3)] [(.ref b68), (.ref b61), (.ref b61)]))
      refine OGo.go (U' := T82.setTop (mkF m 147 #[.val (.int x0), .val (.int x1), .val (.int x2), .val (.int x3)] [(.ref b68), (.ref b68), (.ref b61), (.ref b61)])) (fun _ k => XS.dup P82.1.here hx rfl (hb hby d_exp_146) rfl rfl k) ?_
      refine OGo.go (U' := T82.setTop (mkF m 148 #[.val (.int x0), .val (.int x1), .val (.int x2), .val (.int x3)] [(.int (3 : Int32)), (.ref b68), (.ref b68), (.ref b61), (.ref b61)])) (fun _ k => XS.iconst P82.1.here hx rfl (hb hby d_exp_147) k) ?_
      refine OGo.go (U' := T82.setTop (mkF m 150 #[.val (.int x0), .val (.int x1), .val (.int x2), .val (.int x3)] [(.int (109 : Int32)), (.int (3 : Int32)), (.ref b68), (.ref b68), (.ref b61), (.ref b61)])) (fun _ k => XS.bipush P82.1.here hx rfl (hb hby d_exp_148) k) ?_
      refine own_cst ne69 g70 sz71 hx hZ P82 19 (by decide) (by decide) (q := 3) (by decide) (x := (109 : Int32)) (j := (3 : Int32)) (by decide) (g := (mkF m 150 #[.val (.int x0), .val (.int x1), .val (.int x2), .val (.int x3)] [(.int (109 : Int32)), (.int (3 : Int32)), (.ref b68), (.ref b68), (.ref b61), (.ref b61)])) rfl (rest := [(.ref b68), (.ref b61), (.ref b61)]) rfl (hb hby d_exp_150) (fun T84 h84 L84 P84 => ?_)
      show OGo p e below _ (T84.setTop (mkF m 151 #[.val (.int x0), .val (.int x1), .val (.int x2), .val (.int x3)] [(.ref b68), (.ref b61), (.ref b61)]))
      refine OGo.go (U' := T84.setTop (mkF m 152 #[.val (.int x0), .val (.int x1), .val (.int x2), .val (.int x3)] [(.ref b68), (.ref b68), (.ref b61), (.ref b61)])) (fun _ k => XS.dup P84.1.here hx rfl (hb hby d_exp_151) rfl rfl k) ?_
      refine OGo.go (U' := T84.setTop (mkF m 153 #[.val (.int x0), .val (.int x1), .val (.int x2), .val (.int x3)] [(.int (4 : Int32)), (.ref b68), (.ref b68), (.ref b61), (.ref b61)])) (fun _ k => XS.iconst P84.1.here hx rfl (hb hby d_exp_152) k) ?_
      refine OGo.go (U' := T84.setTop (mkF m 155 #[.val (.int x0), .val (.int x1), .val (.int x2), .val (.int x3)] [(.int (108 : Int32)), (.int (4 : Int32)), (.ref b68), (.ref b68), (.ref b61), (.ref b61)])) (fun _ k => XS.bipush P84.1.here hx rfl (hb hby d_exp_153) k) ?_
      refine own_cst ne69 g70 sz71 hx hZ P84 19 (by decide) (by decide) (q := 4) (by decide) (x := (108 : Int32)) (j := (4 : Int32)) (by decide) (g := (mkF m 155 #[.val (.int x0), .val (.int x1), .val (.int x2), .val (.int x3)] [(.int (108 : Int32)), (.int (4 : Int32)), (.ref b68), (.ref b68), (.ref b61), (.ref b61)])) rfl (rest := [(.ref b68), (.ref b61), (.ref b61)]) rfl (hb hby d_exp_155) (fun T86 h86 L86 P86 => ?_)
      show OGo p e below _ (T86.setTop (mkF m 156 #[.val (.int x0), .val (.int x1), .val (.int x2), .val (.int x3)] [(.ref b68), (.ref b61), (.ref b61)]))
      refine OGo.go (U' := T86.setTop (mkF m 157 #[.val (.int x0), .val (.int x1), .val (.int x2), .val (.int x3)] [(.ref b68), (.ref b68), (.ref b61), (.ref b61)])) (fun _ k => XS.dup P86.1.here hx rfl (hb hby d_exp_156) rfl rfl k) ?_
      refine OGo.go (U' := T86.setTop (mkF m 158 #[.val (.int x0), .val (.int x1), .val (.int x2), .val (.int x3)] [(.int (5 : Int32)), (.ref b68), (.ref b68), (.ref b61), (.ref b61)])) (fun _ k => XS.iconst P86.1.here hx rfl (hb hby d_exp_157) k) ?_
      refine OGo.go (U' := T86.setTop (mkF m 160 #[.val (.int x0), .val (.int x1), .val (.int x2), .val (.int x3)] [(.int (32 : Int32)), (.int (5 : Int32)), (.ref b68), (.ref b68), (.ref b61), (.ref b61)])) (fun _ k => XS.bipush P86.1.here hx rfl (hb hby d_exp_158) k) ?_
      refine own_cst ne69 g70 sz71 hx hZ P86 19 (by decide) (by decide) (q := 5) (by decide) (x := (32 : Int32)) (j := (5 : Int32)) (by decide) (g := (mkF m 160 #[.val (.int x0), .val (.int x1), .val (.int x2), .val (.int x3)] [(.int (32 : Int32)), (.int (5 : Int32)), (.ref b68), (.ref b68), (.ref b61), (.ref b61)])) rfl (rest := [(.ref b68), (.ref b61), (.ref b61)]) rfl (hb hby d_exp_160) (fun T88 h88 L88 P88 => ?_)
      show OGo p e below _ (T88.setTop (mkF m 161 #[.val (.int x0), .val (.int x1), .val (.int x2), .val (.int x3)] [(.ref b68), (.ref b61), (.ref b61)]))
      refine OGo.go (U' := T88.setTop (mkF m 162 #[.val (.int x0), .val (.int x1), .val (.int x2), .val (.int x3)] [(.ref b68), (.ref b68), (.ref b61), (.ref b61)])) (fun _ k => XS.dup P88.1.here hx rfl (hb hby d_exp_161) rfl rfl k) ?_
      refine OGo.go (U' := T88.setTop (mkF m 164 #[.val (.int x0), .val (.int x1), .val (.int x2), .val (.int x3)] [(.int (6 : Int32)), (.ref b68), (.ref b68), (.ref b61), (.ref b61)])) (fun _ k => XS.bipush P88.1.here hx rfl (hb hby d_exp_162) k) ?_
      refine OGo.go (U' := T88.setTop (mkF m 166 #[.val (.int x0), .val (.int x1), .val (.int x2), .val (.int x3)] [(.int (118 : Int32)), (.int (6 : Int32)), (.ref b68), (.ref b68), (.ref b61), (.ref b61)])) (fun _ k => XS.bipush P88.1.here hx rfl (hb hby d_exp_164) k) ?_
      refine own_cst ne69 g70 sz71 hx hZ P88 19 (by decide) (by decide) (q := 6) (by decide) (x := (118 : Int32)) (j := (6 : Int32)) (by decide) (g := (mkF m 166 #[.val (.int x0), .val (.int x1), .val (.int x2), .val (.int x3)] [(.int (118 : Int32)), (.int (6 : Int32)), (.ref b68), (.ref b68), (.ref b61), (.ref b61)])) rfl (rest := [(.ref b68), (.ref b61), (.ref b61)]) rfl (hb hby d_exp_166) (fun T90 h90 L90 P90 => ?_)
      show OGo p e below _ (T90.setTop (mkF m 167 #[.val (.int x0), .val (.int x1), .val (.int x2), .val (.int x3)] [(.ref b68), (.ref b61), (.ref b61)]))
      refine OGo.go (U' := T90.setTop (mkF m 168 #[.val (.int x0), .val (.int x1), .val (.int x2), .val (.int x3)] [(.ref b68), (.ref b68), (.ref b61), (.ref b61)])) (fun _ k => XS.dup P90.1.here hx rfl (hb hby d_exp_167) rfl rfl k) ?_
      refine OGo.go (U' := T90.setTop (mkF m 170 #[.val (.int x0), .val (.int x1), .val (.int x2), .val (.int x3)] [(.int (7 : Int32)), (.ref b68), (.ref b68), (.ref b61), (.ref b61)])) (fun _ k => XS.bipush P90.1.here hx rfl (hb hby d_exp_168) k) ?_
      refine OGo.go (U' := T90.setTop (mkF m 172 #[.val (.int x0), .val (.int x1), .val (.int x2), .val (.int x3)] [(.int (101 : Int32)), (.int (7 : Int32)), (.ref b68), (.ref b68), (.ref b61), (.ref b61)])) (fun _ k => XS.bipush P90.1.here hx rfl (hb hby d_exp_170) k) ?_
      refine own_cst ne69 g70 sz71 hx hZ P90 19 (by decide) (by decide) (q := 7) (by decide) (x := (101 : Int32)) (j := (7 : Int32)) (by decide) (g := (mkF m 172 #[.val (.int x0), .val (.int x1), .val (.int x2), .val (.int x3)] [(.int (101 : Int32)), (.int (7 : Int32)), (.ref b68), (.ref b68), (.ref b61), (.ref b61)])) rfl (rest := [(.ref b68), (.ref b61), (.ref b61)]) rfl (hb hby d_exp_172) (fun T92 h92 L92 P92 => ?_)
      show OGo p e below _ (T92.setTop (mkF m 173 #[.val (.int x0), .val (.int x1), .val (.int x2), .val (.int x3)] [(.ref b68), (.ref b61), (.ref b61)]))
      refine OGo.go (U' := T92.setTop (mkF m 174 #[.val (.int x0), .val (.int x1), .val (.int x2), .val (.int x3)] [(.ref b68), (.ref b68), (.ref b61), (.ref b61)])) (fun _ k => XS.dup P92.1.here hx rfl (hb hby d_exp_173) rfl rfl k) ?_
      refine OGo.go (U' := T92.setTop (mkF m 176 #[.val (.int x0), .val (.int x1), .val (.int x2), .val (.int x3)] [(.int (8 : Int32)), (.ref b68), (.ref b68), (.ref b61), (.ref b61)])) (fun _ k => XS.bipush P92.1.here hx rfl (hb hby d_exp_174) k) ?_
      refine OGo.go (U' := T92.setTop (mkF m 178 #[.val (.int x0), .val (.int x1), .val (.int x2), .val (.int x3)] [(.int (114 : Int32)), (.int (8 : Int32)), (.ref b68), (.ref b68), (.ref b61), (.ref b61)])) (fun _ k => XS.bipush P92.1.here hx rfl (hb hby d_exp_176) k) ?_
      refine own_cst ne69 g70 sz71 hx hZ P92 19 (by decide) (by decide) (q := 8) (by decide) (x := (114 : Int32)) (j := (8 : Int32)) (by decide) (g := (mkF m 178 #[.val (.int x0), .val (.int x1), .val (.int x2), .val (.int x3)] [(.int (114 : Int32)), (.int (8 : Int32)), (.ref b68), (.ref b68), (.ref b61), (.ref b61)])) rfl (rest := [(.ref b68), (.ref b61), (.ref b61)]) rfl (hb hby d_exp_178) (fun T94 h94 L94 P94 => ?_)
      show OGo p e below _ (T94.setTop (mkF m 179 #[.val (.int x0), .val (.int x1), .val (.int x2), .val (.int x3)] [(.ref b68), (.ref b61), (.ref b61)]))
      refine OGo.go (U' := T94.setTop (mkF m 180 #[.val (.int x0), .val (.int x1), .val (.int x2), .val (.int x3)] [(.ref b68), (.ref b68), (.ref b61), (.ref b61)])) (fun _ k => XS.dup P94.1.here hx rfl (hb hby d_exp_179) rfl rfl k) ?_
      refine OGo.go (U' := T94.setTop (mkF m 182 #[.val (.int x0), .val (.int x1), .val (.int x2), .val (.int x3)] [(.int (9 : Int32)), (.ref b68), (.ref b68), (.ref b61), (.ref b61)])) (fun _ k => XS.bipush P94.1.here hx rfl (hb hby d_exp_180) k) ?_
      refine OGo.go (U' := T94.setTop (mkF m 184 #[.val (.int x0), .val (.int x1), .val (.int x2), .val (.int x3)] [(.int (115 : Int32)), (.int (9 : Int32)), (.ref b68), (.ref b68), (.ref b61), (.ref b61)])) (fun _ k => XS.bipush P94.1.here hx rfl (hb hby d_exp_182) k) ?_
      refine own_cst ne69 g70 sz71 hx hZ P94 19 (by decide) (by decide) (q := 9) (by decide) (x := (115 : Int32)) (j := (9 : Int32)) (by decide) (g := (mkF m 184 #[.val (.int x0), .val (.int x1), .val (.int x2), .val (.int x3)] [(.int (115 : Int32)), (.int (9 : Int32)), (.ref b68), (.ref b68), (.ref b61), (.ref b61)])) rfl (rest := [(.ref b68), (.ref b61), (.ref b61)]) rfl (hb hby d_exp_184) (fun T96 h96 L96 P96 => ?_)
      show OGo p e below _ (T96.setTop (mkF m 185 #[.val (.int x0), .val (.int x1), .val (.int x2), .val (.int x3)] [(.ref b68), (.ref b61), (.ref b61)]))
      refine OGo.go (U' := T96.setTop (mkF m 186 #[.val (.int x0), .val (.int x1), .val (.int x2), .val (.int x3)] [(.ref b68), (.ref b68), (.ref b61), (.ref b61)])) (fun _ k => XS.dup P96.1.here hx rfl (hb hby d_exp_185) rfl rfl k) ?_
      refine OGo.go (U' := T96.setTop (mkF m 188 #[.val (.int x0), .val (.int x1), .val (.int x2), .val (.int x3)] [(.int (10 : Int32)), (.ref b68), (.ref b68), (.ref b61), (.ref b61)])) (fun _ k => XS.bipush P96.1.here hx rfl (hb hby d_exp_186) k) ?_
      refine OGo.go (U' := T96.setTop (mkF m 190 #[.val (.int x0), .val (.int x1), .val (.int x2), .val (.int x3)] [(.int (105 : Int32)), (.int (10 : Int32)), (.ref b68), (.ref b68), (.ref b61), (.ref b61)])) (fun _ k => XS.bipush P96.1.here hx rfl (hb hby d_exp_188) k) ?_
      refine own_cst ne69 g70 sz71 hx hZ P96 19 (by decide) (by decide) (q := 10) (by decide) (x := (105 : Int32)) (j := (10 : Int32)) (by decide) (g := (mkF m 190 #[.val (.int x0), .val (.int x1), .val (.int x2), .val (.int x3)] [(.int (105 : Int32)), (.int (10 : Int32)), (.ref b68), (.ref b68), (.ref b61), (.ref b61)])) rfl (rest := [(.ref b68), (.ref b61), (.ref b61)]) rfl (hb hby d_exp_190) (fun T98 h98 L98 P98 => ?_)
      show OGo p e below _ (T98.setTop (mkF m 191 #[.val (.int x0), .val (.int x1), .val (.int x2), .val (.int x3)] [(.ref b68), (.ref b61), (.ref b61)]))
      refine OGo.go (U' := T98.setTop (mkF m 192 #[.val (.int x0), .val (.int x1), .val (.int x2), .val (.int x3)] [(.ref b68), (.ref b68), (.ref b61), (.ref b61)])) (fun _ k => XS.dup P98.1.here hx rfl (hb hby d_exp_191) rfl rfl k) ?_
      refine OGo.go (U' := T98.setTop (mkF m 194 #[.val (.int x0), .val (.int x1), .val (.int x2), .val (.int x3)] [(.int (11 : Int32)), (.ref b68), (.ref b68), (.ref b61), (.ref b61)])) (fun _ k => XS.bipush P98.1.here hx rfl (hb hby d_exp_192) k) ?_
      refine OGo.go (U' := T98.setTop (mkF m 196 #[.val (.int x0), .val (.int x1), .val (.int x2), .val (.int x3)] [(.int (111 : Int32)), (.int (11 : Int32)), (.ref b68), (.ref b68), (.ref b61), (.ref b61)])) (fun _ k => XS.bipush P98.1.here hx rfl (hb hby d_exp_194) k) ?_
      refine own_cst ne69 g70 sz71 hx hZ P98 19 (by decide) (by decide) (q := 11) (by decide) (x := (111 : Int32)) (j := (11 : Int32)) (by decide) (g := (mkF m 196 #[.val (.int x0), .val (.int x1), .val (.int x2), .val (.int x3)] [(.int (111 : Int32)), (.int (11 : Int32)), (.ref b68), (.ref b68), (.ref b61), (.ref b61)])) rfl (rest := [(.ref b68), (.ref b61), (.ref b61)]) rfl (hb hby d_exp_196) (fun T100 h100 L100 P100 => ?_)
      show OGo p e below _ (T100.setTop (mkF m 197 #[.val (.int x0), .val (.int x1), .val (.int x2), .val (.int x3)] [(.ref b68), (.ref b61), (.ref b61)]))
      refine OGo.go (U' := T100.setTop (mkF m 198 #[.val (.int x0), .val (.int x1), .val (.int x2), .val (.int x3)] [(.ref b68), (.ref b68), (.ref b61), (.ref b61)])) (fun _ k => XS.dup P100.1.here hx rfl (hb hby d_exp_197) rfl rfl k) ?_
      refine OGo.go (U' := T100.setTop (mkF m 200 #[.val (.int x0), .val (.int x1), .val (.int x2), .val (.int x3)] [(.int (12 : Int32)), (.ref b68), (.ref b68), (.ref b61), (.ref b61)])) (fun _ k => XS.bipush P100.1.here hx rfl (hb hby d_exp_198) k) ?_
      refine OGo.go (U' := T100.setTop (mkF m 202 #[.val (.int x0), .val (.int x1), .val (.int x2), .val (.int x3)] [(.int (110 : Int32)), (.int (12 : Int32)), (.ref b68), (.ref b68), (.ref b61), (.ref b61)])) (fun _ k => XS.bipush P100.1.here hx rfl (hb hby d_exp_200) k) ?_
      refine own_cst ne69 g70 sz71 hx hZ P100 19 (by decide) (by decide) (q := 12) (by decide) (x := (110 : Int32)) (j := (12 : Int32)) (by decide) (g := (mkF m 202 #[.val (.int x0), .val (.int x1), .val (.int x2), .val (.int x3)] [(.int (110 : Int32)), (.int (12 : Int32)), (.ref b68), (.ref b68), (.ref b61), (.ref b61)])) rfl (rest := [(.ref b68), (.ref b61), (.ref b61)]) rfl (hb hby d_exp_202) (fun T102 h102 L102 P102 => ?_)
      show OGo p e below _ (T102.setTop (mkF m 203 #[.val (.int x0), .val (.int x1), .val (.int x2), .val (.int x3)] [(.ref b68), (.ref b61), (.ref b61)]))
      refine OGo.go (U' := T102.setTop (mkF m 204 #[.val (.int x0), .val (.int x1), .val (.int x2), .val (.int x3)] [(.ref b68), (.ref b68), (.ref b61), (.ref b61)])) (fun _ k => XS.dup P102.1.here hx rfl (hb hby d_exp_203) rfl rfl k) ?_
      refine OGo.go (U' := T102.setTop (mkF m 206 #[.val (.int x0), .val (.int x1), .val (.int x2), .val (.int x3)] [(.int (13 : Int32)), (.ref b68), (.ref b68), (.ref b61), (.ref b61)])) (fun _ k => XS.bipush P102.1.here hx rfl (hb hby d_exp_204) k) ?_
      refine OGo.go (U' := T102.setTop (mkF m 208 #[.val (.int x0), .val (.int x1), .val (.int x2), .val (.int x3)] [(.int (61 : Int32)), (.int (13 : Int32)), (.ref b68), (.ref b68), (.ref b61), (.ref b61)])) (fun _ k => XS.bipush P102.1.here hx rfl (hb hby d_exp_206) k) ?_
      refine own_cst ne69 g70 sz71 hx hZ P102 19 (by decide) (by decide) (q := 13) (by decide) (x := (61 : Int32)) (j := (13 : Int32)) (by decide) (g := (mkF m 208 #[.val (.int x0), .val (.int x1), .val (.int x2), .val (.int x3)] [(.int (61 : Int32)), (.int (13 : Int32)), (.ref b68), (.ref b68), (.ref b61), (.ref b61)])) rfl (rest := [(.ref b68), (.ref b61), (.ref b61)]) rfl (hb hby d_exp_208) (fun T104 h104 L104 P104 => ?_)
      show OGo p e below _ (T104.setTop (mkF m 209 #[.val (.int x0), .val (.int x1), .val (.int x2), .val (.int x3)] [(.ref b68), (.ref b61), (.ref b61)]))
      refine OGo.go (U' := T104.setTop (mkF m 210 #[.val (.int x0), .val (.int x1), .val (.int x2), .val (.int x3)] [(.ref b68), (.ref b68), (.ref b61), (.ref b61)])) (fun _ k => XS.dup P104.1.here hx rfl (hb hby d_exp_209) rfl rfl k) ?_
      refine OGo.go (U' := T104.setTop (mkF m 212 #[.val (.int x0), .val (.int x1), .val (.int x2), .val (.int x3)] [(.int (14 : Int32)), (.ref b68), (.ref b68), (.ref b61), (.ref b61)])) (fun _ k => XS.bipush P104.1.here hx rfl (hb hby d_exp_210) k) ?_
      refine OGo.go (U' := T104.setTop (mkF m 214 #[.val (.int x0), .val (.int x1), .val (.int x2), .val (.int x3)] [(.int (34 : Int32)), (.int (14 : Int32)), (.ref b68), (.ref b68), (.ref b61), (.ref b61)])) (fun _ k => XS.bipush P104.1.here hx rfl (hb hby d_exp_212) k) ?_
      refine own_cst ne69 g70 sz71 hx hZ P104 19 (by decide) (by decide) (q := 14) (by decide) (x := (34 : Int32)) (j := (14 : Int32)) (by decide) (g := (mkF m 214 #[.val (.int x0), .val (.int x1), .val (.int x2), .val (.int x3)] [(.int (34 : Int32)), (.int (14 : Int32)), (.ref b68), (.ref b68), (.ref b61), (.ref b61)])) rfl (rest := [(.ref b68), (.ref b61), (.ref b61)]) rfl (hb hby d_exp_214) (fun T106 h106 L106 P106 => ?_)
      show OGo p e below _ (T106.setTop (mkF m 215 #[.val (.int x0), .val (.int x1), .val (.int x2), .val (.int x3)] [(.ref b68), (.ref b61), (.ref b61)]))
      refine OGo.go (U' := T106.setTop (mkF m 216 #[.val (.int x0), .val (.int x1), .val (.int x2), .val (.int x3)] [(.ref b68), (.ref b68), (.ref b61), (.ref b61)])) (fun _ k => XS.dup P106.1.here hx rfl (hb hby d_exp_215) rfl rfl k) ?_
      refine OGo.go (U' := T106.setTop (mkF m 218 #[.val (.int x0), .val (.int x1), .val (.int x2), .val (.int x3)] [(.int (15 : Int32)), (.ref b68), (.ref b68), (.ref b61), (.ref b61)])) (fun _ k => XS.bipush P106.1.here hx rfl (hb hby d_exp_216) k) ?_
      refine OGo.go (U' := T106.setTop (mkF m 219 #[.val (.int x0), .val (.int x1), .val (.int x2), .val (.int x3)] [(.int x1), (.int (15 : Int32)), (.ref b68), (.ref b68), (.ref b61), (.ref b61)])) (fun _ k => XS.iloadN P106.1.here hx rfl (hb hby d_exp_218) rfl k) ?_
      refine own_cst ne69 g70 sz71 hx hZ P106 19 (by decide) (by decide) (q := 15) (by decide) (x := x1) (j := (15 : Int32)) (by decide) (g := (mkF m 219 #[.val (.int x0), .val (.int x1), .val (.int x2), .val (.int x3)] [(.int x1), (.int (15 : Int32)), (.ref b68), (.ref b68), (.ref b61), (.ref b61)])) rfl (rest := [(.ref b68), (.ref b61), (.ref b61)]) rfl (hb hby d_exp_219) (fun T108 h108 L108 P108 => ?_)
      show OGo p e below _ (T108.setTop (mkF m 220 #[.val (.int x0), .val (.int x1), .val (.int x2), .val (.int x3)] [(.ref b68), (.ref b61), (.ref b61)]))
      refine OGo.go (U' := T108.setTop (mkF m 221 #[.val (.int x0), .val (.int x1), .val (.int x2), .val (.int x3)] [(.ref b68), (.ref b68), (.ref b61), (.ref b61)])) (fun _ k => XS.dup P108.1.here hx rfl (hb hby d_exp_220) rfl rfl k) ?_
      refine OGo.go (U' := T108.setTop (mkF m 223 #[.val (.int x0), .val (.int x1), .val (.int x2), .val (.int x3)] [(.int (16 : Int32)), (.ref b68), (.ref b68), (.ref b61), (.ref b61)])) (fun _ k => XS.bipush P108.1.here hx rfl (hb hby d_exp_221) k) ?_
      refine OGo.go (U' := T108.setTop (mkF m 225 #[.val (.int x0), .val (.int x1), .val (.int x2), .val (.int x3)] [(.int (34 : Int32)), (.int (16 : Int32)), (.ref b68), (.ref b68), (.ref b61), (.ref b61)])) (fun _ k => XS.bipush P108.1.here hx rfl (hb hby d_exp_223) k) ?_
      refine own_cst ne69 g70 sz71 hx hZ P108 19 (by decide) (by decide) (q := 16) (by decide) (x := (34 : Int32)) (j := (16 : Int32)) (by decide) (g := (mkF m 225 #[.val (.int x0), .val (.int x1), .val (.int x2), .val (.int x3)] [(.int (34 : Int32)), (.int (16 : Int32)), (.ref b68), (.ref b68), (.ref b61), (.ref b61)])) rfl (rest := [(.ref b68), (.ref b61), (.ref b61)]) rfl (hb hby d_exp_225) (fun T110 h110 L110 P110 => ?_)
      show OGo p e below _ (T110.setTop (mkF m 226 #[.val (.int x0), .val (.int x1), .val (.int x2), .val (.int x3)] [(.ref b68), (.ref b61), (.ref b61)]))
      refine OGo.go (U' := T110.setTop (mkF m 227 #[.val (.int x0), .val (.int x1), .val (.int x2), .val (.int x3)] [(.ref b68), (.ref b68), (.ref b61), (.ref b61)])) (fun _ k => XS.dup P110.1.here hx rfl (hb hby d_exp_226) rfl rfl k) ?_
      refine OGo.go (U' := T110.setTop (mkF m 229 #[.val (.int x0), .val (.int x1), .val (.int x2), .val (.int x3)] [(.int (17 : Int32)), (.ref b68), (.ref b68), (.ref b61), (.ref b61)])) (fun _ k => XS.bipush P110.1.here hx rfl (hb hby d_exp_227) k) ?_
      refine OGo.go (U' := T110.setTop (mkF m 231 #[.val (.int x0), .val (.int x1), .val (.int x2), .val (.int x3)] [(.int (63 : Int32)), (.int (17 : Int32)), (.ref b68), (.ref b68), (.ref b61), (.ref b61)])) (fun _ k => XS.bipush P110.1.here hx rfl (hb hby d_exp_229) k) ?_
      refine own_cst ne69 g70 sz71 hx hZ P110 19 (by decide) (by decide) (q := 17) (by decide) (x := (63 : Int32)) (j := (17 : Int32)) (by decide) (g := (mkF m 231 #[.val (.int x0), .val (.int x1), .val (.int x2), .val (.int x3)] [(.int (63 : Int32)), (.int (17 : Int32)), (.ref b68), (.ref b68), (.ref b61), (.ref b61)])) rfl (rest := [(.ref b68), (.ref b61), (.ref b61)]) rfl (hb hby d_exp_231) (fun T112 h112 L112 P112 => ?_)
      show OGo p e below _ (T112.setTop (mkF m 232 #[.val (.int x0), .val (.int x1), .val (.int x2), .val (.int x3)] [(.ref b68), (.ref b61), (.ref b61)]))
      refine OGo.go (U' := T112.setTop (mkF m 233 #[.val (.int x0), .val (.int x1), .val (.int x2), .val (.int x3)] [(.ref b68), (.ref b68), (.ref b61), (.ref b61)])) (fun _ k => XS.dup P112.1.here hx rfl (hb hby d_exp_232) rfl rfl k) ?_
      refine OGo.go (U' := T112.setTop (mkF m 235 #[.val (.int x0), .val (.int x1), .val (.int x2), .val (.int x3)] [(.int (18 : Int32)), (.ref b68), (.ref b68), (.ref b61), (.ref b61)])) (fun _ k => XS.bipush P112.1.here hx rfl (hb hby d_exp_233) k) ?_
      refine OGo.go (U' := T112.setTop (mkF m 237 #[.val (.int x0), .val (.int x1), .val (.int x2), .val (.int x3)] [(.int (62 : Int32)), (.int (18 : Int32)), (.ref b68), (.ref b68), (.ref b61), (.ref b61)])) (fun _ k => XS.bipush P112.1.here hx rfl (hb hby d_exp_235) k) ?_
      refine own_cst ne69 g70 sz71 hx hZ P112 19 (by decide) (by decide) (q := 18) (by decide) (x := (62 : Int32)) (j := (18 : Int32)) (by decide) (g := (mkF m 237 #[.val (.int x0), .val (.int x1), .val (.int x2), .val (.int x3)] [(.int (62 : Int32)), (.int (18 : Int32)), (.ref b68), (.ref b68), (.ref b61), (.ref b61)])) rfl (rest := [(.ref b68), (.ref b61), (.ref b61)]) rfl (hb hby d_exp_237) (fun T114 h114 L114 P114 => ?_)
      show OGo p e below _ (T114.setTop (mkF m 238 #[.val (.int x0), .val (.int x1), .val (.int x2), .val (.int x3)] [(.ref b68), (.ref b61), (.ref b61)]))
      obtain ⟨X114, e114, N114, K114, z114, Es114, fv114, fc114, S114, A114, -⟩ := P114
      simp only [List.nil_append, List.cons_append] at A114
      refine OGo.callI X114 hx hZ (y := (⟨"java/lang/String", "<init>", "([C)V"⟩ : MethodName)) rfl hown (hw _ (List.mem_of_getElem? (i := 8) rfl)) (hw _ (List.mem_of_getElem? (i := 9) rfl)) (hw _ (List.mem_of_getElem? (i := 6) rfl)) (hw _ (List.mem_of_getElem? (i := 10) rfl)) (by decide) (g := (mkF m 238 #[.val (.int x0), .val (.int x1), .val (.int x2), .val (.int x3)] [(.ref b68), (.ref b61), (.ref b61)])) (a := b61) (argsL := [(.ref b68)]) (rest := [(.ref b61)]) e114 (rm_si1 l Z a0 hw b61 b68 [(nar .char (60 : Int32)), (nar .char (63 : Int32)), (nar .char (120 : Int32)), (nar .char (109 : Int32)), (nar .char (108 : Int32)), (nar .char (32 : Int32)), (nar .char (118 : Int32)), (nar .char (101 : Int32)), (nar .char (114 : Int32)), (nar .char (115 : Int32)), (nar .char (105 : Int32)), (nar .char (111 : Int32)), (nar .char (110 : Int32)), (nar .char (61 : Int32)), (nar .char (34 : Int32)), (nar .char x1), (nar .char (34 : Int32)), (nar .char (63 : Int32)), (nar .char (62 : Int32))] .null (.int (0 : Int32)) k68 cs n0 h114 z114 Es114 fv114 fc114 g62 ne69 A114 (own_uS (show ¬ (255 : Int32) < (nar .char (60 : Int32)) from (by decide)) (own_uS (show ¬ (255 : Int32) < (nar .char (63 : Int32)) from (by decide)) (own_uS (show ¬ (255 : Int32) < (nar .char (120 : Int32)) from (by decide)) (own_uS (show ¬ (255 : Int32) < (nar .char (109 : Int32)) from (by decide)) (own_uS (show ¬ (255 : Int32) < (nar .char (108 : Int32)) from (by decide)) (own_uS (show ¬ (255 : Int32) < (nar .char (32 : Int32)) from (by decide)) (own_uS (show ¬ (255 : Int32) < (nar .char (118 : Int32)) from (by decide)) (own_uS (show ¬ (255 : Int32) < (nar .char (101 : Int32)) from (by decide)) (own_uS (show ¬ (255 : Int32) < (nar .char (114 : Int32)) from (by decide)) (own_uS (show ¬ (255 : Int32) < (nar .char (115 : Int32)) from (by decide)) (own_uS (show ¬ (255 : Int32) < (nar .char (105 : Int32)) from (by decide)) (own_uS (show ¬ (255 : Int32) < (nar .char (111 : Int32)) from (by decide)) (own_uS (show ¬ (255 : Int32) < (nar .char (110 : Int32)) from (by decide)) (own_uS (show ¬ (255 : Int32) < (nar .char (61 : Int32)) from (by decide)) (own_uS (show ¬ (255 : Int32) < (nar .char (34 : Int32)) from (by decide)) (own_uS (show ¬ (255 : Int32) < (nar .char x1) from hv1) (own_uS (show ¬ (255 : Int32) < (nar .char (34 : Int32)) from (by decide)) (own_uS (show ¬ (255 : Int32) < (nar .char (63 : Int32)) from (by decide)) (own_uS (show ¬ (255 : Int32) < (nar .char (62 : Int32)) from (by decide)) own_u0))))))))))))))))))) (show 1 ≤ 19 from by decide) (show 19 ≤ 24 from by decide) S114 hcs) rfl (by rw [hml]; rfl) (lenOf pd_23 rfl) rfl (W := 1) (by show 2 * 0 + _ ≤ _; exact Nat.le_of_eq rfl) (hb hby d_exp_238) (by decide) (by decide) (by decide) (by decide) ?_
      rintro _ T115 L115 X115 ⟨rfl, N115, K115, Es115, sc115, b115, k115, sv115, A115, gb115⟩
      have e115 : T115.heap = T115.heap := rfl
      have N116 := Fr.app N114 N115
      have f117 := own_sta_keep S114 K115 (allS (P := fun x => ∀ cell : Cell, _ → cell.vm.isStatics = false) (own_plain Es114) all0)
      have f118 := Es114.keep K115
      have f119 := A114.keep K115 (ninS (Ne.symm ne69) nin0)
      have K120 := K114.trans K115 (allS (P := fun x => x ∈ _ ∨ _ ≤ x) (Or.inr sz63) all0)
      have sz115 := Nat.le_trans K114.1 gb115
      show OGo p e below _ (T115.setTop (mkF m 241 #[.val (.int x0), .val (.int x1), .val (.int x2), .val (.int x3)] [(.ref b61)]))
      refine OGo.retA X115 hx hret hlk rfl rfl (hb hby d_exp_241) ?_ (by decide) (by decide)
      rw [e115]
      refine ⟨b61, b115, k115, rfl, N116, K120, Es115, sc115, sv115, ?_, sz63, sz115⟩
      rw [own_elist_19 hc1 hc60]
      exact A115
    · skip
      refine OGo.go (U' := T0.setTop (mkF m 242 #[.val (.int x0), .val (.int x1), .val (.int x2), .val (.int x3)] [])) (fun _ k => XS.icmpYes X0.here hx rfl (pc0 := 120) (pc' := 242) rfl (hb hby d_exp_120) rfl (feq hc60).2 (by decide) (by decide) k) ?_
      refine OGo.go (U' := T0.setTop (mkF m 243 #[.val (.int x0), .val (.int x1), .val (.int x2), .val (.int x3)] [(.int x0)])) (fun _ k => XS.iloadN X0.here hx rfl (hb hby d_exp_242) rfl k) ?_
      refine OGo.go (U' := T0.setTop (mkF m 244 #[.val (.int x0), .val (.int x1), .val (.int x2), .val (.int x3)] [(.int (2 : Int32)), (.int x0)])) (fun _ k => XS.iconst X0.here hx rfl (hb hby d_exp_243) k) ?_
      by_cases hc121 : x0 = (2 : Int32)
      · skip
        refine OGo.go (U' := T0.setTop (mkF m 247 #[.val (.int x0), .val (.int x1), .val (.int x2), .val (.int x3)] [])) (fun _ k => XS.icmpNo X0.here hx rfl (hb hby d_exp_244) rfl (teq hc121).2 k) ?_
        obtain ⟨T122, h122, X122, e122, E122, A122, D122, -, st122⟩ := newO X0 hx hZ hown (hw _ (List.mem_of_getElem? (i := 4) rfl)) (hw _ (List.mem_of_getElem? (i := 5) rfl)) (hw _ (List.mem_of_getElem? (i := 6) rfl)) e0 (g := (mkF m 247 #[.val (.int x0), .val (.int x1), .val (.int x2), .val (.int x3)] [])) rfl (hb hby d_exp_247) (by decide) (by decide)
        obtain ⟨b122, gb122⟩ : ∃ z, z = h0.size := ⟨_, rfl⟩
        rw [← gb122] at A122 D122 st122
        have g123 : n0 ≤ b122 := Nat.le_trans Z0 (Nat.le_of_eq gb122.symm)
        have sz124 := Nat.le_trans (Keep.refl h0 []).1 (Nat.le_of_eq gb122.symm)
        have f125 := S0.ext E122
        have K126 := (Keep.refl h0 []).ext E122
        have f127 : Fld Z h122 b122 "java/lang/String" "value" "[B" .null := D122 (Or.inr (hw _ (List.mem_of_getElem? (i := 20) rfl))) (ty := (.array .byte)) (by decide)
        have f128 : Fld Z h122 b122 "java/lang/String" "coder" "B" (.int (0 : Int32)) := D122 (Or.inr (hw _ (List.mem_of_getElem? (i := 21) rfl))) (ty := .byte) (by decide)
        refine OGo.go (U' := T122.setTop (mkF m 250 #[.val (.int x0), .val (.int x1), .val (.int x2), .val (.int x3)] [(.ref b122)])) st122 ?_
        refine OGo.go (U' := T122.setTop (mkF m 251 #[.val (.int x0), .val (.int x1), .val (.int x2), .val (.int x3)] [(.ref b122), (.ref b122)])) (fun _ k => XS.dup X122.here hx rfl (hb hby d_exp_250) rfl rfl k) ?_
        refine OGo.go (U' := T122.setTop (mkF m 253 #[.val (.int x0), .val (.int x1), .val (.int x2), .val (.int x3)] [(.int (20 : Int32)), (.ref b122), (.ref b122)])) (fun _ k => XS.bipush X122.here hx rfl (hb hby d_exp_251) k) ?_
        obtain ⟨T129, h129, k129, X129, e129, E129, A129, st129⟩ := newP X122 hx hZ (hw _ (List.mem_of_getElem? (i := 7) rfl)) e122 (g := (mkF m 253 #[.val (.int x0), .val (.int x1), .val (.int x2), .val (.int x3)] [(.int (20 : Int32)), (.ref b122), (.ref b122)])) rfl (hb hby d_exp_253) rfl (n := 20) (by decide) (cap := 20) (by decide) (by decide) (by decide) (by decide)
        obtain ⟨b129, gb129⟩ : ∃ z, z = h122.size := ⟨_, rfl⟩
        rw [← gb129] at A129 st129
        have ne130 : b122 ≠ b129 := Nat.ne_of_lt (Nat.lt_of_lt_of_le A122.lt (Nat.le_of_eq gb129.symm))
        have g131 : n0 ≤ b129 := Nat.le_trans (Nat.le_trans Z0 E122.1) (Nat.le_of_eq gb129.symm)
        have sz132 := Nat.le_trans K126.1 (Nat.le_of_eq gb129.symm)
        have f133 := f125.ext E129
        have f134 := A122.ext E129
        have f135 := f127.ext E129
        have f136 := f128.ext E129
        have K137 := K126.ext E129
        have V129 : Arv Z h129 b129 k129 .char 20 [] (.int 0) := Arv.new A129 (by decide)
        refine OGo.go (U' := T129.setTop (mkF m 255 #[.val (.int x0), .val (.int x1), .val (.int x2), .val (.int x3)] [(.ref b129), (.ref b122), (.ref b122)])) st129 ?_
        refine OGo.go (U' := T129.setTop (mkF m 256 #[.val (.int x0), .val (.int x1), .val (.int x2), .val (.int x3)] [(.ref b129), (.ref b129), (.ref b122), (.ref b122)])) (fun _ k => XS.dup X129.here hx rfl (hb hby d_exp_255) rfl rfl k) ?_
        refine OGo.go (U' := T129.setTop (mkF m 257 #[.val (.int x0), .val (.int x1), .val (.int x2), .val (.int x3)] [(.int (0 : Int32)), (.ref b129), (.ref b129), (.ref b122), (.ref b122)])) (fun _ k => XS.iconst X129.here hx rfl (hb hby d_exp_256) k) ?_
        refine OGo.go (U' := T129.setTop (mkF m 259 #[.val (.int x0), .val (.int x1), .val (.int x2), .val (.int x3)] [(.int (60 : Int32)), (.int (0 : Int32)), (.ref b129), (.ref b129), (.ref b122), (.ref b122)])) (fun _ k => XS.bipush X129.here hx rfl (hb hby d_exp_257) k) ?_
        have P138 : CPk p l e _ s m _ below meth c _ _ Z n0 h0 b122 b129 k129 20 cs _ _ T129 h129 _ 0 [] := ⟨X129, e129, (Fr.nil n0), K137, (Nat.le_trans (Nat.le_trans Z0 E122.1) E129.1), f134, f135, f136, f133, V129, rfl⟩
        refine own_cst ne130 g131 sz132 hx hZ P138 20 (by decide) (by decide) (q := 0) (by decide) (x := (60 : Int32)) (j := (0 : Int32)) (by decide) (g := (mkF m 259 #[.val (.int x0), .val (.int x1), .val (.int x2), .val (.int x3)] [(.int (60 : Int32)), (.int (0 : Int32)), (.ref b129), (.ref b129), (.ref b122), (.ref b122)])) rfl (rest := [(.ref b129), (.ref b122), (.ref b122)]) rfl (hb hby d_exp_259) (fun T139 h139 L139 P139 => ?_)
        show OGo p e below _ (T139.setTop (mkF m 260 #[.val (.int x0), .val (.int x1), .val (.int x2), .val (.int x3)] [(.ref b129), (.ref b122), (.ref b122)]))
        refine OGo.go (U' := T139.setTop (mkF m 261 #[.val (.int x0), .val (.int x1), .val (.int x2), .val (.int x3)] [(.ref b129), (.ref b129), (.ref b122), (.ref b122)])) (fun _ k => XS.dup P139.1.here hx rfl (hb hby d_exp_260) rfl rfl k) ?_
        refine OGo.go (U' := T139.setTop (mkF m 262 #[.val (.int x0), .val (.int x1), .val (.int x2), .val (.int x3)] [(.int (1 : Int32)), (.ref b129), (.ref b129), (.ref b122), (.ref b122)])) (fun _ k => XS.iconst P139.1.here hx rfl (hb hby d_exp_261) k) ?_
        refine OGo.go (U' := T139.setTop (mkF m 264 #[.val (.int x0), .val (.int x1), .val (.int x2), .val (.int x3)] [(.int (63 : Int32)), (.int (1 : Int32)), (.ref b129), (.ref b129), (.ref b122), (.ref b122)])) (fun _ k => XS.bipush P139.1.here hx rfl (hb hby d_exp_262) k) ?_
        refine own_cst ne130 g131 sz132 hx hZ P139 20 (by decide) (by decide) (q := 1) (by decide) (x := (63 : Int32)) (j := (1 : Int32)) (by decide) (g := (mkF m 264 #[.val (.int x0), .val (.int x1), .val (.int x2), .val (.int x3)] [(.int (63 : Int32)), (.int (1 : Int32)), (.ref b129), (.ref b129), (.ref b122), (.ref b122)])) rfl (rest := [(.ref b129), (.ref b122), (.ref b122)]) rfl (hb hby d_exp_264) (fun T141 h141 L141 P141 => ?_)
        show OGo p e below _ (T141.setTop (mkF m 265 #[.val (.int x0), .val (.int x1), .val (.int x2), .val (.int x3)] [(.ref b129), (.ref b122), (.ref b122)]))
        refine OGo.go (U' := T141.setTop (mkF m 266 #[.val (.int x0), .val (.int x1), .val (.int x2), .val (.int x3)] [(.ref b129), (.ref b129), (.ref b122), (.ref b122)])) (fun _ k => XS.dup P141.1.here hx rfl (hb hby d_exp_265) rfl rfl k) ?_
        refine OGo.go (U' := T141.setTop (mkF m 267 #[.val (.int x0), .val (.int x1), .val (.int x2), .val (.int x3)] [(.int (2 : Int32)), (.ref b129), (.ref b129), (.ref b122), (.ref b122)])) (fun _ k => XS.iconst P141.1.here hx rfl (hb hby d_exp_266) k) ?_
        refine OGo.go (U' := T141.setTop (mkF m 269 #[.val (.int x0), .val (.int x1), .val (.int x2), .val (.int x3)] [(.int (120 : Int32)), (.int (2 : Int32)), (.ref b129), (.ref b129), (.ref b122), (.ref b122)])) (fun _ k => XS.bipush P141.1.here hx rfl (hb hby d_exp_267) k) ?_
        refine own_cst ne130 g131 sz132 hx hZ P141 20 (by decide) (by decide) (q := 2) (by decide) (x := (120 : Int32)) (j := (2 : Int32)) (by decide) (g := (mkF m 269 #[.val (.int x0), .val (.int x1), .val (.int x2), .val (.int x3)] [(.int (120 : Int32)), (.int (2 : Int32)), (.ref b129), (.ref b129), (.ref b122), (.ref b122)])) rfl (rest := [(.ref b129), (.ref b122), (.ref b122)]) rfl (hb hby d_exp_269) (fun T143 h143 L143 P143 => ?_)
        show OGo p e below _ (T143.setTop (mkF m 270 #[.val (.int x0), .val (.int x1), .val (.int x2), .val (.int x3)] [(.ref b129), (.ref b122), (.ref b122)]))
        refine OGo.go (U' := T143.setTop (mkF m 271 #[.val (.int x0), .val (.int x1), .val (.int x2), .val (.int x3)] [(.ref b129), (.ref b129), (.ref b122), (.ref b122)])) (fun _ k => XS.dup P143.1.here hx rfl (hb hby d_exp_270) rfl rfl k) ?_
        refine OGo.go (U' := T143.setTop (mkF m 272 #[.val (.int x0), .val (.int x1), .val (.int x2), .val (.int x3)] [(.int (3 : Int32)), (.ref b129), (.ref b129), (.ref b122), (.ref b122)])) (fun _ k => XS.iconst P143.1.here hx rfl (hb hby d_exp_271) k) ?_
        refine OGo.go (U' := T143.setTop (mkF m 274 #[.val (.int x0), .val (.int x1), .val (.int x2), .val (.int x3)] [(.int (109 : Int32)), (.int (3 : Int32)), (.ref b129), (.ref b129), (.ref b122), (.ref b122)])) (fun _ k => XS.bipush P143.1.here hx rfl (hb hby d_exp_272) k) ?_
        refine own_cst ne130 g131 sz132 hx hZ P143 20 (by decide) (by decide) (q := 3) (by decide) (x := (109 : Int32)) (j := (3 : Int32)) (by decide) (g := (mkF m 274 #[.val (.int x0), .val (.int x1), .val (.int x2), .val (.int x3)] [(.int (109 : Int32)), (.int (3 : Int32)), (.ref b129), (.ref b129), (.ref b122), (.ref b122)])) rfl (rest := [(.ref b129), (.ref b122), (.ref b122)]) rfl (hb hby d_exp_274) (fun T145 h145 L145 P145 => ?_)
        show OGo p e below _ (T145.setTop (mkF m 275 #[.val (.int x0), .val (.int x1), .val (.int x2), .val (.int x3)] [(.ref b129), (.ref b122), (.ref b122)]))
        refine OGo.go (U' := T145.setTop (mkF m 276 #[.val (.int x0), .val (.int x1), .val (.int x2), .val (.int x3)] [(.ref b129), (.ref b129), (.ref b122), (.ref b122)])) (fun _ k => XS.dup P145.1.here hx rfl (hb hby d_exp_275) rfl rfl k) ?_
        refine OGo.go (U' := T145.setTop (mkF m 277 #[.val (.int x0), .val (.int x1), .val (.int x2), .val (.int x3)] [(.int (4 : Int32)), (.ref b129), (.ref b129), (.ref b122), (.ref b122)])) (fun _ k => XS.iconst P145.1.here hx rfl (hb hby d_exp_276) k) ?_
        refine OGo.go (U' := T145.setTop (mkF m 279 #[.val (.int x0), .val (.int x1), .val (.int x2), .val (.int x3)] [(.int (108 : Int32)), (.int (4 : Int32)), (.ref b129), (.ref b129), (.ref b122), (.ref b122)])) (fun _ k => XS.bipush P145.1.here hx rfl (hb hby d_exp_277) k) ?_
        refine own_cst ne130 g131 sz132 hx hZ P145 20 (by decide) (by decide) (q := 4) (by decide) (x := (108 : Int32)) (j := (4 : Int32)) (by decide) (g := (mkF m 279 #[.val (.int x0), .val (.int x1), .val (.int x2), .val (.int x3)] [(.int (108 : Int32)), (.int (4 : Int32)), (.ref b129), (.ref b129), (.ref b122), (.ref b122)])) rfl (rest := [(.ref b129), (.ref b122), (.ref b122)]) rfl (hb hby d_exp_279) (fun T147 h147 L147 P147 => ?_)
        show OGo p e below _ (T147.setTop (mkF m 280 #[.val (.int x0), .val (.int x1), .val (.int x2), .val (.int x3)] [(.ref b129), (.ref b122), (.ref b122)]))
        refine OGo.go (U' := T147.setTop (mkF m 281 #[.val (.int x0), .val (.int x1), .val (.int x2), .val (.int x3)] [(.ref b129), (.ref b129), (.ref b122), (.ref b122)])) (fun _ k => XS.dup P147.1.here hx rfl (hb hby d_exp_280) rfl rfl k) ?_
        refine OGo.go (U' := T147.setTop (mkF m 282 #[.val (.int x0), .val (.int x1), .val (.int x2), .val (.int x3)] [(.int (5 : Int32)), (.ref b129), (.ref b129), (.ref b122), (.ref b122)])) (fun _ k => XS.iconst P147.1.here hx rfl (hb hby d_exp_281) k) ?_
        refine OGo.go (U' := T147.setTop (mkF m 284 #[.val (.int x0), .val (.int x1), .val (.int x2), .val (.int x3)] [(.int (32 : Int32)), (.int (5 : Int32)), (.ref b129), (.ref b129), (.ref b122), (.ref b122)])) (fun _ k => XS.bipush P147.1.here hx rfl (hb hby d_exp_282) k) ?_
        refine own_cst ne130 g131 sz132 hx hZ P147 20 (by decide) (by decide) (q := 5) (by decide) (x := (32 : Int32)) (j := (5 : Int32)) (by decide) (g := (mkF m 284 #[.val (.int x0), .val (.int x1), .val (.int x2), .val (.int x3)] [(.int (32 : Int32)), (.int (5 : Int32)), (.ref b129), (.ref b129), (.ref b122), (.ref b122)])) rfl (rest := [(.ref b129), (.ref b122), (.ref b122)]) rfl (hb hby d_exp_284) (fun T149 h149 L149 P149 => ?_)
        show OGo p e below _ (T149.setTop (mkF m 285 #[.val (.int x0), .val (.int x1), .val (.int x2), .val (.int x3)] [(.ref b129), (.ref b122), (.ref b122)]))
        refine OGo.go (U' := T149.setTop (mkF m 286 #[.val (.int x0), .val (.int x1), .val (.int x2), .val (.int x3)] [(.ref b129), (.ref b129), (.ref b122), (.ref b122)])) (fun _ k => XS.dup P149.1.here hx rfl (hb hby d_exp_285) rfl rfl k) ?_
        refine OGo.go (U' := T149.setTop (mkF m 288 #[.val (.int x0), .val (.int x1), .val (.int x2), .val (.int x3)] [(.int (6 : Int32)), (.ref b129), (.ref b129), (.ref b122), (.ref b122)])) (fun _ k => XS.bipush P149.1.here hx rfl (hb hby d_exp_286) k) ?_
        refine OGo.go (U' := T149.setTop (mkF m 290 #[.val (.int x0), .val (.int x1), .val (.int x2), .val (.int x3)] [(.int (118 : Int32)), (.int (6 : Int32)), (.ref b129), (.ref b129), (.ref b122), (.ref b122)])) (fun _ k => XS.bipush P149.1.here hx rfl (hb hby d_exp_288) k) ?_
        refine own_cst ne130 g131 sz132 hx hZ P149 20 (by decide) (by decide) (q := 6) (by decide) (x := (118 : Int32)) (j := (6 : Int32)) (by decide) (g := (mkF m 290 #[.val (.int x0), .val (.int x1), .val (.int x2), .val (.int x3)] [(.int (118 : Int32)), (.int (6 : Int32)), (.ref b129), (.ref b129), (.ref b122), (.ref b122)])) rfl (rest := [(.ref b129), (.ref b122), (.ref b122)]) rfl (hb hby d_exp_290) (fun T151 h151 L151 P151 => ?_)
        show OGo p e below _ (T151.setTop (mkF m 291 #[.val (.int x0), .val (.int x1), .val (.int x2), .val (.int x3)] [(.ref b129), (.ref b122), (.ref b122)]))
        refine OGo.go (U' := T151.setTop (mkF m 292 #[.val (.int x0), .val (.int x1), .val (.int x2), .val (.int x3)] [(.ref b129), (.ref b129), (.ref b122), (.ref b122)])) (fun _ k => XS.dup P151.1.here hx rfl (hb hby d_exp_291) rfl rfl k) ?_
        refine OGo.go (U' := T151.setTop (mkF m 294 #[.val (.int x0), .val (.int x1), .val (.int x2), .val (.int x3)] [(.int (7 : Int32)), (.ref b129), (.ref b129), (.ref b122), (.ref b122)])) (fun _ k => XS.bipush P151.1.here hx rfl (hb hby d_exp_292) k) ?_
        refine OGo.go (U' := T151.setTop (mkF m 296 #[.val (.int x0), .val (.int x1), .val (.int x2), .val (.int x3)] [(.int (101 : Int32)), (.int (7 : Int32)), (.ref b129), (.ref b129), (.ref b122), (.ref b122)])) (fun _ k => XS.bipush P151.1.here hx rfl (hb hby d_exp_294) k) ?_
        refine own_cst ne130 g131 sz132 hx hZ P151 20 (by decide) (by decide) (q := 7) (by decide) (x := (101 : Int32)) (j := (7 : Int32)) (by decide) (g := (mkF m 296 #[.val (.int x0), .val (.int x1), .val (.int x2), .val (.int x3)] [(.int (101 : Int32)), (.int (7 : Int32)), (.ref b129), (.ref b129), (.ref b122), (.ref b122)])) rfl (rest := [(.ref b129), (.ref b122), (.ref b122)]) rfl (hb hby d_exp_296) (fun T153 h153 L153 P153 => ?_)
        show OGo p e below _ (T153.setTop (mkF m 297 #[.val (.int x0), .val (.int x1), .val (.int x2), .val (.int x3)] [(.ref b129), (.ref b122), (.ref b122)]))
        refine OGo.go (U' := T153.setTop (mkF m 298 #[.val (.int x0), .val (.int x1), .val (.int x2), .val (.int x3)] [(.ref b129), (.ref b129), (.ref b122), (.ref b122)])) (fun _ k => XS.dup P153.1.here hx rfl (hb hby d_exp_297) rfl rfl k) ?_
        refine OGo.go (U' := T153.setTop (mkF m 300 #[.val (.int x0), .val (.int x1), .val (.int x2), .val (.int x3)] [(.int (8 : Int32)), (.ref b129), (.ref b129), (.ref b122), (.ref b122)])) (fun _ k => XS.bipush P153.1.here hx rfl (hb hby d_exp_298) k) ?_
        refine OGo.go (U' := T153.setTop (mkF m 302 #[.val (.int x0), .val (.int x1), .val (.int x2), .val (.int x3)] [(.int (114 : Int32)), (.int (8 : Int32)), (.ref b129), (.ref b129), (.ref b122), (.ref b122)])) (fun _ k => XS.bipush P153.1.here hx rfl (hb hby d_exp_300) k) ?_
        refine own_cst ne130 g131 sz132 hx hZ P153 20 (by decide) (by decide) (q := 8) (by decide) (x := (114 : Int32)) (j := (8 : Int32)) (by decide) (g := (mkF m 302 #[.val (.int x0), .val (.int x1), .val (.int x2), .val (.int x3)] [(.int (114 : Int32)), (.int (8 : Int32)), (.ref b129), (.ref b129), (.ref b122), (.ref b122)])) rfl (rest := [(.ref b129), (.ref b122), (.ref b122)]) rfl (hb hby d_exp_302) (fun T155 h155 L155 P155 => ?_)
        show OGo p e below _ (T155.setTop (mkF m 303 #[.val (.int x0), .val (.int x1), .val (.int x2), .val (.int x3)] [(.ref b129), (.ref b122), (.ref b122)]))
        refine OGo.go (U' := T155.setTop (mkF m 304 #[.val (.int x0), .val (.int x1), .val (.int x2), .val (.int x3)] [(.ref b129), (.ref b129), (.ref b122), (.ref b122)])) (fun _ k => XS.dup P155.1.here hx rfl (hb hby d_exp_303) rfl rfl k) ?_
        refine OGo.go (U' := T155.setTop (mkF m 306 #[.val (.int x0), .val (.int x1), .val (.int x2), .val (.int x3)] [(.int (9 : Int32)), (.ref b129), (.ref b129), (.ref b122), (.ref b122)])) (fun _ k => XS.bipush P155.1.here hx rfl (hb hby d_exp_304) k) ?_
        refine OGo.go (U' := T155.setTop (mkF m 308 #[.val (.int x0), .val (.int x1), .val (.int x2), .val (.int x3)] [(.int (115 : Int32)), (.int (9 : Int32)), (.ref b129), (.ref b129), (.ref b122), (.ref b122)])) (fun _ k => XS.bipush P155.1.here hx rfl (hb hby d_exp_306) k) ?_
        refine own_cst ne130 g131 sz132 hx hZ P155 20 (by decide) (by decide) (q := 9) (by decide) (x := (115 : Int32)) (j := (9 : Int32)) (by decide) (g := (mkF m 308 #[.val (.int x0), .val (.int x1), .val (.int x2), .val (.int x3)] [(.int (115 : Int32)), (.int (9 : Int32)), (.ref b129), (.ref b129), (.ref b122), (.ref b122)])) rfl (rest := [(.ref b129), (.ref b122), (.ref b122)]) rfl (hb hby d_exp_308) (fun T157 h157 L157 P157 => ?_)
        show OGo p e below _ (T157.setTop (mkF m 309 #[.val (.int x0), .val (.int x1), .val (.int x2), .val (.int x3)] [(.ref b129), (.ref b122), (.ref b122)]))
        refine OGo.go (U' := T157.setTop (mkF m 310 #[.val (.int x0), .val (.int x1), .val (.int x2), .val (.int x3)] [(.ref b129), (.ref b129), (.ref b122), (.ref b122)])) (fun _ k => XS.dup P157.1.here hx rfl (hb hby d_exp_309) rfl rfl k) ?_
        refine OGo.go (U' := T157.setTop (mkF m 312 #[.val (.int x0), .val (.int x1), .val (.int x2), .val (.int x3)] [(.int (10 : Int32)), (.ref b129), (.ref b129), (.ref b122), (.ref b122)])) (fun _ k => XS.bipush P157.1.here hx rfl (hb hby d_exp_310) k) ?_
        refine OGo.go (U' := T157.setTop (mkF m 314 #[.val (.int x0), .val (.int x1), .val (.int x2), .val (.int x3)] [(.int (105 : Int32)), (.int (10 : Int32)), (.ref b129), (.ref b129), (.ref b122), (.ref b122)])) (fun _ k => XS.bipush P157.1.here hx rfl (hb hby d_exp_312) k) ?_
        refine own_cst ne130 g131 sz132 hx hZ P157 20 (by decide) (by decide) (q := 10) (by decide) (x := (105 : Int32)) (j := (10 : Int32)) (by decide) (g := (mkF m 314 #[.val (.int x0), .val (.int x1), .val (.int x2), .val (.int x3)] [(.int (105 : Int32)), (.int (10 : Int32)), (.ref b129), (.ref b129), (.ref b122), (.ref b122)])) rfl (rest := [(.ref b129), (.ref b122), (.ref b122)]) rfl (hb hby d_exp_314) (fun T159 h159 L159 P159 => ?_)
        show OGo p e below _ (T159.setTop (mkF m 315 #[.val (.int x0), .val (.int x1), .val (.int x2), .val (.int x3)] [(.ref b129), (.ref b122), (.ref b122)]))
        refine OGo.go (U' := T159.setTop (mkF m 316 #[.val (.int x0), .val (.int x1), .val (.int x2), .val (.int x3)] [(.ref b129), (.ref b129), (.ref b122), (.ref b122)])) (fun _ k => XS.dup P159.1.here hx rfl (hb hby d_exp_315) rfl rfl k) ?_
        refine OGo.go (U' := T159.setTop (mkF m 318 #[.val (.int x0), .val (.int x1), .val (.int x2), .val (.int x3)] [(.int (11 : Int32)), (.ref b129), (.ref b129), (.ref b122), (.ref b122)])) (fun _ k => XS.bipush P159.1.here hx rfl (hb hby d_exp_316) k) ?_
        refine OGo.go (U' := T159.setTop (mkF m 320 #[.val (.int x0), .val (.int x1), .val (.int x2), .val (.int x3)] [(.int (111 : Int32)), (.int (11 : Int32)), (.ref b129), (.ref b129), (.ref b122), (.ref b122)])) (fun _ k => XS.bipush P159.1.here hx rfl (hb hby d_exp_318) k) ?_
        refine own_cst ne130 g131 sz132 hx hZ P159 20 (by decide) (by decide) (q := 11) (by decide) (x := (111 : Int32)) (j := (11 : Int32)) (by decide) (g := (mkF m 320 #[.val (.int x0), .val (.int x1), .val (.int x2), .val (.int x3)] [(.int (111 : Int32)), (.int (11 : Int32)), (.ref b129), (.ref b129), (.ref b122), (.ref b122)])) rfl (rest := [(.ref b129), (.ref b122), (.ref b122)]) rfl (hb hby d_exp_320) (fun T161 h161 L161 P161 => ?_)
        show OGo p e below _ (T161.setTop (mkF m 321 #[.val (.int x0), .val (.int x1), .val (.int x2), .val (.int x3)] [(.ref b129), (.ref b122), (.ref b122)]))
        refine OGo.go (U' := T161.setTop (mkF m 322 #[.val (.int x0), .val (.int x1), .val (.int x2), .val (.int x3)] [(.ref b129), (.ref b129), (.ref b122), (.ref b122)])) (fun _ k => XS.dup P161.1.here hx rfl (hb hby d_exp_321) rfl rfl k) ?_
        refine OGo.go (U' := T161.setTop (mkF m 324 #[.val (.int x0), .val (.int x1), .val (.int x2), .val (.int x3)] [(.int (12 : Int32)), (.ref b129), (.ref b129), (.ref b122), (.ref b122)])) (fun _ k => XS.bipush P161.1.here hx rfl (hb hby d_exp_322) k) ?_
        refine OGo.go (U' := T161.setTop (mkF m 326 #[.val (.int x0), .val (.int x1), .val (.int x2), .val (.int x3)] [(.int (110 : Int32)), (.int (12 : Int32)), (.ref b129), (.ref b129), (.ref b122), (.ref b122)])) (fun _ k => XS.bipush P161.1.here hx rfl (hb hby d_exp_324) k) ?_
        refine own_cst ne130 g131 sz132 hx hZ P161 20 (by decide) (by decide) (q := 12) (by decide) (x := (110 : Int32)) (j := (12 : Int32)) (by decide) (g := (mkF m 326 #[.val (.int x0), .val (.int x1), .val (.int x2), .val (.int x3)] [(.int (110 : Int32)), (.int (12 : Int32)), (.ref b129), (.ref b129), (.ref b122), (.ref b122)])) rfl (rest := [(.ref b129), (.ref b122), (.ref b122)]) rfl (hb hby d_exp_326) (fun T163 h163 L163 P163 => ?_)
        show OGo p e below _ (T163.setTop (mkF m 327 #[.val (.int x0), .val (.int x1), .val (.int x2), .val (.int x3)] [(.ref b129), (.ref b122), (.ref b122)]))
        refine OGo.go (U' := T163.setTop (mkF m 328 #[.val (.int x0), .val (.int x1), .val (.int x2), .val (.int x3)] [(.ref b129), (.ref b129), (.ref b122), (.ref b122)])) (fun _ k => XS.dup P163.1.here hx rfl (hb hby d_exp_327) rfl rfl k) ?_
        refine OGo.go (U' := T163.setTop (mkF m 330 #[.val (.int x0), .val (.int x1), .val (.int x2), .val (.int x3)] [(.int (13 : Int32)), (.ref b129), (.ref b129), (.ref b122), (.ref b122)])) (fun _ k => XS.bipush P163.1.here hx rfl (hb hby d_exp_328) k) ?_
        refine OGo.go (U' := T163.setTop (mkF m 332 #[.val (.int x0), .val (.int x1), .val (.int x2), .val (.int x3)] [(.int (61 : Int32)), (.int (13 : Int32)), (.ref b129), (.ref b129), (.ref b122), (.ref b122)])) (fun _ k => XS.bipush P163.1.here hx rfl (hb hby d_exp_330) k) ?_
        refine own_cst ne130 g131 sz132 hx hZ P163 20 (by decide) (by decide) (q := 13) (by decide) (x := (61 : Int32)) (j := (13 : Int32)) (by decide) (g := (mkF m 332 #[.val (.int x0), .val (.int x1), .val (.int x2), .val (.int x3)] [(.int (61 : Int32)), (.int (13 : Int32)), (.ref b129), (.ref b129), (.ref b122), (.ref b122)])) rfl (rest := [(.ref b129), (.ref b122), (.ref b122)]) rfl (hb hby d_exp_332) (fun T165 h165 L165 P165 => ?_)
        show OGo p e below _ (T165.setTop (mkF m 333 #[.val (.int x0), .val (.int x1), .val (.int x2), .val (.int x3)] [(.ref b129), (.ref b122), (.ref b122)]))
        refine OGo.go (U' := T165.setTop (mkF m 334 #[.val (.int x0), .val (.int x1), .val (.int x2), .val (.int x3)] [(.ref b129), (.ref b129), (.ref b122), (.ref b122)])) (fun _ k => XS.dup P165.1.here hx rfl (hb hby d_exp_333) rfl rfl k) ?_
        refine OGo.go (U' := T165.setTop (mkF m 336 #[.val (.int x0), .val (.int x1), .val (.int x2), .val (.int x3)] [(.int (14 : Int32)), (.ref b129), (.ref b129), (.ref b122), (.ref b122)])) (fun _ k => XS.bipush P165.1.here hx rfl (hb hby d_exp_334) k) ?_
        refine OGo.go (U' := T165.setTop (mkF m 338 #[.val (.int x0), .val (.int x1), .val (.int x2), .val (.int x3)] [(.int (34 : Int32)), (.int (14 : Int32)), (.ref b129), (.ref b129), (.ref b122), (.ref b122)])) (fun _ k => XS.bipush P165.1.here hx rfl (hb hby d_exp_336) k) ?_
        refine own_cst ne130 g131 sz132 hx hZ P165 20 (by decide) (by decide) (q := 14) (by decide) (x := (34 : Int32)) (j := (14 : Int32)) (by decide) (g := (mkF m 338 #[.val (.int x0), .val (.int x1), .val (.int x2), .val (.int x3)] [(.int (34 : Int32)), (.int (14 : Int32)), (.ref b129), (.ref b129), (.ref b122), (.ref b122)])) rfl (rest := [(.ref b129), (.ref b122), (.ref b122)]) rfl (hb hby d_exp_338) (fun T167 h167 L167 P167 => ?_)
        show OGo p e below _ (T167.setTop (mkF m 339 #[.val (.int x0), .val (.int x1), .val (.int x2), .val (.int x3)] [(.ref b129), (.ref b122), (.ref b122)]))
        refine OGo.go (U' := T167.setTop (mkF m 340 #[.val (.int x0), .val (.int x1), .val (.int x2), .val (.int x3)] [(.ref b129), (.ref b129), (.ref b122), (.ref b122)])) (fun _ k => XS.dup P167.1.here hx rfl (hb hby d_exp_339) rfl rfl k) ?_
        refine OGo.go (U' := T167.setTop (mkF m 342 #[.val (.int x0), .val (.int x1), .val (.int x2), .val (.int x3)] [(.int (15 : Int32)), (.ref b129), (.ref b129), (.ref b122), (.ref b122)])) (fun _ k => XS.bipush P167.1.here hx rfl (hb hby d_exp_340) k) ?_
        refine OGo.go (U' := T167.setTop (mkF m 343 #[.val (.int x0), .val (.int x1), .val (.int x2), .val (.int x3)] [(.int x1), (.int (15 : Int32)), (.ref b129), (.ref b129), (.ref b122), (.ref b122)])) (fun _ k => XS.iloadN P167.1.here hx rfl (hb hby d_exp_342) rfl k) ?_
        refine own_cst ne130 g131 sz132 hx hZ P167 20 (by decide) (by decide) (q := 15) (by decide) (x := x1) (j := (15 : Int32)) (by decide) (g := (mkF m 343 #[.val (.int x0), .val (.int x1), .val (.int x2), .val (.int x3)] [(.int x1), (.int (15 : Int32)), (.ref b129), (.ref b129), (.ref b122), (.ref b122)])) rfl (rest := [(.ref b129), (.ref b122), (.ref b122)]) rfl (hb hby d_exp_343) (fun T169 h169 L169 P169 => ?_)
        show OGo p e below _ (T169.setTop (mkF m 344 #[.val (.int x0), .val (.int x1), .val (.int x2), .val (.int x3)] [(.ref b129), (.ref b122), (.ref b122)]))
        refine OGo.go (U' := T169.setTop (mkF m 345 #[.val (.int x0), .val (.int x1), .val (.int x2), .val (.int x3)] [(.ref b129), (.ref b129), (.ref b122), (.ref b122)])) (fun _ k => XS.dup P169.1.here hx rfl (hb hby d_exp_344) rfl rfl k) ?_
        refine OGo.go (U' := T169.setTop (mkF m 347 #[.val (.int x0), .val (.int x1), .val (.int x2), .val (.int x3)] [(.int (16 : Int32)), (.ref b129), (.ref b129), (.ref b122), (.ref b122)])) (fun _ k => XS.bipush P169.1.here hx rfl (hb hby d_exp_345) k) ?_
        refine OGo.go (U' := T169.setTop (mkF m 348 #[.val (.int x0), .val (.int x1), .val (.int x2), .val (.int x3)] [(.int x2), (.int (16 : Int32)), (.ref b129), (.ref b129), (.ref b122), (.ref b122)])) (fun _ k => XS.iloadN P169.1.here hx rfl (hb hby d_exp_347) rfl k) ?_
        refine own_cst ne130 g131 sz132 hx hZ P169 20 (by decide) (by decide) (q := 16) (by decide) (x := x2) (j := (16 : Int32)) (by decide) (g := (mkF m 348 #[.val (.int x0), .val (.int x1), .val (.int x2), .val (.int x3)] [(.int x2), (.int (16 : Int32)), (.ref b129), (.ref b129), (.ref b122), (.ref b122)])) rfl (rest := [(.ref b129), (.ref b122), (.ref b122)]) rfl (hb hby d_exp_348) (fun T171 h171 L171 P171 => ?_)
        show OGo p e below _ (T171.setTop (mkF m 349 #[.val (.int x0), .val (.int x1), .val (.int x2), .val (.int x3)] [(.ref b129), (.ref b122), (.ref b122)]))
        refine OGo.go (U' := T171.setTop (mkF m 350 #[.val (.int x0), .val (.int x1), .val (.int x2), .val (.int x3)] [(.ref b129), (.ref b129), (.ref b122), (.ref b122)])) (fun _ k => XS.dup P171.1.here hx rfl (hb hby d_exp_349) rfl rfl k) ?_
        refine OGo.go (U' := T171.setTop (mkF m 352 #[.val (.int x0), .val (.int x1), .val (.int x2), .val (.int x3)] [(.int (17 : Int32)), (.ref b129), (.ref b129), (.ref b122), (.ref b122)])) (fun _ k => XS.bipush P171.1.here hx rfl (hb hby d_exp_350) k) ?_
        refine OGo.go (U' := T171.setTop (mkF m 354 #[.val (.int x0), .val (.int x1), .val (.int x2), .val (.int x3)] [(.int (34 : Int32)), (.int (17 : Int32)), (.ref b129), (.ref b129), (.ref b122), (.ref b122)])) (fun _ k => XS.bipush P171.1.here hx rfl (hb hby d_exp_352) k) ?_
        refine own_cst ne130 g131 sz132 hx hZ P171 20 (by decide) (by decide) (q := 17) (by decide) (x := (34 : Int32)) (j := (17 : Int32)) (by decide) (g := (mkF m 354 #[.val (.int x0), .val (.int x1), .val (.int x2), .val (.int x3)] [(.int (34 : Int32)), (.int (17 : Int32)), (.ref b129), (.ref b129), (.ref b122), (.ref b122)])) rfl (rest := [(.ref b129), (.ref b122), (.ref b122)]) rfl (hb hby d_exp_354) (fun T173 h173 L173 P173 => ?_)
        show OGo p e below _ (T173.setTop (mkF m 355 #[.val (.int x0), .val (.int x1), .val (.int x2), .val (.int x3)] [(.ref b129), (.ref b122), (.ref b122)]))
        refine OGo.go (U' := T173.setTop (mkF m 356 #[.val (.int x0), .val (.int x1), .val (.int x2), .val (.int x3)] [(.ref b129), (.ref b129), (.ref b122), (.ref b122)])) (fun _ k => XS.dup P173.1.here hx rfl (hb hby d_exp_355) rfl rfl k) ?_
        refine OGo.go (U' := T173.setTop (mkF m 358 #[.val (.int x0), .val (.int x1), .val (.int x2), .val (.int x3)] [(.int (18 : Int32)), (.ref b129), (.ref b129), (.ref b122), (.ref b122)])) (fun _ k => XS.bipush P173.1.here hx rfl (hb hby d_exp_356) k) ?_
        refine OGo.go (U' := T173.setTop (mkF m 360 #[.val (.int x0), .val (.int x1), .val (.int x2), .val (.int x3)] [(.int (63 : Int32)), (.int (18 : Int32)), (.ref b129), (.ref b129), (.ref b122), (.ref b122)])) (fun _ k => XS.bipush P173.1.here hx rfl (hb hby d_exp_358) k) ?_
        refine own_cst ne130 g131 sz132 hx hZ P173 20 (by decide) (by decide) (q := 18) (by decide) (x := (63 : Int32)) (j := (18 : Int32)) (by decide) (g := (mkF m 360 #[.val (.int x0), .val (.int x1), .val (.int x2), .val (.int x3)] [(.int (63 : Int32)), (.int (18 : Int32)), (.ref b129), (.ref b129), (.ref b122), (.ref b122)])) rfl (rest := [(.ref b129), (.ref b122), (.ref b122)]) rfl (hb hby d_exp_360) (fun T175 h175 L175 P175 => ?_)
        show OGo p e below _ (T175.setTop (mkF m 361 #[.val (.int x0), .val (.int x1), .val (.int x2), .val (.int x3)] [(.ref b129), (.ref b122), (.ref b122)]))
        refine OGo.go (U' := T175.setTop (mkF m 362 #[.val (.int x0), .val (.int x1), .val (.int x2), .val (.int x3)] [(.ref b129), (.ref b129), (.ref b122), (.ref b122)])) (fun _ k => XS.dup P175.1.here hx rfl (hb hby d_exp_361) rfl rfl k) ?_
        refine OGo.go (U' := T175.setTop (mkF m 364 #[.val (.int x0), .val (.int x1), .val (.int x2), .val (.int x3)] [(.int (19 : Int32)), (.ref b129), (.ref b129), (.ref b122), (.ref b122)])) (fun _ k => XS.bipush P175.1.here hx rfl (hb hby d_exp_362) k) ?_
        refine OGo.go (U' := T175.setTop (mkF m 366 #[.val (.int x0), .val (.int x1), .val (.int x2), .val (.int x3)] [(.int (62 : Int32)), (.int (19 : Int32)), (.ref b129), (.ref b129), (.ref b122), (.ref b122)])) (fun _ k => XS.bipush P175.1.here hx rfl (hb hby d_exp_364) k) ?_
        refine own_cst ne130 g131 sz132 hx hZ P175 20 (by decide) (by decide) (q := 19) (by decide) (x := (62 : Int32)) (j := (19 : Int32)) (by decide) (g := (mkF m 366 #[.val (.int x0), .val (.int x1), .val (.int x2), .val (.int x3)] [(.int (62 : Int32)), (.int (19 : Int32)), (.ref b129), (.ref b129), (.ref b122), (.ref b122)])) rfl (rest := [(.ref b129), (.ref b122), (.ref b122)]) rfl (hb hby d_exp_366) (fun T177 h177 L177 P177 => ?_)
        show OGo p e below _ (T177.setTop (mkF m 367 #[.val (.int x0), .val (.int x1), .val (.int x2), .val (.int x3)] [(.ref b129), (.ref b122), (.ref b122)]))
        obtain ⟨X177, e177, N177, K177, z177, Es177, fv177, fc177, S177, A177, -⟩ := P177
        simp only [List.nil_append, List.cons_append] at A177
        refine OGo.callI X177 hx hZ (y := (⟨"java/lang/String", "<init>", "([C)V"⟩ : MethodName)) rfl hown (hw _ (List.mem_of_getElem? (i := 8) rfl)) (hw _ (List.mem_of_getElem? (i := 9) rfl)) (hw _ (List.mem_of_getElem? (i := 6) rfl)) (hw _ (List.mem_of_getElem? (i := 10) rfl)) (by decide) (g := (mkF m 367 #[.val (.int x0), .val (.int x1), .val (.int x2), .val (.int x3)] [(.ref b129), (.ref b122), (.ref b122)])) (a := b122) (argsL := [(.ref b129)]) (rest := [(.ref b122)]) e177 (rm_si1 l Z a0 hw b122 b129 [(nar .char (60 : Int32)), (nar .char (63 : Int32)), (nar .char (120 : Int32)), (nar .char (109 : Int32)), (nar .char (108 : Int32)), (nar .char (32 : Int32)), (nar .char (118 : Int32)), (nar .char (101 : Int32)), (nar .char (114 : Int32)), (nar .char (115 : Int32)), (nar .char (105 : Int32)), (nar .char (111 : Int32)), (nar .char (110 : Int32)), (nar .char (61 : Int32)), (nar .char (34 : Int32)), (nar .char x1), (nar .char x2), (nar .char (34 : Int32)), (nar .char (63 : Int32)), (nar .char (62 : Int32))] .null (.int (0 : Int32)) k129 cs n0 h177 z177 Es177 fv177 fc177 g123 ne130 A177 (own_uS (show ¬ (255 : Int32) < (nar .char (60 : Int32)) from (by decide)) (own_uS (show ¬ (255 : Int32) < (nar .char (63 : Int32)) from (by decide)) (own_uS (show ¬ (255 : Int32) < (nar .char (120 : Int32)) from (by decide)) (own_uS (show ¬ (255 : Int32) < (nar .char (109 : Int32)) from (by decide)) (own_uS (show ¬ (255 : Int32) < (nar .char (108 : Int32)) from (by decide)) (own_uS (show ¬ (255 : Int32) < (nar .char (32 : Int32)) from (by decide)) (own_uS (show ¬ (255 : Int32) < (nar .char (118 : Int32)) from (by decide)) (own_uS (show ¬ (255 : Int32) < (nar .char (101 : Int32)) from (by decide)) (own_uS (show ¬ (255 : Int32) < (nar .char (114 : Int32)) from (by decide)) (own_uS (show ¬ (255 : Int32) < (nar .char (115 : Int32)) from (by decide)) (own_uS (show ¬ (255 : Int32) < (nar .char (105 : Int32)) from (by decide)) (own_uS (show ¬ (255 : Int32) < (nar .char (111 : Int32)) from (by decide)) (own_uS (show ¬ (255 : Int32) < (nar .char (110 : Int32)) from (by decide)) (own_uS (show ¬ (255 : Int32) < (nar .char (61 : Int32)) from (by decide)) (own_uS (show ¬ (255 : Int32) < (nar .char (34 : Int32)) from (by decide)) (own_uS (show ¬ (255 : Int32) < (nar .char x1) from hv1) (own_uS (show ¬ (255 : Int32) < (nar .char x2) from hv2) (own_uS (show ¬ (255 : Int32) < (nar .char (34 : Int32)) from (by decide)) (own_uS (show ¬ (255 : Int32) < (nar .char (63 : Int32)) from (by decide)) (own_uS (show ¬ (255 : Int32) < (nar .char (62 : Int32)) from (by decide)) own_u0)))))))))))))))))))) (show 1 ≤ 20 from by decide) (show 20 ≤ 24 from by decide) S177 hcs) rfl (by rw [hml]; rfl) (lenOf pd_23 rfl) rfl (W := 1) (by show 2 * 0 + _ ≤ _; exact Nat.le_of_eq rfl) (hb hby d_exp_367) (by decide) (by decide) (by decide) (by decide) ?_
        rintro _ T178 L178 X178 ⟨rfl, N178, K178, Es178, sc178, b178, k178, sv178, A178, gb178⟩
        have e178 : T178.heap = T178.heap := rfl
        have N179 := Fr.app N177 N178
        have f180 := own_sta_keep S177 K178 (allS (P := fun x => ∀ cell : Cell, _ → cell.vm.isStatics = false) (own_plain Es177) all0)
        have f181 := Es177.keep K178
        have f182 := A177.keep K178 (ninS (Ne.symm ne130) nin0)
        have K183 := K177.trans K178 (allS (P := fun x => x ∈ _ ∨ _ ≤ x) (Or.inr sz124) all0)
        have sz178 := Nat.le_trans K177.1 gb178
        show OGo p e below _ (T178.setTop (mkF m 370 #[.val (.int x0), .val (.int x1), .val (.int x2), .val (.int x3)] [(.ref b122)]))
        refine OGo.retA X178 hx hret hlk rfl rfl (hb hby d_exp_370) ?_ (by decide) (by decide)
        rw [e178]
        refine ⟨b122, b178, k178, rfl, N179, K183, Es178, sc178, sv178, ?_, sz124, sz178⟩
        rw [own_elist_20 hc1 hc60 hc121]
        exact A178
      · skip
        refine OGo.go (U' := T0.setTop (mkF m 371 #[.val (.int x0), .val (.int x1), .val (.int x2), .val (.int x3)] [])) (fun _ k => XS.icmpYes X0.here hx rfl (pc0 := 244) (pc' := 371) rfl (hb hby d_exp_244) rfl (feq hc121).2 (by decide) (by decide) k) ?_
        obtain ⟨T184, h184, X184, e184, E184, A184, D184, -, st184⟩ := newO X0 hx hZ hown (hw _ (List.mem_of_getElem? (i := 4) rfl)) (hw _ (List.mem_of_getElem? (i := 5) rfl)) (hw _ (List.mem_of_getElem? (i := 6) rfl)) e0 (g := (mkF m 371 #[.val (.int x0), .val (.int x1), .val (.int x2), .val (.int x3)] [])) rfl (hb hby d_exp_371) (by decide) (by decide)
        obtain ⟨b184, gb184⟩ : ∃ z, z = h0.size := ⟨_, rfl⟩
        rw [← gb184] at A184 D184 st184
        have g185 : n0 ≤ b184 := Nat.le_trans Z0 (Nat.le_of_eq gb184.symm)
        have sz186 := Nat.le_trans (Keep.refl h0 []).1 (Nat.le_of_eq gb184.symm)
        have f187 := S0.ext E184
        have K188 := (Keep.refl h0 []).ext E184
        have f189 : Fld Z h184 b184 "java/lang/String" "value" "[B" .null := D184 (Or.inr (hw _ (List.mem_of_getElem? (i := 20) rfl))) (ty := (.array .byte)) (by decide)
        have f190 : Fld Z h184 b184 "java/lang/String" "coder" "B" (.int (0 : Int32)) := D184 (Or.inr (hw _ (List.mem_of_getElem? (i := 21) rfl))) (ty := .byte) (by decide)
        refine OGo.go (U' := T184.setTop (mkF m 374 #[.val (.int x0), .val (.int x1), .val (.int x2), .val (.int x3)] [(.ref b184)])) st184 ?_
        refine OGo.go (U' := T184.setTop (mkF m 375 #[.val (.int x0), .val (.int x1), .val (.int x2), .val (.int x3)] [(.ref b184), (.ref b184)])) (fun _ k => XS.dup X184.here hx rfl (hb hby d_exp_374) rfl rfl k) ?_
        refine OGo.go (U' := T184.setTop (mkF m 377 #[.val (.int x0), .val (.int x1), .val (.int x2), .val (.int x3)] [(.int (21 : Int32)), (.ref b184), (.ref b184)])) (fun _ k => XS.bipush X184.here hx rfl (hb hby d_exp_375) k) ?_
        obtain ⟨T191, h191, k191, X191, e191, E191, A191, st191⟩ := newP X184 hx hZ (hw _ (List.mem_of_getElem? (i := 7) rfl)) e184 (g := (mkF m 377 #[.val (.int x0), .val (.int x1), .val (.int x2), .val (.int x3)] [(.int (21 : Int32)), (.ref b184), (.ref b184)])) rfl (hb hby d_exp_377) rfl (n := 21) (by decide) (cap := 21) (by decide) (by decide) (by decide) (by decide)
        obtain ⟨b191, gb191⟩ : ∃ z, z = h184.size := ⟨_, rfl⟩
        rw [← gb191] at A191 st191
        have ne192 : b184 ≠ b191 := Nat.ne_of_lt (Nat.lt_of_lt_of_le A184.lt (Nat.le_of_eq gb191.symm))
        have g193 : n0 ≤ b191 := Nat.le_trans (Nat.le_trans Z0 E184.1) (Nat.le_of_eq gb191.symm)
        have sz194 := Nat.le_trans K188.1 (Nat.le_of_eq gb191.symm)
        have f195 := f187.ext E191
        have f196 := A184.ext E191
        have f197 := f189.ext E191
        have f198 := f190.ext E191
        have K199 := K188.ext E191
        have V191 : Arv Z h191 b191 k191 .char 21 [] (.int 0) := Arv.new A191 (by decide)
        refine OGo.go (U' := T191.setTop (mkF m 379 #[.val (.int x0), .val (.int x1), .val (.int x2), .val (.int x3)] [(.ref b191), (.ref b184), (.ref b184)])) st191 ?_
        refine OGo.go (U' := T191.setTop (mkF m 380 #[.val (.int x0), .val (.int x1), .val (.int x2), .val (.int x3)] [(.ref b191), (.ref b191), (.ref b184), (.ref b184)])) (fun _ k => XS.dup X191.here hx rfl (hb hby d_exp_379) rfl rfl k) ?_
        refine OGo.go (U' := T191.setTop (mkF m 381 #[.val (.int x0), .val (.int x1), .val (.int x2), .val (.int x3)] [(.int (0 : Int32)), (.ref b191), (.ref b191), (.ref b184), (.ref b184)])) (fun _ k => XS.iconst X191.here hx rfl (hb hby d_exp_380) k) ?_
        refine OGo.go (U' := T191.setTop (mkF m 383 #[.val (.int x0), .val (.int x1), .val (.int x2), .val (.int x3)] [(.int (60 : Int32)), (.int (0 : Int32)), (.ref b191), (.ref b191), (.ref b184), (.ref b184)])) (fun _ k => XS.bipush X191.here hx rfl (hb hby d_exp_381) k) ?_
        have P200 : CPk p l e _ s m _ below meth c _ _ Z n0 h0 b184 b191 k191 21 cs _ _ T191 h191 _ 0 [] := ⟨X191, e191, (Fr.nil n0), K199, (Nat.le_trans (Nat.le_trans Z0 E184.1) E191.1), f196, f197, f198, f195, V191, rfl⟩
        refine own_cst ne192 g193 sz194 hx hZ P200 21 (by decide) (by decide) (q := 0) (by decide) (x := (60 : Int32)) (j := (0 : Int32)) (by decide) (g := (mkF m 383 #[.val (.int x0), .val (.int x1), .val (.int x2), .val (.int x3)] [(.int (60 : Int32)), (.int (0 : Int32)), (.ref b191), (.ref b191), (.ref b184), (.ref b184)])) rfl (rest := [(.ref b191), (.ref b184), (.ref b184)]) rfl (hb hby d_exp_383) (fun T201 h201 L201 P201 => ?_)
        show OGo p e below _ (T201.setTop (mkF m 384 #[.val (.int x0), .val (.int x1), .val (.int x2), .val (.int x3)] [(.ref b191), (.ref b184), (.ref b184)]))
        refine OGo.go (U' := T201.setTop (mkF m 385 #[.val (.int x0), .val (.int x1), .val (.int x2), .val (.int x3)] [(.ref b191), (.ref b191), (.ref b184), (.ref b184)])) (fun _ k => XS.dup P201.1.here hx rfl (hb hby d_exp_384) rfl rfl k) ?_
        refine OGo.go (U' := T201.setTop (mkF m 386 #[.val (.int x0), .val (.int x1), .val (.int x2), .val (.int x3)] [(.int (1 : Int32)), (.ref b191), (.ref b191), (.ref b184), (.ref b184)])) (fun _ k => XS.iconst P201.1.here hx rfl (hb hby d_exp_385) k) ?_
        refine OGo.go (U' := T201.setTop (mkF m 388 #[.val (.int x0), .val (.int x1), .val (.int x2), .val (.int x3)] [(.int (63 : Int32)), (.int (1 : Int32)), (.ref b191), (.ref b191), (.ref b184), (.ref b184)])) (fun _ k => XS.bipush P201.1.here hx rfl (hb hby d_exp_386) k) ?_
        refine own_cst ne192 g193 sz194 hx hZ P201 21 (by decide) (by decide) (q := 1) (by decide) (x := (63 : Int32)) (j := (1 : Int32)) (by decide) (g := (mkF m 388 #[.val (.int x0), .val (.int x1), .val (.int x2), .val (.int x3)] [(.int (63 : Int32)), (.int (1 : Int32)), (.ref b191), (.ref b191), (.ref b184), (.ref b184)])) rfl (rest := [(.ref b191), (.ref b184), (.ref b184)]) rfl (hb hby d_exp_388) (fun T203 h203 L203 P203 => ?_)
        show OGo p e below _ (T203.setTop (mkF m 389 #[.val (.int x0), .val (.int x1), .val (.int x2), .val (.int x3)] [(.ref b191), (.ref b184), (.ref b184)]))
        refine OGo.go (U' := T203.setTop (mkF m 390 #[.val (.int x0), .val (.int x1), .val (.int x2), .val (.int x3)] [(.ref b191), (.ref b191), (.ref b184), (.ref b184)])) (fun _ k => XS.dup P203.1.here hx rfl (hb hby d_exp_389) rfl rfl k) ?_
        refine OGo.go (U' := T203.setTop (mkF m 391 #[.val (.int x0), .val (.int x1), .val (.int x2), .val (.int x3)] [(.int (2 : Int32)), (.ref b191), (.ref b191), (.ref b184), (.ref b184)])) (fun _ k => XS.iconst P203.1.here hx rfl (hb hby d_exp_390) k) ?_
        refine OGo.go (U' := T203.setTop (mkF m 393 #[.val (.int x0), .val (.int x1), .val (.int x2), .val (.int x3)] [(.int (120 : Int32)), (.int (2 : Int32)), (.ref b191), (.ref b191), (.ref b184), (.ref b184)])) (fun _ k => XS.bipush P203.1.here hx rfl (hb hby d_exp_391) k) ?_
        refine own_cst ne192 g193 sz194 hx hZ P203 21 (by decide) (by decide) (q := 2) (by decide) (x := (120 : Int32)) (j := (2 : Int32)) (by decide) (g := (mkF m 393 #[.val (.int x0), .val (.int x1), .val (.int x2), .val (.int x3)] [(.int (120 : Int32)), (.int (2 : Int32)), (.ref b191), (.ref b191), (.ref b184), (.ref b184)])) rfl (rest := [(.ref b191), (.ref b184), (.ref b184)]) rfl (hb hby d_exp_393) (fun T205 h205 L205 P205 => ?_)
        show OGo p e below _ (T205.setTop (mkF m 394 #[.val (.int x0), .val (.int x1), .val (.int x2), .val (.int x3)] [(.ref b191), (.ref b184), (.ref b184)]))
        refine OGo.go (U' := T205.setTop (mkF m 395 #[.val (.int x0), .val (.int x1), .val (.int x2), .val (.int x3)] [(.ref b191), (.ref b191), (.ref b184), (.ref b184)])) (fun _ k => XS.dup P205.1.here hx rfl (hb hby d_exp_394) rfl rfl k) ?_
        refine OGo.go (U' := T205.setTop (mkF m 396 #[.val (.int x0), .val (.int x1), .val (.int x2), .val (.int x3)] [(.int (3 : Int32)), (.ref b191), (.ref b191), (.ref b184), (.ref b184)])) (fun _ k => XS.iconst P205.1.here hx rfl (hb hby d_exp_395) k) ?_
        refine OGo.go (U' := T205.setTop (mkF m 398 #[.val (.int x0), .val (.int x1), .val (.int x2), .val (.int x3)] [(.int (109 : Int32)), (.int (3 : Int32)), (.ref b191), (.ref b191), (.ref b184), (.ref b184)])) (fun _ k => XS.bipush P205.1.here hx rfl (hb hby d_exp_396) k) ?_
        refine own_cst ne192 g193 sz194 hx hZ P205 21 (by decide) (by decide) (q := 3) (by decide) (x := (109 : Int32)) (j := (3 : Int32)) (by decide) (g := (mkF m 398 #[.val (.int x0), .val (.int x1), .val (.int x2), .val (.int x3)] [(.int (109 : Int32)), (.int (3 : Int32)), (.ref b191), (.ref b191), (.ref b184), (.ref b184)])) rfl (rest := [(.ref b191), (.ref b184), (.ref b184)]) rfl (hb hby d_exp_398) (fun T207 h207 L207 P207 => ?_)
        show OGo p e below _ (T207.setTop (mkF m 399 #[.val (.int x0), .val (.int x1), .val (.int x2), .val (.int x3)] [(.ref b191), (.ref b184), (.ref b184)]))
        refine OGo.go (U' := T207.setTop (mkF m 400 #[.val (.int x0), .val (.int x1), .val (.int x2), .val (.int x3)] [(.ref b191), (.ref b191), (.ref b184), (.ref b184)])) (fun _ k => XS.dup P207.1.here hx rfl (hb hby d_exp_399) rfl rfl k) ?_
        refine OGo.go (U' := T207.setTop (mkF m 401 #[.val (.int x0), .val (.int x1), .val (.int x2), .val (.int x3)] [(.int (4 : Int32)), (.ref b191), (.ref b191), (.ref b184), (.ref b184)])) (fun _ k => XS.iconst P207.1.here hx rfl (hb hby d_exp_400) k) ?_
        refine OGo.go (U' := T207.setTop (mkF m 403 #[.val (.int x0), .val (.int x1), .val (.int x2), .val (.int x3)] [(.int (108 : Int32)), (.int (4 : Int32)), (.ref b191), (.ref b191), (.ref b184), (.ref b184)])) (fun _ k => XS.bipush P207.1.here hx rfl (hb hby d_exp_401) k) ?_
        refine own_cst ne192 g193 sz194 hx hZ P207 21 (by decide) (by decide) (q := 4) (by decide) (x := (108 : Int32)) (j := (4 : Int32)) (by decide) (g := (mkF m 403 #[.val (.int x0), .val (.int x1), .val (.int x2), .val (.int x3)] [(.int (108 : Int32)), (.int (4 : Int32)), (.ref b191), (.ref b191), (.ref b184), (.ref b184)])) rfl (rest := [(.ref b191), (.ref b184), (.ref b184)]) rfl (hb hby d_exp_403) (fun T209 h209 L209 P209 => ?_)
        show OGo p e below _ (T209.setTop (mkF m 404 #[.val (.int x0), .val (.int x1), .val (.int x2), .val (.int x3)] [(.ref b191), (.ref b184), (.ref b184)]))
        refine OGo.go (U' := T209.setTop (mkF m 405 #[.val (.int x0), .val (.int x1), .val (.int x2), .val (.int x3)] [(.ref b191), (.ref b191), (.ref b184), (.ref b184)])) (fun _ k => XS.dup P209.1.here hx rfl (hb hby d_exp_404) rfl rfl k) ?_
        refine OGo.go (U' := T209.setTop (mkF m 406 #[.val (.int x0), .val (.int x1), .val (.int x2), .val (.int x3)] [(.int (5 : Int32)), (.ref b191), (.ref b191), (.ref b184), (.ref b184)])) (fun _ k => XS.iconst P209.1.here hx rfl (hb hby d_exp_405) k) ?_
        refine OGo.go (U' := T209.setTop (mkF m 408 #[.val (.int x0), .val (.int x1), .val (.int x2), .val (.int x3)] [(.int (32 : Int32)), (.int (5 : Int32)), (.ref b191), (.ref b191), (.ref b184), (.ref b184)])) (fun _ k => XS.bipush P209.1.here hx rfl (hb hby d_exp_406) k) ?_
        refine own_cst ne192 g193 sz194 hx hZ P209 21 (by decide) (by decide) (q := 5) (by decide) (x := (32 : Int32)) (j := (5 : Int32)) (by decide) (g := (mkF m 408 #[.val (.int x0), .val (.int x1), .val (.int x2), .val (.int x3)] [(.int (32 : Int32)), (.int (5 : Int32)), (.ref b191), (.ref b191), (.ref b184), (.ref b184)])) rfl (rest := [(.ref b191), (.ref b184), (.ref b184)]) rfl (hb hby d_exp_408) (fun T211 h211 L211 P211 => ?_)
        show OGo p e below _ (T211.setTop (mkF m 409 #[.val (.int x0), .val (.int x1), .val (.int x2), .val (.int x3)] [(.ref b191), (.ref b184), (.ref b184)]))
        refine OGo.go (U' := T211.setTop (mkF m 410 #[.val (.int x0), .val (.int x1), .val (.int x2), .val (.int x3)] [(.ref b191), (.ref b191), (.ref b184), (.ref b184)])) (fun _ k => XS.dup P211.1.here hx rfl (hb hby d_exp_409) rfl rfl k) ?_
        refine OGo.go (U' := T211.setTop (mkF m 412 #[.val (.int x0), .val (.int x1), .val (.int x2), .val (.int x3)] [(.int (6 : Int32)), (.ref b191), (.ref b191), (.ref b184), (.ref b184)])) (fun _ k => XS.bipush P211.1.here hx rfl (hb hby d_exp_410) k) ?_
        refine OGo.go (U' := T211.setTop (mkF m 414 #[.val (.int x0), .val (.int x1), .val (.int x2), .val (.int x3)] [(.int (118 : Int32)), (.int (6 : Int32)), (.ref b191), (.ref b191), (.ref b184), (.ref b184)])) (fun _ k => XS.bipush P211.1.here hx rfl (hb hby d_exp_412) k) ?_
        refine own_cst ne192 g193 sz194 hx hZ P211 21 (by decide) (by decide) (q := 6) (by decide) (x := (118 : Int32)) (j := (6 : Int32)) (by decide) (g := (mkF m 414 #[.val (.int x0), .val (.int x1), .val (.int x2), .val (.int x3)] [(.int (118 : Int32)), (.int (6 : Int32)), (.ref b191), (.ref b191), (.ref b184), (.ref b184)])) rfl (rest := [(.ref b191), (.ref b184), (.ref b184)]) rfl (hb hby d_exp_414) (fun T213 h213 L213 P213 => ?_)
        show OGo p e below _ (T213.setTop (mkF m 415 #[.val (.int x0), .val (.int x1), .val (.int x2), .val (.int x3)] [(.ref b191), (.ref b184), (.ref b184)]))
        refine OGo.go (U' := T213.setTop (mkF m 416 #[.val (.int x0), .val (.int x1), .val (.int x2), .val (.int x3)] [(.ref b191), (.ref b191), (.ref b184), (.ref b184)])) (fun _ k => XS.dup P213.1.here hx rfl (hb hby d_exp_415) rfl rfl k) ?_
        refine OGo.go (U' := T213.setTop (mkF m 418 #[.val (.int x0), .val (.int x1), .val (.int x2), .val (.int x3)] [(.int (7 : Int32)), (.ref b191), (.ref b191), (.ref b184), (.ref b184)])) (fun _ k => XS.bipush P213.1.here hx rfl (hb hby d_exp_416) k) ?_
        refine OGo.go (U' := T213.setTop (mkF m 420 #[.val (.int x0), .val (.int x1), .val (.int x2), .val (.int x3)] [(.int (101 : Int32)), (.int (7 : Int32)), (.ref b191), (.ref b191), (.ref b184), (.ref b184)])) (fun _ k => XS.bipush P213.1.here hx rfl (hb hby d_exp_418) k) ?_
        refine own_cst ne192 g193 sz194 hx hZ P213 21 (by decide) (by decide) (q := 7) (by decide) (x := (101 : Int32)) (j := (7 : Int32)) (by decide) (g := (mkF m 420 #[.val (.int x0), .val (.int x1), .val (.int x2), .val (.int x3)] [(.int (101 : Int32)), (.int (7 : Int32)), (.ref b191), (.ref b191), (.ref b184), (.ref b184)])) rfl (rest := [(.ref b191), (.ref b184), (.ref b184)]) rfl (hb hby d_exp_420) (fun T215 h215 L215 P215 => ?_)
        show OGo p e below _ (T215.setTop (mkF m 421 #[.val (.int x0), .val (.int x1), .val (.int x2), .val (.int x3)] [(.ref b191), (.ref b184), (.ref b184)]))
        refine OGo.go (U' := T215.setTop (mkF m 422 #[.val (.int x0), .val (.int x1), .val (.int x2), .val (.int x3)] [(.ref b191), (.ref b191), (.ref b184), (.ref b184)])) (fun _ k => XS.dup P215.1.here hx rfl (hb hby d_exp_421) rfl rfl k) ?_
        refine OGo.go (U' := T215.setTop (mkF m 424 #[.val (.int x0), .val (.int x1), .val (.int x2), .val (.int x3)] [(.int (8 : Int32)), (.ref b191), (.ref b191), (.ref b184), (.ref b184)])) (fun _ k => XS.bipush P215.1.here hx rfl (hb hby d_exp_422) k) ?_
        refine OGo.go (U' := T215.setTop (mkF m 426 #[.val (.int x0), .val (.int x1), .val (.int x2), .val (.int x3)] [(.int (114 : Int32)), (.int (8 : Int32)), (.ref b191), (.ref b191), (.ref b184), (.ref b184)])) (fun _ k => XS.bipush P215.1.here hx rfl (hb hby d_exp_424) k) ?_
        refine own_cst ne192 g193 sz194 hx hZ P215 21 (by decide) (by decide) (q := 8) (by decide) (x := (114 : Int32)) (j := (8 : Int32)) (by decide) (g := (mkF m 426 #[.val (.int x0), .val (.int x1), .val (.int x2), .val (.int x3)] [(.int (114 : Int32)), (.int (8 : Int32)), (.ref b191), (.ref b191), (.ref b184), (.ref b184)])) rfl (rest := [(.ref b191), (.ref b184), (.ref b184)]) rfl (hb hby d_exp_426) (fun T217 h217 L217 P217 => ?_)
        show OGo p e below _ (T217.setTop (mkF m 427 #[.val (.int x0), .val (.int x1), .val (.int x2), .val (.int x3)] [(.ref b191), (.ref b184), (.ref b184)]))
        refine OGo.go (U' := T217.setTop (mkF m 428 #[.val (.int x0), .val (.int x1), .val (.int x2), .val (.int x3)] [(.ref b191), (.ref b191), (.ref b184), (.ref b184)])) (fun _ k => XS.dup P217.1.here hx rfl (hb hby d_exp_427) rfl rfl k) ?_
        refine OGo.go (U' := T217.setTop (mkF m 430 #[.val (.int x0), .val (.int x1), .val (.int x2), .val (.int x3)] [(.int (9 : Int32)), (.ref b191), (.ref b191), (.ref b184), (.ref b184)])) (fun _ k => XS.bipush P217.1.here hx rfl (hb hby d_exp_428) k) ?_
        refine OGo.go (U' := T217.setTop (mkF m 432 #[.val (.int x0), .val (.int x1), .val (.int x2), .val (.int x3)] [(.int (115 : Int32)), (.int (9 : Int32)), (.ref b191), (.ref b191), (.ref b184), (.ref b184)])) (fun _ k => XS.bipush P217.1.here hx rfl (hb hby d_exp_430) k) ?_
        refine own_cst ne192 g193 sz194 hx hZ P217 21 (by decide) (by decide) (q := 9) (by decide) (x := (115 : Int32)) (j := (9 : Int32)) (by decide) (g := (mkF m 432 #[.val (.int x0), .val (.int x1), .val (.int x2), .val (.int x3)] [(.int (115 : Int32)), (.int (9 : Int32)), (.ref b191), (.ref b191), (.ref b184), (.ref b184)])) rfl (rest := [(.ref b191), (.ref b184), (.ref b184)]) rfl (hb hby d_exp_432) (fun T219 h219 L219 P219 => ?_)
        show OGo p e below _ (T219.setTop (mkF m 433 #[.val (.int x0), .val (.int x1), .val (.int x2), .val (.int x3)] [(.ref b191), (.ref b184), (.ref b184)]))
        refine OGo.go (U' := T219.setTop (mkF m 434 #[.val (.int x0), .val (.int x1), .val (.int x2), .val (.int x3)] [(.ref b191), (.ref b191), (.ref b184), (.ref b184)])) (fun _ k => XS.dup P219.1.here hx rfl (hb hby d_exp_433) rfl rfl k) ?_
        refine OGo.go (U' := T219.setTop (mkF m 436 #[.val (.int x0), .val (.int x1), .val (.int x2), .val (.int x3)] [(.int (10 : Int32)), (.ref b191), (.ref b191), (.ref b184), (.ref b184)])) (fun _ k => XS.bipush P219.1.here hx rfl (hb hby d_exp_434) k) ?_
        refine OGo.go (U' := T219.setTop (mkF m 438 #[.val (.int x0), .val (.int x1), .val (.int x2), .val (.int x3)] [(.int (105 : Int32)), (.int (10 : Int32)), (.ref b191), (.ref b191), (.ref b184), (.ref b184)])) (fun _ k => XS.bipush P219.1.here hx rfl (hb hby d_exp_436) k) ?_
        refine own_cst ne192 g193 sz194 hx hZ P219 21 (by decide) (by decide) (q := 10) (by decide) (x := (105 : Int32)) (j := (10 : Int32)) (by decide) (g := (mkF m 438 #[.val (.int x0), .val (.int x1), .val (.int x2), .val (.int x3)] [(.int (105 : Int32)), (.int (10 : Int32)), (.ref b191), (.ref b191), (.ref b184), (.ref b184)])) rfl (rest := [(.ref b191), (.ref b184), (.ref b184)]) rfl (hb hby d_exp_438) (fun T221 h221 L221 P221 => ?_)
        show OGo p e below _ (T221.setTop (mkF m 439 #[.val (.int x0), .val (.int x1), .val (.int x2), .val (.int x3)] [(.ref b191), (.ref b184), (.ref b184)]))
        refine OGo.go (U' := T221.setTop (mkF m 440 #[.val (.int x0), .val (.int x1), .val (.int x2), .val (.int x3)] [(.ref b191), (.ref b191), (.ref b184), (.ref b184)])) (fun _ k => XS.dup P221.1.here hx rfl (hb hby d_exp_439) rfl rfl k) ?_
        refine OGo.go (U' := T221.setTop (mkF m 442 #[.val (.int x0), .val (.int x1), .val (.int x2), .val (.int x3)] [(.int (11 : Int32)), (.ref b191), (.ref b191), (.ref b184), (.ref b184)])) (fun _ k => XS.bipush P221.1.here hx rfl (hb hby d_exp_440) k) ?_
        refine OGo.go (U' := T221.setTop (mkF m 444 #[.val (.int x0), .val (.int x1), .val (.int x2), .val (.int x3)] [(.int (111 : Int32)), (.int (11 : Int32)), (.ref b191), (.ref b191), (.ref b184), (.ref b184)])) (fun _ k => XS.bipush P221.1.here hx rfl (hb hby d_exp_442) k) ?_
        refine own_cst ne192 g193 sz194 hx hZ P221 21 (by decide) (by decide) (q := 11) (by decide) (x := (111 : Int32)) (j := (11 : Int32)) (by decide) (g := (mkF m 444 #[.val (.int x0), .val (.int x1), .val (.int x2), .val (.int x3)] [(.int (111 : Int32)), (.int (11 : Int32)), (.ref b191), (.ref b191), (.ref b184), (.ref b184)])) rfl (rest := [(.ref b191), (.ref b184), (.ref b184)]) rfl (hb hby d_exp_444) (fun T223 h223 L223 P223 => ?_)
        show OGo p e below _ (T223.setTop (mkF m 445 #[.val (.int x0), .val (.int x1), .val (.int x2), .val (.int x3)] [(.ref b191), (.ref b184), (.ref b184)]))
        refine OGo.go (U' := T223.setTop (mkF m 446 #[.val (.int x0), .val (.int x1), .val (.int x2), .val (.int x3)] [(.ref b191), (.ref b191), (.ref b184), (.ref b184)])) (fun _ k => XS.dup P223.1.here hx rfl (hb hby d_exp_445) rfl rfl k) ?_
        refine OGo.go (U' := T223.setTop (mkF m 448 #[.val (.int x0), .val (.int x1), .val (.int x2), .val (.int x3)] [(.int (12 : Int32)), (.ref b191), (.ref b191), (.ref b184), (.ref b184)])) (fun _ k => XS.bipush P223.1.here hx rfl (hb hby d_exp_446) k) ?_
        refine OGo.go (U' := T223.setTop (mkF m 450 #[.val (.int x0), .val (.int x1), .val (.int x2), .val (.int x3)] [(.int (110 : Int32)), (.int (12 : Int32)), (.ref b191), (.ref b191), (.ref b184), (.ref b184)])) (fun _ k => XS.bipush P223.1.here hx rfl (hb hby d_exp_448) k) ?_
        refine own_cst ne192 g193 sz194 hx hZ P223 21 (by decide) (by decide) (q := 12) (by decide) (x := (110 : Int32)) (j := (12 : Int32)) (by decide) (g := (mkF m 450 #[.val (.int x0), .val (.int x1), .val (.int x2), .val (.int x3)] [(.int (110 : Int32)), (.int (12 : Int32)), (.ref b191), (.ref b191), (.ref b184), (.ref b184)])) rfl (rest := [(.ref b191), (.ref b184), (.ref b184)]) rfl (hb hby d_exp_450) (fun T225 h225 L225 P225 => ?_)
        show OGo p e below _ (T225.setTop (mkF m 451 #[.val (.int x0), .val (.int x1), .val (.int x2), .val (.int x3)] [(.ref b191), (.ref b184), (.ref b184)]))
        refine OGo.go (U' := T225.setTop (mkF m 452 #[.val (.int x0), .val (.int x1), .val (.int x2), .val (.int x3)] [(.ref b191), (.ref b191), (.ref b184), (.ref b184)])) (fun _ k => XS.dup P225.1.here hx rfl (hb hby d_exp_451) rfl rfl k) ?_
        refine OGo.go (U' := T225.setTop (mkF m 454 #[.val (.int x0), .val (.int x1), .val (.int x2), .val (.int x3)] [(.int (13 : Int32)), (.ref b191), (.ref b191), (.ref b184), (.ref b184)])) (fun _ k => XS.bipush P225.1.here hx rfl (hb hby d_exp_452) k) ?_
        refine OGo.go (U' := T225.setTop (mkF m 456 #[.val (.int x0), .val (.int x1), .val (.int x2), .val (.int x3)] [(.int (61 : Int32)), (.int (13 : Int32)), (.ref b191), (.ref b191), (.ref b184), (.ref b184)])) (fun _ k => XS.bipush P225.1.here hx rfl (hb hby d_exp_454) k) ?_
        refine own_cst ne192 g193 sz194 hx hZ P225 21 (by decide) (by decide) (q := 13) (by decide) (x := (61 : Int32)) (j := (13 : Int32)) (by decide) (g := (mkF m 456 #[.val (.int x0), .val (.int x1), .val (.int x2), .val (.int x3)] [(.int (61 : Int32)), (.int (13 : Int32)), (.ref b191), (.ref b191), (.ref b184), (.ref b184)])) rfl (rest := [(.ref b191), (.ref b184), (.ref b184)]) rfl (hb hby d_exp_456) (fun T227 h227 L227 P227 => ?_)
        show OGo p e below _ (T227.setTop (mkF m 457 #[.val (.int x0), .val (.int x1), .val (.int x2), .val (.int x3)] [(.ref b191), (.ref b184), (.ref b184)]))
        refine OGo.go (U' := T227.setTop (mkF m 458 #[.val (.int x0), .val (.int x1), .val (.int x2), .val (.int x3)] [(.ref b191), (.ref b191), (.ref b184), (.ref b184)])) (fun _ k => XS.dup P227.1.here hx rfl (hb hby d_exp_457) rfl rfl k) ?_
        refine OGo.go (U' := T227.setTop (mkF m 460 #[.val (.int x0), .val (.int x1), .val (.int x2), .val (.int x3)] [(.int (14 : Int32)), (.ref b191), (.ref b191), (.ref b184), (.ref b184)])) (fun _ k => XS.bipush P227.1.here hx rfl (hb hby d_exp_458) k) ?_
        refine OGo.go (U' := T227.setTop (mkF m 462 #[.val (.int x0), .val (.int x1), .val (.int x2), .val (.int x3)] [(.int (34 : Int32)), (.int (14 : Int32)), (.ref b191), (.ref b191), (.ref b184), (.ref b184)])) (fun _ k => XS.bipush P227.1.here hx rfl (hb hby d_exp_460) k) ?_
        refine own_cst ne192 g193 sz194 hx hZ P227 21 (by decide) (by decide) (q := 14) (by decide) (x := (34 : Int32)) (j := (14 : Int32)) (by decide) (g := (mkF m 462 #[.val (.int x0), .val (.int x1), .val (.int x2), .val (.int x3)] [(.int (34 : Int32)), (.int (14 : Int32)), (.ref b191), (.ref b191), (.ref b184), (.ref b184)])) rfl (rest := [(.ref b191), (.ref b184), (.ref b184)]) rfl (hb hby d_exp_462) (fun T229 h229 L229 P229 => ?_)
        show OGo p e below _ (T229.setTop (mkF m 463 #[.val (.int x0), .val (.int x1), .val (.int x2), .val (.int x3)] [(.ref b191), (.ref b184), (.ref b184)]))
        refine OGo.go (U' := T229.setTop (mkF m 464 #[.val (.int x0), .val (.int x1), .val (.int x2), .val (.int x3)] [(.ref b191), (.ref b191), (.ref b184), (.ref b184)])) (fun _ k => XS.dup P229.1.here hx rfl (hb hby d_exp_463) rfl rfl k) ?_
        refine OGo.go (U' := T229.setTop (mkF m 466 #[.val (.int x0), .val (.int x1), .val (.int x2), .val (.int x3)] [(.int (15 : Int32)), (.ref b191), (.ref b191), (.ref b184), (.ref b184)])) (fun _ k => XS.bipush P229.1.here hx rfl (hb hby d_exp_464) k) ?_
        refine OGo.go (U' := T229.setTop (mkF m 467 #[.val (.int x0), .val (.int x1), .val (.int x2), .val (.int x3)] [(.int x1), (.int (15 : Int32)), (.ref b191), (.ref b191), (.ref b184), (.ref b184)])) (fun _ k => XS.iloadN P229.1.here hx rfl (hb hby d_exp_466) rfl k) ?_
        refine own_cst ne192 g193 sz194 hx hZ P229 21 (by decide) (by decide) (q := 15) (by decide) (x := x1) (j := (15 : Int32)) (by decide) (g := (mkF m 467 #[.val (.int x0), .val (.int x1), .val (.int x2), .val (.int x3)] [(.int x1), (.int (15 : Int32)), (.ref b191), (.ref b191), (.ref b184), (.ref b184)])) rfl (rest := [(.ref b191), (.ref b184), (.ref b184)]) rfl (hb hby d_exp_467) (fun T231 h231 L231 P231 => ?_)
        show OGo p e below _ (T231.setTop (mkF m 468 #[.val (.int x0), .val (.int x1), .val (.int x2), .val (.int x3)] [(.ref b191), (.ref b184), (.ref b184)]))
        refine OGo.go (U' := T231.setTop (mkF m 469 #[.val (.int x0), .val (.int x1), .val (.int x2), .val (.int x3)] [(.ref b191), (.ref b191), (.ref b184), (.ref b184)])) (fun _ k => XS.dup P231.1.here hx rfl (hb hby d_exp_468) rfl rfl k) ?_
        refine OGo.go (U' := T231.setTop (mkF m 471 #[.val (.int x0), .val (.int x1), .val (.int x2), .val (.int x3)] [(.int (16 : Int32)), (.ref b191), (.ref b191), (.ref b184), (.ref b184)])) (fun _ k => XS.bipush P231.1.here hx rfl (hb hby d_exp_469) k) ?_
        refine OGo.go (U' := T231.setTop (mkF m 472 #[.val (.int x0), .val (.int x1), .val (.int x2), .val (.int x3)] [(.int x2), (.int (16 : Int32)), (.ref b191), (.ref b191), (.ref b184), (.ref b184)])) (fun _ k => XS.iloadN P231.1.here hx rfl (hb hby d_exp_471) rfl k) ?_
        refine own_cst ne192 g193 sz194 hx hZ P231 21 (by decide) (by decide) (q := 16) (by decide) (x := x2) (j := (16 : Int32)) (by decide) (g := (mkF m 472 #[.val (.int x0), .val (.int x1), .val (.int x2), .val (.int x3)] [(.int x2), (.int (16 : Int32)), (.ref b191), (.ref b191), (.ref b184), (.ref b184)])) rfl (rest := [(.ref b191), (.ref b184), (.ref b184)]) rfl (hb hby d_exp_472) (fun T233 h233 L233 P233 => ?_)
        show OGo p e below _ (T233.setTop (mkF m 473 #[.val (.int x0), .val (.int x1), .val (.int x2), .val (.int x3)] [(.ref b191), (.ref b184), (.ref b184)]))
        refine OGo.go (U' := T233.setTop (mkF m 474 #[.val (.int x0), .val (.int x1), .val (.int x2), .val (.int x3)] [(.ref b191), (.ref b191), (.ref b184), (.ref b184)])) (fun _ k => XS.dup P233.1.here hx rfl (hb hby d_exp_473) rfl rfl k) ?_
        refine OGo.go (U' := T233.setTop (mkF m 476 #[.val (.int x0), .val (.int x1), .val (.int x2), .val (.int x3)] [(.int (17 : Int32)), (.ref b191), (.ref b191), (.ref b184), (.ref b184)])) (fun _ k => XS.bipush P233.1.here hx rfl (hb hby d_exp_474) k) ?_
        refine OGo.go (U' := T233.setTop (mkF m 477 #[.val (.int x0), .val (.int x1), .val (.int x2), .val (.int x3)] [(.int x3), (.int (17 : Int32)), (.ref b191), (.ref b191), (.ref b184), (.ref b184)])) (fun _ k => XS.iloadN P233.1.here hx rfl (hb hby d_exp_476) rfl k) ?_
        refine own_cst ne192 g193 sz194 hx hZ P233 21 (by decide) (by decide) (q := 17) (by decide) (x := x3) (j := (17 : Int32)) (by decide) (g := (mkF m 477 #[.val (.int x0), .val (.int x1), .val (.int x2), .val (.int x3)] [(.int x3), (.int (17 : Int32)), (.ref b191), (.ref b191), (.ref b184), (.ref b184)])) rfl (rest := [(.ref b191), (.ref b184), (.ref b184)]) rfl (hb hby d_exp_477) (fun T235 h235 L235 P235 => ?_)
        show OGo p e below _ (T235.setTop (mkF m 478 #[.val (.int x0), .val (.int x1), .val (.int x2), .val (.int x3)] [(.ref b191), (.ref b184), (.ref b184)]))
        refine OGo.go (U' := T235.setTop (mkF m 479 #[.val (.int x0), .val (.int x1), .val (.int x2), .val (.int x3)] [(.ref b191), (.ref b191), (.ref b184), (.ref b184)])) (fun _ k => XS.dup P235.1.here hx rfl (hb hby d_exp_478) rfl rfl k) ?_
        refine OGo.go (U' := T235.setTop (mkF m 481 #[.val (.int x0), .val (.int x1), .val (.int x2), .val (.int x3)] [(.int (18 : Int32)), (.ref b191), (.ref b191), (.ref b184), (.ref b184)])) (fun _ k => XS.bipush P235.1.here hx rfl (hb hby d_exp_479) k) ?_
        refine OGo.go (U' := T235.setTop (mkF m 483 #[.val (.int x0), .val (.int x1), .val (.int x2), .val (.int x3)] [(.int (34 : Int32)), (.int (18 : Int32)), (.ref b191), (.ref b191), (.ref b184), (.ref b184)])) (fun _ k => XS.bipush P235.1.here hx rfl (hb hby d_exp_481) k) ?_
        refine own_cst ne192 g193 sz194 hx hZ P235 21 (by decide) (by decide) (q := 18) (by decide) (x := (34 : Int32)) (j := (18 : Int32)) (by decide) (g := (mkF m 483 #[.val (.int x0), .val (.int x1), .val (.int x2), .val (.int x3)] [(.int (34 : Int32)), (.int (18 : Int32)), (.ref b191), (.ref b191), (.ref b184), (.ref b184)])) rfl (rest := [(.ref b191), (.ref b184), (.ref b184)]) rfl (hb hby d_exp_483) (fun T237 h237 L237 P237 => ?_)
        show OGo p e below _ (T237.setTop (mkF m 484 #[.val (.int x0), .val (.int x1), .val (.int x2), .val (.int x3)] [(.ref b191), (.ref b184), (.ref b184)]))
        refine OGo.go (U' := T237.setTop (mkF m 485 #[.val (.int x0), .val (.int x1), .val (.int x2), .val (.int x3)] [(.ref b191), (.ref b191), (.ref b184), (.ref b184)])) (fun _ k => XS.dup P237.1.here hx rfl (hb hby d_exp_484) rfl rfl k) ?_
        refine OGo.go (U' := T237.setTop (mkF m 487 #[.val (.int x0), .val (.int x1), .val (.int x2), .val (.int x3)] [(.int (19 : Int32)), (.ref b191), (.ref b191), (.ref b184), (.ref b184)])) (fun _ k => XS.bipush P237.1.here hx rfl (hb hby d_exp_485) k) ?_
        refine OGo.go (U' := T237.setTop (mkF m 489 #[.val (.int x0), .val (.int x1), .val (.int x2), .val (.int x3)] [(.int (63 : Int32)), (.int (19 : Int32)), (.ref b191), (.ref b191), (.ref b184), (.ref b184)])) (fun _ k => XS.bipush P237.1.here hx rfl (hb hby d_exp_487) k) ?_
        refine own_cst ne192 g193 sz194 hx hZ P237 21 (by decide) (by decide) (q := 19) (by decide) (x := (63 : Int32)) (j := (19 : Int32)) (by decide) (g := (mkF m 489 #[.val (.int x0), .val (.int x1), .val (.int x2), .val (.int x3)] [(.int (63 : Int32)), (.int (19 : Int32)), (.ref b191), (.ref b191), (.ref b184), (.ref b184)])) rfl (rest := [(.ref b191), (.ref b184), (.ref b184)]) rfl (hb hby d_exp_489) (fun T239 h239 L239 P239 => ?_)
        show OGo p e below _ (T239.setTop (mkF m 490 #[.val (.int x0), .val (.int x1), .val (.int x2), .val (.int x3)] [(.ref b191), (.ref b184), (.ref b184)]))
        refine OGo.go (U' := T239.setTop (mkF m 491 #[.val (.int x0), .val (.int x1), .val (.int x2), .val (.int x3)] [(.ref b191), (.ref b191), (.ref b184), (.ref b184)])) (fun _ k => XS.dup P239.1.here hx rfl (hb hby d_exp_490) rfl rfl k) ?_
        refine OGo.go (U' := T239.setTop (mkF m 493 #[.val (.int x0), .val (.int x1), .val (.int x2), .val (.int x3)] [(.int (20 : Int32)), (.ref b191), (.ref b191), (.ref b184), (.ref b184)])) (fun _ k => XS.bipush P239.1.here hx rfl (hb hby d_exp_491) k) ?_
        refine OGo.go (U' := T239.setTop (mkF m 495 #[.val (.int x0), .val (.int x1), .val (.int x2), .val (.int x3)] [(.int (62 : Int32)), (.int (20 : Int32)), (.ref b191), (.ref b191), (.ref b184), (.ref b184)])) (fun _ k => XS.bipush P239.1.here hx rfl (hb hby d_exp_493) k) ?_
        refine own_cst ne192 g193 sz194 hx hZ P239 21 (by decide) (by decide) (q := 20) (by decide) (x := (62 : Int32)) (j := (20 : Int32)) (by decide) (g := (mkF m 495 #[.val (.int x0), .val (.int x1), .val (.int x2), .val (.int x3)] [(.int (62 : Int32)), (.int (20 : Int32)), (.ref b191), (.ref b191), (.ref b184), (.ref b184)])) rfl (rest := [(.ref b191), (.ref b184), (.ref b184)]) rfl (hb hby d_exp_495) (fun T241 h241 L241 P241 => ?_)
        show OGo p e below _ (T241.setTop (mkF m 496 #[.val (.int x0), .val (.int x1), .val (.int x2), .val (.int x3)] [(.ref b191), (.ref b184), (.ref b184)]))
        obtain ⟨X241, e241, N241, K241, z241, Es241, fv241, fc241, S241, A241, -⟩ := P241
        simp only [List.nil_append, List.cons_append] at A241
        refine OGo.callI X241 hx hZ (y := (⟨"java/lang/String", "<init>", "([C)V"⟩ : MethodName)) rfl hown (hw _ (List.mem_of_getElem? (i := 8) rfl)) (hw _ (List.mem_of_getElem? (i := 9) rfl)) (hw _ (List.mem_of_getElem? (i := 6) rfl)) (hw _ (List.mem_of_getElem? (i := 10) rfl)) (by decide) (g := (mkF m 496 #[.val (.int x0), .val (.int x1), .val (.int x2), .val (.int x3)] [(.ref b191), (.ref b184), (.ref b184)])) (a := b184) (argsL := [(.ref b191)]) (rest := [(.ref b184)]) e241 (rm_si1 l Z a0 hw b184 b191 [(nar .char (60 : Int32)), (nar .char (63 : Int32)), (nar .char (120 : Int32)), (nar .char (109 : Int32)), (nar .char (108 : Int32)), (nar .char (32 : Int32)), (nar .char (118 : Int32)), (nar .char (101 : Int32)), (nar .char (114 : Int32)), (nar .char (115 : Int32)), (nar .char (105 : Int32)), (nar .char (111 : Int32)), (nar .char (110 : Int32)), (nar .char (61 : Int32)), (nar .char (34 : Int32)), (nar .char x1), (nar .char x2), (nar .char x3), (nar .char (34 : Int32)), (nar .char (63 : Int32)), (nar .char (62 : Int32))] .null (.int (0 : Int32)) k191 cs n0 h241 z241 Es241 fv241 fc241 g185 ne192 A241 (own_uS (show ¬ (255 : Int32) < (nar .char (60 : Int32)) from (by decide)) (own_uS (show ¬ (255 : Int32) < (nar .char (63 : Int32)) from (by decide)) (own_uS (show ¬ (255 : Int32) < (nar .char (120 : Int32)) from (by decide)) (own_uS (show ¬ (255 : Int32) < (nar .char (109 : Int32)) from (by decide)) (own_uS (show ¬ (255 : Int32) < (nar .char (108 : Int32)) from (by decide)) (own_uS (show ¬ (255 : Int32) < (nar .char (32 : Int32)) from (by decide)) (own_uS (show ¬ (255 : Int32) < (nar .char (118 : Int32)) from (by decide)) (own_uS (show ¬ (255 : Int32) < (nar .char (101 : Int32)) from (by decide)) (own_uS (show ¬ (255 : Int32) < (nar .char (114 : Int32)) from (by decide)) (own_uS (show ¬ (255 : Int32) < (nar .char (115 : Int32)) from (by decide)) (own_uS (show ¬ (255 : Int32) < (nar .char (105 : Int32)) from (by decide)) (own_uS (show ¬ (255 : Int32) < (nar .char (111 : Int32)) from (by decide)) (own_uS (show ¬ (255 : Int32) < (nar .char (110 : Int32)) from (by decide)) (own_uS (show ¬ (255 : Int32) < (nar .char (61 : Int32)) from (by decide)) (own_uS (show ¬ (255 : Int32) < (nar .char (34 : Int32)) from (by decide)) (own_uS (show ¬ (255 : Int32) < (nar .char x1) from hv1) (own_uS (show ¬ (255 : Int32) < (nar .char x2) from hv2) (own_uS (show ¬ (255 : Int32) < (nar .char x3) from hv3) (own_uS (show ¬ (255 : Int32) < (nar .char (34 : Int32)) from (by decide)) (own_uS (show ¬ (255 : Int32) < (nar .char (63 : Int32)) from (by decide)) (own_uS (show ¬ (255 : Int32) < (nar .char (62 : Int32)) from (by decide)) own_u0))))))))))))))))))))) (show 1 ≤ 21 from by decide) (show 21 ≤ 24 from by decide) S241 hcs) rfl (by rw [hml]; rfl) (lenOf pd_23 rfl) rfl (W := 1) (by show 2 * 0 + _ ≤ _; exact Nat.le_of_eq rfl) (hb hby d_exp_496) (by decide) (by decide) (by decide) (by decide) ?_
        rintro _ T242 L242 X242 ⟨rfl, N242, K242, Es242, sc242, b242, k242, sv242, A242, gb242⟩
        have e242 : T242.heap = T242.heap := rfl
        have N243 := Fr.app N241 N242
        have f244 := own_sta_keep S241 K242 (allS (P := fun x => ∀ cell : Cell, _ → cell.vm.isStatics = false) (own_plain Es241) all0)
        have f245 := Es241.keep K242
        have f246 := A241.keep K242 (ninS (Ne.symm ne192) nin0)
        have K247 := K241.trans K242 (allS (P := fun x => x ∈ _ ∨ _ ≤ x) (Or.inr sz186) all0)
        have sz242 := Nat.le_trans K241.1 gb242
        show OGo p e below _ (T242.setTop (mkF m 499 #[.val (.int x0), .val (.int x1), .val (.int x2), .val (.int x3)] [(.ref b184)]))
        refine OGo.retA X242 hx hret hlk rfl rfl (hb hby d_exp_499) ?_ (by decide) (by decide)
        rw [e242]
        refine ⟨b184, b242, k242, rfl, N243, K247, Es242, sc242, sv242, ?_, sz186, sz242⟩
        rw [own_elist_21 hc1 hc60 hc121]
        exact A242
theorem d_wsd_0 : decode prog_33_method_4_code 0 = .ok (.aload_n 0, 1) := by decide +kernel
theorem d_wsd_1 : decode prog_33_method_4_code 1 = .ok (.getfield 12, 3) := by decide +kernel
theorem d_wsd_4 : decode prog_33_method_4_code 4 = .ok (.ldc 52, 2) := by decide +kernel
theorem d_wsd_6 : decode prog_33_method_4_code 6 = .ok (.invokevirtual 54, 3) := by decide +kernel
theorem d_wsd_9 : decode prog_33_method_4_code 9 = .ok (.aload_n 1, 1) := by decide +kernel
theorem d_wsd_10 : decode prog_33_method_4_code 10 = .ok (.invokevirtual 54, 3) := by decide +kernel
theorem d_wsd_13 : decode prog_33_method_4_code 13 = .ok (.ldc 58, 2) := by decide +kernel
theorem d_wsd_15 : decode prog_33_method_4_code 15 = .ok (.invokevirtual 54, 3) := by decide +kernel
theorem d_wsd_18 : decode prog_33_method_4_code 18 = .ok (.pop, 1) := by decide +kernel
theorem d_wsd_19 : decode prog_33_method_4_code 19 = .ok (.return_, 1) := by decide +kernel
theorem ef_wsd (m : MethodId) (xr : Addr) (sr : Addr) : entryFrame m #[(.ref xr), (.ref sr)] 2 = mkF m 0 #[.val (.ref xr), .val (.ref sr)] [] := by first | (simp [entryFrame, mkF, argsToLocals, Value.category]; done) | rfl
theorem pn_wsd : plainFor (⟨"com/example/loomwire/loomwire/soap/XmlWriter", "writeStartDocument", "(Ljava/lang/String;)V"⟩ : MethodName) = true := by first | exact plainFor_of_name (by first | (simp [plainName, overriddenIn]; done) | decide +kernel) | decide +kernel
set_option maxRecDepth 65536 in
set_option maxHeartbeats 40000000 in
theorem rm_wsd (l : Launch) (Z : State) (a0 : Array Value) (hw : ∀ d ∈ tables_1, d.before a0 Z = true) (xr : Addr) (sr : Addr) (br : Addr) (dr : Addr) (kd : ClassId) (bs : List Value) (er : Addr) (ke : ClassId) (us : List Value) (cs : Int32) (n0 : Nat) (h0 : Heap) (Z0 : n0 ≤ h0.size) (Ex : Exa Z h0 xr "com/example/loomwire/loomwire/soap/XmlWriter") (fo : Fld Z h0 xr "com/example/loomwire/loomwire/soap/XmlWriter" "out" "Ljava/lang/StringBuilder;" (.ref br)) (EB : Exa Z h0 br "java/lang/StringBuilder") (fv : Fld Z h0 br "java/lang/AbstractStringBuilder" "value" "[B" (.ref dr)) (fc : Fld Z h0 br "java/lang/AbstractStringBuilder" "coder" "B" (.int 0)) (fn : Fld Z h0 br "java/lang/AbstractStringBuilder" "count" "I" (.int (NI bs.length))) (Ad : Arv Z h0 dr kd .byte 256 bs (.int 0)) (Es : Exa Z h0 sr "java/lang/String") (sc : Fld Z h0 sr "java/lang/String" "coder" "B" (.int 0)) (sv : Fld Z h0 sr "java/lang/String" "value" "[B" (.ref er)) (Ae : Arv Z h0 er ke .byte (NI us.length) us (.int 0)) (S0 : Sta Z h0 "java/lang/String" "COMPACT_STRINGS" "Z" (.int cs)) (hcs : ¬ cs = 0) (gd : n0 ≤ dr) (gb : n0 ≤ br) (had : br ≠ dr) (hxb : xr ≠ br) (hxd : xr ≠ dr) (hsb : sr ≠ br) (hsd : sr ≠ dr) (heb : er ≠ br) (hed : er ≠ dr) (hlen : bs.length + us.length ≤ 200) :
    OMetK l Z own_EL [dr] (⟨"com/example/loomwire/loomwire/soap/XmlWriter", "writeStartDocument", "(Ljava/lang/String;)V"⟩ : MethodName) prog_33_method_4_code 2 none [] ({ frames := 5, cells := 4, slots := 84, locals := 95 } : Room) #[(.ref xr), (.ref sr)] h0 (fun v h L => v = none ∧ Fr n0 L ∧ Keep h0 h [br, dr] ∧ Exa Z h br "java/lang/StringBuilder" ∧ Fld Z h br "java/lang/AbstractStringBuilder" "value" "[B" (.ref dr) ∧ Fld Z h br "java/lang/AbstractStringBuilder" "coder" "B" (.int 0) ∧ Fld Z h br "java/lang/AbstractStringBuilder" "count" "I" (.int (NI (((bs ++ tPre) ++ us) ++ tPost).length)) ∧ Arv Z h dr kd .byte 256 (((bs ++ tPre) ++ us) ++ tPost) (.int 0)) := by
  refine OMetK.of pn_wsd ?_
  intro p e s m below meth c T0 X0 hx hby hml hown0 hnm hret hlk hZ e0 hs0 Cv0 Sf0
  have C0 := CHr.refl Cv0
  have hown : s.vm.findClass "com/example/loomwire/loomwire/soap/XmlWriter" = some m.cls := hown0
  refine OGo.go (fun t k => castTop (ef_wsd m xr sr) k) ?_
  have wS : ∀ a ∈ Bundle.stringAtoms, a.before a0 Z = true := fun d hd => by
    simp only [Bundle.stringAtoms, List.mem_cons, List.not_mem_nil, or_false] at hd
    rcases hd with rfl | rfl | rfl | rfl | rfl | rfl | rfl
    all_goals first | exact hw _ (List.mem_of_getElem? (i := 6) rfl) | exact hw _ (List.mem_of_getElem? (i := 5) rfl) | exact hw _ (List.mem_of_getElem? (i := 19) rfl) | exact hw _ (List.mem_of_getElem? (i := 20) rfl) | exact hw _ (List.mem_of_getElem? (i := 21) rfl) | exact hw _ (List.mem_of_getElem? (i := 22) rfl) | exact hw _ (List.mem_of_getElem? (i := 23) rfl)
  have hEL : EW Z a0 own_EL := EW.cons (hw _ (List.mem_of_getElem? (i := 123) rfl)) (by decide +kernel) (EW.cons (hw _ (List.mem_of_getElem? (i := 171) rfl)) (by decide +kernel) (EW.cons (hw _ (List.mem_of_getElem? (i := 18) rfl)) (by decide +kernel) EW.nil))
  refine OGo.go (U' := T0.setTop (mkF m 1 #[.val (.ref xr), .val (.ref sr)] [(.ref xr)])) (fun _ k => XS.aloadN X0.here hx rfl (hb hby d_wsd_0) rfl rfl k) ?_
  obtain ⟨T1, X1, e1, st1⟩ := getF X0 hx hZ hown (host := "") (Or.inl (hw _ (List.mem_of_getElem? (i := 65) rfl))) Via.refl e0 fo (g := (mkF m 1 #[.val (.ref xr), .val (.ref sr)] [(.ref xr)])) rfl rfl (hb hby d_wsd_1)
  refine OGo.go (U' := T1.setTop (mkF m 4 #[.val (.ref xr), .val (.ref sr)] [(.ref br)])) st1 ?_
  obtain ⟨a2, T2, h2, k2, d2, kk2, X2, e2, E2, hS2, hk2, hZ2, hown2, Ea2, Fc2, Fv2, Ab2, -, -, Ch2, -, sfe2, st2⟩ := ldcCH (s := s) (vm0 := s.vm) X1 hx hZ hown (hw _ (List.mem_of_getElem? (i := 123) rfl)) wS e1 ((State.WarmedH.refl s).since 0) (Nat.zero_le _) hEL (by simp [own_EL]) C0.1 (vs := [.int 60, .int 63, .int 120, .int 109, .int 108, .int 32, .int 118, .int 101, .int 114, .int 115, .int 105, .int 111, .int 110, .int 61, .int 34]) (z := 15) ⟨by decide +kernel, by decide +kernel⟩ (by decide) (by decide) (g := (mkF m 4 #[.val (.ref xr), .val (.ref sr)] [(.ref br)])) rfl (hb hby d_wsd_4) (n := 60) (by decide +kernel) (by decide) (by decide) (by decide)
  have Sf3 := Ch2.safe Ad.lt (Sf0 _ (List.mem_singleton.mpr rfl))
  obtain ⟨naSf3, nbSf3⟩ := sfe2 _ Sf3
  have f4 := S0.ext E2
  have f5 := EB.ext E2
  have f6 := fv.ext E2
  have f7 := fc.ext E2
  have f8 := fn.ext E2
  have f9 := Ad.ext E2
  have f10 := Es.ext E2
  have f11 := sc.ext E2
  have f12 := sv.ext E2
  have f13 := Ae.ext E2
  have f14 := Ex.ext E2
  have f15 := fo.ext E2
  have K16 := (Keep.refl h0 [br, dr]).ext E2
  refine OGo.go (U' := T2.setTop (mkF m 6 #[.val (.ref xr), .val (.ref sr)] [(.ref a2), (.ref br)])) st2 ?_
  refine OGo.callV X2 hx hZ2 (y := (⟨"java/lang/StringBuilder", "append", "(Ljava/lang/String;)Ljava/lang/StringBuilder;"⟩ : MethodName)) (C := "java/lang/StringBuilder") hown2 (hw _ (List.mem_of_getElem? (i := 124) rfl)) (hw _ (List.mem_of_getElem? (i := 125) rfl)) (hw _ (List.mem_of_getElem? (i := 127) rfl)) (hw _ (List.mem_of_getElem? (i := 126) rfl)) (hw _ (List.mem_of_getElem? (i := 49) rfl)) (hw _ (List.mem_of_getElem? (i := 128) rfl)) (by decide) (g := (mkF m 6 #[.val (.ref xr), .val (.ref sr)] [(.ref a2), (.ref br)])) (a := br) (argsL := [(.ref a2)]) (rest := []) e2 f5 (rm_sba l Z a0 hw br a2 dr kd bs d2 kk2 tPre cs n0 h2 f5 f6 f7 f8 f9 Ea2 Fc2 Fv2 Ab2 f4 hcs (Nat.le_trans Z0 E2.1) gd gb (Ne.symm nbSf3) (Ne.symm naSf3) had (by simp only [List.length_append, List.length_cons, List.length_nil]; omega)) rfl (by rw [hml]; rfl) (lenOf pd_24 rfl) rfl (W := 0) (by show 2 * 0 + _ ≤ _; exact Nat.le_of_eq rfl) (hb hby d_wsd_6) (by decide) (by decide) (by decide) (by decide) ?_
  rintro _ T17 L17 X17 ⟨rfl, N17, K17, Ea17, va17, ca17, na17, A17⟩
  have e17 : T17.heap = T17.heap := rfl
  have N18 := Fr.app (Fr.nil n0) N17
  have C19 := CHr.trans (C0.trans Ch2) (CHr.keep K17 (sfS (Safe.exa (State.Warmed39.alike hZ2) f5 (by decide) (by decide)) (sfS Sf3 sf0)) (C0.trans Ch2).1)
  have Sf20 := Safe.keep K17 (sfS (Safe.exa (State.Warmed39.alike hZ2) f5 (by decide) (by decide)) (sfS Sf3 sf0)) (C0.trans Ch2).1 Sf3
  have f21 := own_sta_keep f4 K17 (allS (P := fun x => ∀ cell : Cell, _ → cell.vm.isStatics = false) (own_plain f5) (allS (P := fun x => ∀ cell : Cell, _ → cell.vm.isStatics = false) (Arv.nostat f9) all0))
  have f22 := f5.keep K17
  have f23 := f10.keep K17
  have f24 := f11.keep K17 (ninS hsb (ninS hsd nin0))
  have f25 := f12.keep K17 (ninS hsb (ninS hsd nin0))
  have f26 := f13.keep K17 (ninS heb (ninS hed nin0))
  have f27 := f14.keep K17
  have f28 := f15.keep K17 (ninS hxb (ninS hxd nin0))
  have K29 := K16.trans K17 (allS (P := fun x => x ∈ _ ∨ _ ≤ x) (Or.inl (List.mem_of_getElem? (i := 0) rfl)) (allS (P := fun x => x ∈ _ ∨ _ ≤ x) (Or.inl (List.mem_of_getElem? (i := 1) rfl)) all0))
  show OGo p e below _ (T17.setTop (mkF m 9 #[.val (.ref xr), .val (.ref sr)] [(.ref br)]))
  refine OGo.go (U' := T17.setTop (mkF m 10 #[.val (.ref xr), .val (.ref sr)] [(.ref sr), (.ref br)])) (fun _ k => XS.aloadN X17.here hx rfl (hb hby d_wsd_9) rfl rfl k) ?_
  refine OGo.callV X17 hx hZ2 (y := (⟨"java/lang/StringBuilder", "append", "(Ljava/lang/String;)Ljava/lang/StringBuilder;"⟩ : MethodName)) (C := "java/lang/StringBuilder") hown2 (hw _ (List.mem_of_getElem? (i := 124) rfl)) (hw _ (List.mem_of_getElem? (i := 125) rfl)) (hw _ (List.mem_of_getElem? (i := 127) rfl)) (hw _ (List.mem_of_getElem? (i := 126) rfl)) (hw _ (List.mem_of_getElem? (i := 49) rfl)) (hw _ (List.mem_of_getElem? (i := 128) rfl)) (by decide) (g := (mkF m 10 #[.val (.ref xr), .val (.ref sr)] [(.ref sr), (.ref br)])) (a := br) (argsL := [(.ref sr)]) (rest := []) e17 Ea17 (rm_sba l Z a0 hw br sr dr kd (bs ++ tPre) er ke us cs n0 T17.heap Ea17 va17 ca17 na17 A17 f23 f24 f25 f26 f21 hcs (Nat.le_trans (Nat.le_trans Z0 E2.1) K17.1) gd gb hed hsd had (by simp only [List.length_append, List.length_cons, List.length_nil]; omega)) rfl (by rw [hml]; rfl) (lenOf pd_24 rfl) rfl (W := 0) (by show 2 * 0 + _ ≤ _; exact Nat.le_of_eq rfl) (hb hby d_wsd_10) (by decide) (by decide) (by decide) (by decide) ?_
  rintro _ T30 L30 X30 ⟨rfl, N30, K30, Ea30, va30, ca30, na30, A30⟩
  have e30 : T30.heap = T30.heap := rfl
  have N31 := Fr.app N18 N30
  have C32 := CHr.trans C19 (CHr.keep K30 (sfS (Safe.exa (State.Warmed39.alike hZ2) Ea17 (by decide) (by decide)) (sfS Sf20 sf0)) C19.1)
  have Sf33 := Safe.keep K30 (sfS (Safe.exa (State.Warmed39.alike hZ2) Ea17 (by decide) (by decide)) (sfS Sf20 sf0)) C19.1 Sf20
  have f34 := own_sta_keep f21 K30 (allS (P := fun x => ∀ cell : Cell, _ → cell.vm.isStatics = false) (own_plain Ea17) (allS (P := fun x => ∀ cell : Cell, _ → cell.vm.isStatics = false) (Arv.nostat A17) all0))
  have f35 := Ea17.keep K30
  have f36 := f27.keep K30
  have f37 := f28.keep K30 (ninS hxb (ninS hxd nin0))
  have K38 := K29.trans K30 (allS (P := fun x => x ∈ _ ∨ _ ≤ x) (Or.inl (List.mem_of_getElem? (i := 0) rfl)) (allS (P := fun x => x ∈ _ ∨ _ ≤ x) (Or.inl (List.mem_of_getElem? (i := 1) rfl)) all0))
  show OGo p e below _ (T30.setTop (mkF m 13 #[.val (.ref xr), .val (.ref sr)] [(.ref br)]))
  obtain ⟨a39, T39, h39, k39, d39, kk39, X39, e39, E39, hS39, hk39, hZ39, hown39, Ea39, Fc39, Fv39, Ab39, -, -, Ch39, -, sfe39, st39⟩ := ldcCH (s := s) (vm0 := T2.vm) X30 hx hZ2 hown2 (hw _ (List.mem_of_getElem? (i := 171) rfl)) wS e30 hS2 (Nat.le_trans (Nat.le_trans hk2 K17.1) K30.1) hEL (by simp [own_EL]) C32.1 (vs := [.int 34, .int 63, .int 62]) (z := 3) ⟨by decide +kernel, by decide +kernel⟩ (by decide) (by decide) (g := (mkF m 13 #[.val (.ref xr), .val (.ref sr)] [(.ref br)])) rfl (hb hby d_wsd_13) (n := 12) (by decide +kernel) (by decide) (by decide) (by decide)
  have Sf40 := Ch39.safe A30.lt Sf33
  obtain ⟨naSf40, nbSf40⟩ := sfe39 _ Sf40
  have f41 := f34.ext E39
  have f42 := Ea30.ext E39
  have f43 := f36.ext E39
  have f44 := f37.ext E39
  have f45 := va30.ext E39
  have f46 := ca30.ext E39
  have f47 := na30.ext E39
  have f48 := A30.ext E39
  have K49 := K38.ext E39
  refine OGo.go (U' := T39.setTop (mkF m 15 #[.val (.ref xr), .val (.ref sr)] [(.ref a39), (.ref br)])) st39 ?_
  refine OGo.callV X39 hx hZ39 (y := (⟨"java/lang/StringBuilder", "append", "(Ljava/lang/String;)Ljava/lang/StringBuilder;"⟩ : MethodName)) (C := "java/lang/StringBuilder") hown39 (hw _ (List.mem_of_getElem? (i := 124) rfl)) (hw _ (List.mem_of_getElem? (i := 125) rfl)) (hw _ (List.mem_of_getElem? (i := 127) rfl)) (hw _ (List.mem_of_getElem? (i := 126) rfl)) (hw _ (List.mem_of_getElem? (i := 49) rfl)) (hw _ (List.mem_of_getElem? (i := 128) rfl)) (by decide) (g := (mkF m 15 #[.val (.ref xr), .val (.ref sr)] [(.ref a39), (.ref br)])) (a := br) (argsL := [(.ref a39)]) (rest := []) e39 f42 (rm_sba l Z a0 hw br a39 dr kd ((bs ++ tPre) ++ us) d39 kk39 tPost cs n0 h39 f42 f45 f46 f47 f48 Ea39 Fc39 Fv39 Ab39 f41 hcs (Nat.le_trans (Nat.le_trans (Nat.le_trans (Nat.le_trans Z0 E2.1) K17.1) K30.1) E39.1) gd gb (Ne.symm nbSf40) (Ne.symm naSf40) had (by simp only [List.length_append, List.length_cons, List.length_nil]; omega)) rfl (by rw [hml]; rfl) (lenOf pd_24 rfl) rfl (W := 0) (by show 2 * 0 + _ ≤ _; exact Nat.le_of_eq rfl) (hb hby d_wsd_15) (by decide) (by decide) (by decide) (by decide) ?_
  rintro _ T50 L50 X50 ⟨rfl, N50, K50, Ea50, va50, ca50, na50, A50⟩
  have e50 : T50.heap = T50.heap := rfl
  have N51 := Fr.app N31 N50
  have C52 := CHr.trans (C32.trans Ch39) (CHr.keep K50 (sfS (Safe.exa (State.Warmed39.alike hZ39) f42 (by decide) (by decide)) (sfS Sf40 sf0)) (C32.trans Ch39).1)
  have Sf53 := Safe.keep K50 (sfS (Safe.exa (State.Warmed39.alike hZ39) f42 (by decide) (by decide)) (sfS Sf40 sf0)) (C32.trans Ch39).1 Sf40
  have f54 := own_sta_keep f41 K50 (allS (P := fun x => ∀ cell : Cell, _ → cell.vm.isStatics = false) (own_plain f42) (allS (P := fun x => ∀ cell : Cell, _ → cell.vm.isStatics = false) (Arv.nostat f48) all0))
  have f55 := f42.keep K50
  have f56 := f43.keep K50
  have f57 := f44.keep K50 (ninS hxb (ninS hxd nin0))
  have K58 := K49.trans K50 (allS (P := fun x => x ∈ _ ∨ _ ≤ x) (Or.inl (List.mem_of_getElem? (i := 0) rfl)) (allS (P := fun x => x ∈ _ ∨ _ ≤ x) (Or.inl (List.mem_of_getElem? (i := 1) rfl)) all0))
  show OGo p e below _ (T50.setTop (mkF m 18 #[.val (.ref xr), .val (.ref sr)] [(.ref br)]))
  refine OGo.go (U' := T50.setTop (mkF m 19 #[.val (.ref xr), .val (.ref sr)] [])) (fun _ k => XS.pop X50.here hx rfl (hb hby d_wsd_18) rfl rfl k) ?_
  refine OGo.ret0H (s := s) (vm₁ := T39.vm) X50 hS39 e50 (Nat.le_trans hk39 K50.1) hZ39 hEL hs0 C52 hx hret hlk (hb hby d_wsd_19) ?_ (by decide) (by decide)
  exact ⟨rfl, N51, K58, Ea50, va50, ca50, na50, A50⟩
abbrev T1 (n x y z : Int32) : List Value := ((([] : List Value) ++ tPre) ++ vlist n x y z) ++ tPost
abbrev T2 (n x y z : Int32) : List Value := ((T1 n x y z ++ tPre) ++ vlist n x y z) ++ tPost
theorem own_c8 (x : Int32) : ¬ (255 : Int32) < nar .char ((x &&& (255 : Int32)).toUInt32.toUInt16.toUInt32.toInt32) := by
  have h1 := c_and x 255 (by decide)
  rw [show (255 : Int32).toInt = 255 by decide] at h1
  have h2 := c_i2c (x &&& 255)
  have h3 := c_i2c ((x &&& 255).toUInt32.toUInt16.toUInt32.toInt32)
  show ¬ (255 : Int32) < ((x &&& (255 : Int32)).toUInt32.toUInt16.toUInt32.toInt32).toUInt32.toUInt16.toUInt32.toInt32
  rw [Int32.lt_iff_toInt_lt, show (255 : Int32).toInt = 255 by decide]
  omega
theorem own_c8h {y x : Int32} (h : y = ((x &&& (255 : Int32)).toUInt32.toUInt16.toUInt32.toInt32)) : ¬ (255 : Int32) < nar .char y := by rw [h]; exact own_c8 x
theorem own_n4 {y x : Int32} (h : y = (x &&& (3 : Int32))) : y = 0 ∨ y = 1 ∨ y = 2 ∨ y = 3 := by
  have h1 := c_and x 3 (by decide)
  rw [show (3 : Int32).toInt = 3 by decide, ← h] at h1
  have h4 : y.toInt = 0 ∨ y.toInt = 1 ∨ y.toInt = 2 ∨ y.toInt = 3 := by omega
  rcases h4 with q | q | q | q
  · exact Or.inl (Int32.toInt_inj.mp q)
  · exact Or.inr (Or.inl (Int32.toInt_inj.mp q))
  · exact Or.inr (Or.inr (Or.inl (Int32.toInt_inj.mp q)))
  · exact Or.inr (Or.inr (Or.inr (Int32.toInt_inj.mp q)))
theorem own_vl (n x y z : Int32) : (vlist n x y z).length ≤ 3 := by
  rw [vlist]; repeat' split
  all_goals simp
theorem own_l0 (n x y z : Int32) : ([] : List Value).length + (vlist n x y z).length ≤ 200 := by have := own_vl n x y z; simp only [List.length_nil]; omega
theorem own_l1 (n x y z : Int32) : (T1 n x y z).length + (vlist n x y z).length ≤ 200 := by have := own_vl n x y z; simp only [T1, tPre, tPost, List.length_append, List.length_cons, List.length_nil]; omega
theorem own_t1 (n x y z : Int32) : (T1 n x y z).length < 256 := by have := own_vl n x y z; simp only [T1, tPre, tPost, List.length_append, List.length_cons, List.length_nil]; omega
theorem own_t2 (n x y z : Int32) : (T2 n x y z).length < 256 := by have := own_vl n x y z; simp only [T2, T1, tPre, tPost, List.length_append, List.length_cons, List.length_nil]; omega
theorem own_k2 {n : Int32} (x y z : Int32) (hn : n = 0 ∨ n = 1 ∨ n = 2 ∨ n = 3) : NI (T2 n x y z).length = (2 : Int32) * NI (elist n x y z).length := by
  rcases hn with rfl | rfl | rfl | rfl
  · show NI 36 = (2 : Int32) * NI 18; decide
  · show NI 38 = (2 : Int32) * NI 19; decide
  · show NI 40 = (2 : Int32) * NI 20; decide
  · show NI 42 = (2 : Int32) * NI 21; decide
theorem own_last {y x : Int32} (h : y = ((x &&& (255 : Int32)).toUInt32.toUInt16.toUInt32.toInt32)) : (nar .char (nar .char ((B8 (nar .char y)) &&& (255 : Int32)).toUInt32.toUInt16.toUInt32.toInt32)) = y := by
  have h1 := c_and x 255 (by decide)
  rw [show (255 : Int32).toInt = 255 by decide] at h1
  have hy : 0 ≤ y.toInt ∧ y.toInt < 256 := by rw [h]; have := c_i2c (x &&& 255); omega
  have key : ∀ i : Fin 256, (nar .char (nar .char ((B8 (nar .char (Int32.ofNat i))) &&& (255 : Int32)).toUInt32.toUInt16.toUInt32.toInt32)) = Int32.ofNat i := by decide +kernel
  have hn : y = Int32.ofNat (⟨y.toInt.toNat, by omega⟩ : Fin 256).val := by
    apply Int32.toInt_inj.mp
    rw [Int32.toInt_ofNat_of_lt (by simp only; omega)]
    simp only; omega
  rw [hn]; exact key _
theorem own_ch0 {n : Int32} (x y z : Int32) (hn : n = 0 ∨ n = 1 ∨ n = 2 ∨ n = 3) : ¬ (0 : Int32) < 0 ∧ (0 : Int32) < NI (T2 n x y z).length ∧ (T2 n x y z).getD ((0 : Int32)).toNatClampNeg (.int 0) = .int 60 := by
  rcases hn with rfl | rfl | rfl | rfl
  · refine ⟨(by show ¬ (0 : Int32) < 0; decide), (by show (0 : Int32) < NI 36; decide), ?_⟩
    show (T2 0 x y z).getD ((0 : Int32)).toNatClampNeg (.int 0) = _
    rw [show ((0 : Int32)).toNatClampNeg = 0 from by decide]; rfl
  · refine ⟨(by show ¬ (0 : Int32) < 0; decide), (by show (0 : Int32) < NI 38; decide), ?_⟩
    show (T2 1 x y z).getD ((0 : Int32)).toNatClampNeg (.int 0) = _
    rw [show ((0 : Int32)).toNatClampNeg = 0 from by decide]; rfl
  · refine ⟨(by show ¬ (0 : Int32) < 0; decide), (by show (0 : Int32) < NI 40; decide), ?_⟩
    show (T2 2 x y z).getD ((0 : Int32)).toNatClampNeg (.int 0) = _
    rw [show ((0 : Int32)).toNatClampNeg = 0 from by decide]; rfl
  · refine ⟨(by show ¬ (0 : Int32) < 0; decide), (by show (0 : Int32) < NI 42; decide), ?_⟩
    show (T2 3 x y z).getD ((0 : Int32)).toNatClampNeg (.int 0) = _
    rw [show ((0 : Int32)).toNatClampNeg = 0 from by decide]; rfl
theorem own_ch1 {n : Int32} (x y z : Int32) (hn : n = 0 ∨ n = 1 ∨ n = 2 ∨ n = 3) : ¬ ((NI (elist n x y z).length) - (1 : Int32)) < 0 ∧ ((NI (elist n x y z).length) - (1 : Int32)) < NI (T2 n x y z).length ∧ (T2 n x y z).getD (((NI (elist n x y z).length) - (1 : Int32))).toNatClampNeg (.int 0) = .int 62 := by
  rcases hn with rfl | rfl | rfl | rfl
  · refine ⟨(by show ¬ (NI 18 - (1 : Int32)) < 0; decide), (by show (NI 18 - (1 : Int32)) < NI 36; decide), ?_⟩
    show (T2 0 x y z).getD ((NI 18 - (1 : Int32))).toNatClampNeg (.int 0) = _
    rw [show ((NI 18 - (1 : Int32))).toNatClampNeg = 17 from by decide]; rfl
  · refine ⟨(by show ¬ (NI 19 - (1 : Int32)) < 0; decide), (by show (NI 19 - (1 : Int32)) < NI 38; decide), ?_⟩
    show (T2 1 x y z).getD ((NI 19 - (1 : Int32))).toNatClampNeg (.int 0) = _
    rw [show ((NI 19 - (1 : Int32))).toNatClampNeg = 18 from by decide]; rfl
  · refine ⟨(by show ¬ (NI 20 - (1 : Int32)) < 0; decide), (by show (NI 20 - (1 : Int32)) < NI 40; decide), ?_⟩
    show (T2 2 x y z).getD ((NI 20 - (1 : Int32))).toNatClampNeg (.int 0) = _
    rw [show ((NI 20 - (1 : Int32))).toNatClampNeg = 19 from by decide]; rfl
  · refine ⟨(by show ¬ (NI 21 - (1 : Int32)) < 0; decide), (by show (NI 21 - (1 : Int32)) < NI 42; decide), ?_⟩
    show (T2 3 x y z).getD ((NI 21 - (1 : Int32))).toNatClampNeg (.int 0) = _
    rw [show ((NI 21 - (1 : Int32))).toNatClampNeg = 20 from by decide]; rfl
theorem own_ch2 {n : Int32} (x y z : Int32) (hn : n = 0 ∨ n = 1 ∨ n = 2 ∨ n = 3) : ¬ (NI (elist n x y z).length) < 0 ∧ (NI (elist n x y z).length) < NI (T2 n x y z).length ∧ (T2 n x y z).getD ((NI (elist n x y z).length)).toNatClampNeg (.int 0) = .int 60 := by
  rcases hn with rfl | rfl | rfl | rfl
  · refine ⟨(by show ¬ NI 18 < 0; decide), (by show NI 18 < NI 36; decide), ?_⟩
    show (T2 0 x y z).getD (NI 18).toNatClampNeg (.int 0) = _
    rw [show (NI 18).toNatClampNeg = 18 from by decide]; rfl
  · refine ⟨(by show ¬ NI 19 < 0; decide), (by show NI 19 < NI 38; decide), ?_⟩
    show (T2 1 x y z).getD (NI 19).toNatClampNeg (.int 0) = _
    rw [show (NI 19).toNatClampNeg = 19 from by decide]; rfl
  · refine ⟨(by show ¬ NI 20 < 0; decide), (by show NI 20 < NI 40; decide), ?_⟩
    show (T2 2 x y z).getD (NI 20).toNatClampNeg (.int 0) = _
    rw [show (NI 20).toNatClampNeg = 20 from by decide]; rfl
  · refine ⟨(by show ¬ NI 21 < 0; decide), (by show NI 21 < NI 42; decide), ?_⟩
    show (T2 3 x y z).getD (NI 21).toNatClampNeg (.int 0) = _
    rw [show (NI 21).toNatClampNeg = 21 from by decide]; rfl
theorem own_ch3 {n : Int32} (x y z : Int32) (hn : n = 0 ∨ n = 1 ∨ n = 2 ∨ n = 3) : ¬ ((NI (elist n x y z).length) + (14 : Int32)) < 0 ∧ ((NI (elist n x y z).length) + (14 : Int32)) < NI (T2 n x y z).length ∧ (T2 n x y z).getD (((NI (elist n x y z).length) + (14 : Int32))).toNatClampNeg (.int 0) = .int 34 := by
  rcases hn with rfl | rfl | rfl | rfl
  · refine ⟨(by show ¬ (NI 18 + (14 : Int32)) < 0; decide), (by show (NI 18 + (14 : Int32)) < NI 36; decide), ?_⟩
    show (T2 0 x y z).getD ((NI 18 + (14 : Int32))).toNatClampNeg (.int 0) = _
    rw [show ((NI 18 + (14 : Int32))).toNatClampNeg = 32 from by decide]; rfl
  · refine ⟨(by show ¬ (NI 19 + (14 : Int32)) < 0; decide), (by show (NI 19 + (14 : Int32)) < NI 38; decide), ?_⟩
    show (T2 1 x y z).getD ((NI 19 + (14 : Int32))).toNatClampNeg (.int 0) = _
    rw [show ((NI 19 + (14 : Int32))).toNatClampNeg = 33 from by decide]; rfl
  · refine ⟨(by show ¬ (NI 20 + (14 : Int32)) < 0; decide), (by show (NI 20 + (14 : Int32)) < NI 40; decide), ?_⟩
    show (T2 2 x y z).getD ((NI 20 + (14 : Int32))).toNatClampNeg (.int 0) = _
    rw [show ((NI 20 + (14 : Int32))).toNatClampNeg = 34 from by decide]; rfl
  · refine ⟨(by show ¬ (NI 21 + (14 : Int32)) < 0; decide), (by show (NI 21 + (14 : Int32)) < NI 42; decide), ?_⟩
    show (T2 3 x y z).getD ((NI 21 + (14 : Int32))).toNatClampNeg (.int 0) = _
    rw [show ((NI 21 + (14 : Int32))).toNatClampNeg = 35 from by decide]; rfl
theorem own_ch4 {n : Int32} (x y z : Int32) (hn : n = 0 ∨ n = 1 ∨ n = 2 ∨ n = 3) : ¬ (((NI (elist n x y z).length) + (15 : Int32)) + n) < 0 ∧ (((NI (elist n x y z).length) + (15 : Int32)) + n) < NI (T2 n x y z).length ∧ (T2 n x y z).getD ((((NI (elist n x y z).length) + (15 : Int32)) + n)).toNatClampNeg (.int 0) = .int 34 := by
  rcases hn with rfl | rfl | rfl | rfl
  · refine ⟨(by show ¬ ((NI 18 + (15 : Int32)) + 0) < 0; decide), (by show ((NI 18 + (15 : Int32)) + 0) < NI 36; decide), ?_⟩
    show (T2 0 x y z).getD (((NI 18 + (15 : Int32)) + 0)).toNatClampNeg (.int 0) = _
    rw [show (((NI 18 + (15 : Int32)) + 0)).toNatClampNeg = 33 from by decide]; rfl
  · refine ⟨(by show ¬ ((NI 19 + (15 : Int32)) + 1) < 0; decide), (by show ((NI 19 + (15 : Int32)) + 1) < NI 38; decide), ?_⟩
    show (T2 1 x y z).getD (((NI 19 + (15 : Int32)) + 1)).toNatClampNeg (.int 0) = _
    rw [show (((NI 19 + (15 : Int32)) + 1)).toNatClampNeg = 35 from by decide]; rfl
  · refine ⟨(by show ¬ ((NI 20 + (15 : Int32)) + 2) < 0; decide), (by show ((NI 20 + (15 : Int32)) + 2) < NI 40; decide), ?_⟩
    show (T2 2 x y z).getD (((NI 20 + (15 : Int32)) + 2)).toNatClampNeg (.int 0) = _
    rw [show (((NI 20 + (15 : Int32)) + 2)).toNatClampNeg = 37 from by decide]; rfl
  · refine ⟨(by show ¬ ((NI 21 + (15 : Int32)) + 3) < 0; decide), (by show ((NI 21 + (15 : Int32)) + 3) < NI 42; decide), ?_⟩
    show (T2 3 x y z).getD (((NI 21 + (15 : Int32)) + 3)).toNatClampNeg (.int 0) = _
    rw [show (((NI 21 + (15 : Int32)) + 3)).toNatClampNeg = 39 from by decide]; rfl
theorem own_ch5 {n : Int32} (x y z : Int32) (hn : n = 0 ∨ n = 1 ∨ n = 2 ∨ n = 3) : ¬ (((2 : Int32) * (NI (elist n x y z).length)) - (1 : Int32)) < 0 ∧ (((2 : Int32) * (NI (elist n x y z).length)) - (1 : Int32)) < NI (T2 n x y z).length ∧ (T2 n x y z).getD ((((2 : Int32) * (NI (elist n x y z).length)) - (1 : Int32))).toNatClampNeg (.int 0) = .int 62 := by
  rcases hn with rfl | rfl | rfl | rfl
  · refine ⟨(by show ¬ (((2 : Int32) * NI 18) - (1 : Int32)) < 0; decide), (by show (((2 : Int32) * NI 18) - (1 : Int32)) < NI 36; decide), ?_⟩
    show (T2 0 x y z).getD ((((2 : Int32) * NI 18) - (1 : Int32))).toNatClampNeg (.int 0) = _
    rw [show ((((2 : Int32) * NI 18) - (1 : Int32))).toNatClampNeg = 35 from by decide]; rfl
  · refine ⟨(by show ¬ (((2 : Int32) * NI 19) - (1 : Int32)) < 0; decide), (by show (((2 : Int32) * NI 19) - (1 : Int32)) < NI 38; decide), ?_⟩
    show (T2 1 x y z).getD ((((2 : Int32) * NI 19) - (1 : Int32))).toNatClampNeg (.int 0) = _
    rw [show ((((2 : Int32) * NI 19) - (1 : Int32))).toNatClampNeg = 37 from by decide]; rfl
  · refine ⟨(by show ¬ (((2 : Int32) * NI 20) - (1 : Int32)) < 0; decide), (by show (((2 : Int32) * NI 20) - (1 : Int32)) < NI 40; decide), ?_⟩
    show (T2 2 x y z).getD ((((2 : Int32) * NI 20) - (1 : Int32))).toNatClampNeg (.int 0) = _
    rw [show ((((2 : Int32) * NI 20) - (1 : Int32))).toNatClampNeg = 39 from by decide]; rfl
  · refine ⟨(by show ¬ (((2 : Int32) * NI 21) - (1 : Int32)) < 0; decide), (by show (((2 : Int32) * NI 21) - (1 : Int32)) < NI 42; decide), ?_⟩
    show (T2 3 x y z).getD ((((2 : Int32) * NI 21) - (1 : Int32))).toNatClampNeg (.int 0) = _
    rw [show ((((2 : Int32) * NI 21) - (1 : Int32))).toNatClampNeg = 41 from by decide]; rfl
theorem own_ch6 {n : Int32} (x y z : Int32) (hn : n = 0 ∨ n = 1 ∨ n = 2 ∨ n = 3) (h0 : ¬ n = 0) : ¬ ((NI (elist n x y z).length) + (15 : Int32)) < 0 ∧ ((NI (elist n x y z).length) + (15 : Int32)) < NI (T2 n x y z).length ∧ (T2 n x y z).getD (((NI (elist n x y z).length) + (15 : Int32))).toNatClampNeg (.int 0) = .int (B8 (nar .char x)) := by
  rcases hn with rfl | rfl | rfl | rfl
  · exact absurd rfl h0
  · refine ⟨(by show ¬ (NI 19 + (15 : Int32)) < 0; decide), (by show (NI 19 + (15 : Int32)) < NI 38; decide), ?_⟩
    show (T2 1 x y z).getD ((NI 19 + (15 : Int32))).toNatClampNeg (.int 0) = _
    rw [show ((NI 19 + (15 : Int32))).toNatClampNeg = 34 from by decide]; rfl
  · refine ⟨(by show ¬ (NI 20 + (15 : Int32)) < 0; decide), (by show (NI 20 + (15 : Int32)) < NI 40; decide), ?_⟩
    show (T2 2 x y z).getD ((NI 20 + (15 : Int32))).toNatClampNeg (.int 0) = _
    rw [show ((NI 20 + (15 : Int32))).toNatClampNeg = 35 from by decide]; rfl
  · refine ⟨(by show ¬ (NI 21 + (15 : Int32)) < 0; decide), (by show (NI 21 + (15 : Int32)) < NI 42; decide), ?_⟩
    show (T2 3 x y z).getD ((NI 21 + (15 : Int32))).toNatClampNeg (.int 0) = _
    rw [show ((NI 21 + (15 : Int32))).toNatClampNeg = 36 from by decide]; rfl
theorem ef_law (m : MethodId) (x0 : Int32) (x1 : Int32) (x2 : Int32) (x3 : Int32) : entryFrame m #[(.int x0), (.int x1), (.int x2), (.int x3)] maxLocals = mkF m 0 #[.val (.int x0), .val (.int x1), .val (.int x2), .val (.int x3), .unset, .unset, .unset, .unset, .unset, .unset, .unset, .unset, .unset, .unset, .unset] [] := by first | (simp [entryFrame, mkF, argsToLocals, Value.category, maxLocals]; done) | rfl
theorem pn_law : plainFor x = true := by first | exact plainFor_of_name (by first | (simp [plainName, overriddenIn]; done) | decide +kernel) | decide +kernel
set_option maxRecDepth 65536 in
set_option maxHeartbeats 40000000 in
theorem rm_law (l : Launch) (Z : State) (a0 : Array Value) (hw : ∀ d ∈ tables_1, d.before a0 Z = true) (x0 : Int32) (x1 : Int32) (x2 : Int32) (x3 : Int32) (cs : Int32) (fm : Value) (rd : Addr) (n0 : Nat) (h0 : Heap) (Z0 : n0 ≤ h0.size) (S0 : Sta Z h0 "java/lang/String" "COMPACT_STRINGS" "Z" (.int cs)) (hcs : ¬ cs = 0) (SF : Sta Z h0 "jdk/internal/util/Preconditions" "SIOOBE_FORMATTER" "Ljava/util/function/BiFunction;" fm) (hfm : fm.isRef = true) (SD : Sta Z h0 "java/util/ArrayList" "DEFAULTCAPACITY_EMPTY_ELEMENTDATA" "[Ljava/lang/Object;" (.ref rd)) :
    OMetK l Z own_EL [] x code maxLocals ret tables_1 room_1 #[(.int x0), (.int x1), (.int x2), (.int x3)] h0 (fun v h L => v = some (.int 1) ∧ Fr n0 L) := by
  refine OMetK.of pn_law ?_
  intro p e s m below meth c T0 X0 hx hby hml hown0 hnm hret hlk hZ e0 hs0 Cv0 Sf0
  have C0 := CHr.refl Cv0
  have hown : s.vm.findClass "com/example/loomwire/loomwire/soap/XmlWriterWriteStartDocument304PinLaw" = some m.cls := hown0
  refine OGo.go (fun t k => castTop (ef_law m x0 x1 x2 x3) k) ?_
  have wS : ∀ a ∈ Bundle.stringAtoms, a.before a0 Z = true := fun d hd => by
    simp only [Bundle.stringAtoms, List.mem_cons, List.not_mem_nil, or_false] at hd
    rcases hd with rfl | rfl | rfl | rfl | rfl | rfl | rfl
    all_goals first | exact hw _ (List.mem_of_getElem? (i := 6) rfl) | exact hw _ (List.mem_of_getElem? (i := 5) rfl) | exact hw _ (List.mem_of_getElem? (i := 19) rfl) | exact hw _ (List.mem_of_getElem? (i := 20) rfl) | exact hw _ (List.mem_of_getElem? (i := 21) rfl) | exact hw _ (List.mem_of_getElem? (i := 22) rfl) | exact hw _ (List.mem_of_getElem? (i := 23) rfl)
  have hEL : EW Z a0 own_EL := EW.cons (hw _ (List.mem_of_getElem? (i := 123) rfl)) (by decide +kernel) (EW.cons (hw _ (List.mem_of_getElem? (i := 171) rfl)) (by decide +kernel) (EW.cons (hw _ (List.mem_of_getElem? (i := 18) rfl)) (by decide +kernel) EW.nil))
  refine OGo.go (U' := T0.setTop (mkF m 1 #[.val (.int x0), .val (.int x1), .val (.int x2), .val (.int x3), .unset, .unset, .unset, .unset, .unset, .unset, .unset, .unset, .unset, .unset, .unset] [(.int x0)])) (fun _ k => XS.iloadN X0.here hx rfl (hb hby at_0) rfl k) ?_
  refine OGo.go (U' := T0.setTop (mkF m 2 #[.val (.int x0), .val (.int x1), .val (.int x2), .val (.int x3), .unset, .unset, .unset, .unset, .unset, .unset, .unset, .unset, .unset, .unset, .unset] [(.int (3 : Int32)), (.int x0)])) (fun _ k => XS.iconst X0.here hx rfl (hb hby at_1) k) ?_
  refine OGo.go (U' := T0.setTop (mkF m 3 #[.val (.int x0), .val (.int x1), .val (.int x2), .val (.int x3), .unset, .unset, .unset, .unset, .unset, .unset, .unset, .unset, .unset, .unset, .unset] [(.int (x0 &&& (3 : Int32)))])) (fun _ k => XS.iand X0.here hx rfl (hb hby at_2) rfl k) ?_
  refine OGo.go (U' := T0.setTop (mkF m 5 #[.val (.int x0), .val (.int x1), .val (.int x2), .val (.int x3), .val (.int (x0 &&& (3 : Int32))), .unset, .unset, .unset, .unset, .unset, .unset, .unset, .unset, .unset, .unset] [])) (fun _ k => XS.istore X0.here hx rfl (hb hby at_3) rfl (l' := #[.val (.int x0), .val (.int x1), .val (.int x2), .val (.int x3), .val (.int (x0 &&& (3 : Int32))), .unset, .unset, .unset, .unset, .unset, .unset, .unset, .unset, .unset, .unset]) rfl k) ?_
  refine OGo.nm (fun (y1 : Int32) => T0.setTop (mkF m 5 #[.val (.int x0), .val (.int x1), .val (.int x2), .val (.int x3), .val (.int y1), .unset, .unset, .unset, .unset, .unset, .unset, .unset, .unset, .unset, .unset] [])) (x := (x0 &&& (3 : Int32))) (fun y1 hy1 => ?_)
  have hn := own_n4 hy1
  refine OGo.go (U' := T0.setTop (mkF m 6 #[.val (.int x0), .val (.int x1), .val (.int x2), .val (.int x3), .val (.int y1), .unset, .unset, .unset, .unset, .unset, .unset, .unset, .unset, .unset, .unset] [(.int x1)])) (fun _ k => XS.iloadN X0.here hx rfl (hb hby at_5) rfl k) ?_
  refine OGo.go (U' := T0.setTop (mkF m 9 #[.val (.int x0), .val (.int x1), .val (.int x2), .val (.int x3), .val (.int y1), .unset, .unset, .unset, .unset, .unset, .unset, .unset, .unset, .unset, .unset] [(.int (255 : Int32)), (.int x1)])) (fun _ k => XS.sipush X0.here hx rfl (hb hby at_6) k) ?_
  refine OGo.go (U' := T0.setTop (mkF m 10 #[.val (.int x0), .val (.int x1), .val (.int x2), .val (.int x3), .val (.int y1), .unset, .unset, .unset, .unset, .unset, .unset, .unset, .unset, .unset, .unset] [(.int (x1 &&& (255 : Int32)))])) (fun _ k => XS.iand X0.here hx rfl (hb hby at_9) rfl k) ?_
  refine OGo.go (U' := T0.setTop (mkF m 11 #[.val (.int x0), .val (.int x1), .val (.int x2), .val (.int x3), .val (.int y1), .unset, .unset, .unset, .unset, .unset, .unset, .unset, .unset, .unset, .unset] [(.int ((x1 &&& (255 : Int32)).toUInt32.toUInt16.toUInt32.toInt32))])) (fun _ k => XS.i2c X0.here hx rfl (hb hby at_10) rfl k) ?_
  refine OGo.go (U' := T0.setTop (mkF m 13 #[.val (.int x0), .val (.int x1), .val (.int x2), .val (.int x3), .val (.int y1), .val (.int ((x1 &&& (255 : Int32)).toUInt32.toUInt16.toUInt32.toInt32)), .unset, .unset, .unset, .unset, .unset, .unset, .unset, .unset, .unset] [])) (fun _ k => XS.istore X0.here hx rfl (hb hby at_11) rfl (l' := #[.val (.int x0), .val (.int x1), .val (.int x2), .val (.int x3), .val (.int y1), .val (.int ((x1 &&& (255 : Int32)).toUInt32.toUInt16.toUInt32.toInt32)), .unset, .unset, .unset, .unset, .unset, .unset, .unset, .unset, .unset]) rfl k) ?_
  refine OGo.nm (fun (y2 : Int32) => T0.setTop (mkF m 13 #[.val (.int x0), .val (.int x1), .val (.int x2), .val (.int x3), .val (.int y1), .val (.int y2), .unset, .unset, .unset, .unset, .unset, .unset, .unset, .unset, .unset] [])) (x := ((x1 &&& (255 : Int32)).toUInt32.toUInt16.toUInt32.toInt32)) (fun y2 hy2 => ?_)
  refine OGo.go (U' := T0.setTop (mkF m 14 #[.val (.int x0), .val (.int x1), .val (.int x2), .val (.int x3), .val (.int y1), .val (.int y2), .unset, .unset, .unset, .unset, .unset, .unset, .unset, .unset, .unset] [(.int x2)])) (fun _ k => XS.iloadN X0.here hx rfl (hb hby at_13) rfl k) ?_
  refine OGo.go (U' := T0.setTop (mkF m 17 #[.val (.int x0), .val (.int x1), .val (.int x2), .val (.int x3), .val (.int y1), .val (.int y2), .unset, .unset, .unset, .unset, .unset, .unset, .unset, .unset, .unset] [(.int (255 : Int32)), (.int x2)])) (fun _ k => XS.sipush X0.here hx rfl (hb hby at_14) k) ?_
  refine OGo.go (U' := T0.setTop (mkF m 18 #[.val (.int x0), .val (.int x1), .val (.int x2), .val (.int x3), .val (.int y1), .val (.int y2), .unset, .unset, .unset, .unset, .unset, .unset, .unset, .unset, .unset] [(.int (x2 &&& (255 : Int32)))])) (fun _ k => XS.iand X0.here hx rfl (hb hby at_17) rfl k) ?_
  refine OGo.go (U' := T0.setTop (mkF m 19 #[.val (.int x0), .val (.int x1), .val (.int x2), .val (.int x3), .val (.int y1), .val (.int y2), .unset, .unset, .unset, .unset, .unset, .unset, .unset, .unset, .unset] [(.int ((x2 &&& (255 : Int32)).toUInt32.toUInt16.toUInt32.toInt32))])) (fun _ k => XS.i2c X0.here hx rfl (hb hby at_18) rfl k) ?_
  refine OGo.go (U' := T0.setTop (mkF m 21 #[.val (.int x0), .val (.int x1), .val (.int x2), .val (.int x3), .val (.int y1), .val (.int y2), .val (.int ((x2 &&& (255 : Int32)).toUInt32.toUInt16.toUInt32.toInt32)), .unset, .unset, .unset, .unset, .unset, .unset, .unset, .unset] [])) (fun _ k => XS.istore X0.here hx rfl (hb hby at_19) rfl (l' := #[.val (.int x0), .val (.int x1), .val (.int x2), .val (.int x3), .val (.int y1), .val (.int y2), .val (.int ((x2 &&& (255 : Int32)).toUInt32.toUInt16.toUInt32.toInt32)), .unset, .unset, .unset, .unset, .unset, .unset, .unset, .unset]) rfl k) ?_
  refine OGo.nm (fun (y3 : Int32) => T0.setTop (mkF m 21 #[.val (.int x0), .val (.int x1), .val (.int x2), .val (.int x3), .val (.int y1), .val (.int y2), .val (.int y3), .unset, .unset, .unset, .unset, .unset, .unset, .unset, .unset] [])) (x := ((x2 &&& (255 : Int32)).toUInt32.toUInt16.toUInt32.toInt32)) (fun y3 hy3 => ?_)
  refine OGo.go (U' := T0.setTop (mkF m 22 #[.val (.int x0), .val (.int x1), .val (.int x2), .val (.int x3), .val (.int y1), .val (.int y2), .val (.int y3), .unset, .unset, .unset, .unset, .unset, .unset, .unset, .unset] [(.int x3)])) (fun _ k => XS.iloadN X0.here hx rfl (hb hby at_21) rfl k) ?_
  refine OGo.go (U' := T0.setTop (mkF m 25 #[.val (.int x0), .val (.int x1), .val (.int x2), .val (.int x3), .val (.int y1), .val (.int y2), .val (.int y3), .unset, .unset, .unset, .unset, .unset, .unset, .unset, .unset] [(.int (255 : Int32)), (.int x3)])) (fun _ k => XS.sipush X0.here hx rfl (hb hby at_22) k) ?_
  refine OGo.go (U' := T0.setTop (mkF m 26 #[.val (.int x0), .val (.int x1), .val (.int x2), .val (.int x3), .val (.int y1), .val (.int y2), .val (.int y3), .unset, .unset, .unset, .unset, .unset, .unset, .unset, .unset] [(.int (x3 &&& (255 : Int32)))])) (fun _ k => XS.iand X0.here hx rfl (hb hby at_25) rfl k) ?_
  refine OGo.go (U' := T0.setTop (mkF m 27 #[.val (.int x0), .val (.int x1), .val (.int x2), .val (.int x3), .val (.int y1), .val (.int y2), .val (.int y3), .unset, .unset, .unset, .unset, .unset, .unset, .unset, .unset] [(.int ((x3 &&& (255 : Int32)).toUInt32.toUInt16.toUInt32.toInt32))])) (fun _ k => XS.i2c X0.here hx rfl (hb hby at_26) rfl k) ?_
  refine OGo.go (U' := T0.setTop (mkF m 29 #[.val (.int x0), .val (.int x1), .val (.int x2), .val (.int x3), .val (.int y1), .val (.int y2), .val (.int y3), .val (.int ((x3 &&& (255 : Int32)).toUInt32.toUInt16.toUInt32.toInt32)), .unset, .unset, .unset, .unset, .unset, .unset, .unset] [])) (fun _ k => XS.istore X0.here hx rfl (hb hby at_27) rfl (l' := #[.val (.int x0), .val (.int x1), .val (.int x2), .val (.int x3), .val (.int y1), .val (.int y2), .val (.int y3), .val (.int ((x3 &&& (255 : Int32)).toUInt32.toUInt16.toUInt32.toInt32)), .unset, .unset, .unset, .unset, .unset, .unset, .unset]) rfl k) ?_
  refine OGo.nm (fun (y4 : Int32) => T0.setTop (mkF m 29 #[.val (.int x0), .val (.int x1), .val (.int x2), .val (.int x3), .val (.int y1), .val (.int y2), .val (.int y3), .val (.int y4), .unset, .unset, .unset, .unset, .unset, .unset, .unset] [])) (x := ((x3 &&& (255 : Int32)).toUInt32.toUInt16.toUInt32.toInt32)) (fun y4 hy4 => ?_)
  refine OGo.go (U' := T0.setTop (mkF m 31 #[.val (.int x0), .val (.int x1), .val (.int x2), .val (.int x3), .val (.int y1), .val (.int y2), .val (.int y3), .val (.int y4), .unset, .unset, .unset, .unset, .unset, .unset, .unset] [(.int y1)])) (fun _ k => XS.iload X0.here hx rfl (hb hby at_29) rfl k) ?_
  refine OGo.go (U' := T0.setTop (mkF m 33 #[.val (.int x0), .val (.int x1), .val (.int x2), .val (.int x3), .val (.int y1), .val (.int y2), .val (.int y3), .val (.int y4), .unset, .unset, .unset, .unset, .unset, .unset, .unset] [(.int y2), (.int y1)])) (fun _ k => XS.iload X0.here hx rfl (hb hby at_31) rfl k) ?_
  refine OGo.go (U' := T0.setTop (mkF m 35 #[.val (.int x0), .val (.int x1), .val (.int x2), .val (.int x3), .val (.int y1), .val (.int y2), .val (.int y3), .val (.int y4), .unset, .unset, .unset, .unset, .unset, .unset, .unset] [(.int y3), (.int y2), (.int y1)])) (fun _ k => XS.iload X0.here hx rfl (hb hby at_33) rfl k) ?_
  refine OGo.go (U' := T0.setTop (mkF m 37 #[.val (.int x0), .val (.int x1), .val (.int x2), .val (.int x3), .val (.int y1), .val (.int y2), .val (.int y3), .val (.int y4), .unset, .unset, .unset, .unset, .unset, .unset, .unset] [(.int y4), (.int y3), (.int y2), (.int y1)])) (fun _ k => XS.iload X0.here hx rfl (hb hby at_35) rfl k) ?_
  refine OGo.callSK (s := s) (vm0 := s.vm) X0 hx hZ ((State.WarmedH.refl s).since 0) (Nat.zero_le _) hEL C0.1 (fun _ q => absurd q List.not_mem_nil) (y := (⟨"com/example/loomwire/loomwire/soap/XmlWriterWriteStartDocument304PinLaw", "version", "(ICCC)Ljava/lang/String;"⟩ : MethodName)) hown (g := (mkF m 37 #[.val (.int x0), .val (.int x1), .val (.int x2), .val (.int x3), .val (.int y1), .val (.int y2), .val (.int y3), .val (.int y4), .unset, .unset, .unset, .unset, .unset, .unset, .unset] [(.int y4), (.int y3), (.int y2), (.int y1)])) (argsL := [(.int y1), (.int y2), (.int y3), (.int y4)]) (rest := []) e0 (hw _ (List.mem_of_getElem? (i := 0) rfl)) (hw _ (List.mem_of_getElem? (i := 1) rfl)) (hw _ (List.mem_of_getElem? (i := 2) rfl)) (hw _ (List.mem_of_getElem? (i := 3) rfl)) (by decide) (rm_ver l Z a0 hw y1 y2 y3 y4 cs n0 h0 Z0 S0 hcs (own_c8h hy2) (own_c8h hy3) (own_c8h hy4)) rfl (by rw [hml]; rfl) (lenOf pd_25 rfl) rfl (W := 0) (by show 2 * 0 + _ ≤ _; exact Nat.le_of_eq rfl) (hb hby at_37) (by decide) (by decide) (by decide) (by decide) ?_
  rintro _ T5 L5 X5 ⟨a5, b5, k5, rfl, N5, K5, Es5, sc5, sv5, A5, ga5⟩ hS5 hZ5 hown5 Ch5
  have e5 : T5.heap = T5.heap := rfl
  have N6 := Fr.app (Fr.nil n0) N5
  have g7 : n0 ≤ a5 := Nat.le_trans Z0 ga5
  have sz8 := Nat.le_trans (Keep.refl h0 []).1 ga5
  have f9 := own_sta_keep S0 K5 all0
  have f10 := own_sta_keep SF K5 all0
  have f11 := own_sta_keep SD K5 all0
  have K12 := (Keep.refl h0 []).trans K5 all0
  show OGo p e below _ (T5.setTop (mkF m 40 #[.val (.int x0), .val (.int x1), .val (.int x2), .val (.int x3), .val (.int y1), .val (.int y2), .val (.int y3), .val (.int y4), .unset, .unset, .unset, .unset, .unset, .unset, .unset] [(.ref a5)]))
  have C13 := CHr.trans C0 Ch5
  refine OGo.go (U' := T5.setTop (mkF m 42 #[.val (.int x0), .val (.int x1), .val (.int x2), .val (.int x3), .val (.int y1), .val (.int y2), .val (.int y3), .val (.int y4), .val (.ref a5), .unset, .unset, .unset, .unset, .unset, .unset] [])) (fun _ k => XS.astore X5.here hx rfl (hb hby at_40) rfl rfl (l' := #[.val (.int x0), .val (.int x1), .val (.int x2), .val (.int x3), .val (.int y1), .val (.int y2), .val (.int y3), .val (.int y4), .val (.ref a5), .unset, .unset, .unset, .unset, .unset, .unset]) rfl k) ?_
  refine OGo.go (U' := T5.setTop (mkF m 44 #[.val (.int x0), .val (.int x1), .val (.int x2), .val (.int x3), .val (.int y1), .val (.int y2), .val (.int y3), .val (.int y4), .val (.ref a5), .unset, .unset, .unset, .unset, .unset, .unset] [(.int y1)])) (fun _ k => XS.iload X5.here hx rfl (hb hby at_42) rfl k) ?_
  refine OGo.go (U' := T5.setTop (mkF m 46 #[.val (.int x0), .val (.int x1), .val (.int x2), .val (.int x3), .val (.int y1), .val (.int y2), .val (.int y3), .val (.int y4), .val (.ref a5), .unset, .unset, .unset, .unset, .unset, .unset] [(.int y2), (.int y1)])) (fun _ k => XS.iload X5.here hx rfl (hb hby at_44) rfl k) ?_
  refine OGo.go (U' := T5.setTop (mkF m 48 #[.val (.int x0), .val (.int x1), .val (.int x2), .val (.int x3), .val (.int y1), .val (.int y2), .val (.int y3), .val (.int y4), .val (.ref a5), .unset, .unset, .unset, .unset, .unset, .unset] [(.int y3), (.int y2), (.int y1)])) (fun _ k => XS.iload X5.here hx rfl (hb hby at_46) rfl k) ?_
  refine OGo.go (U' := T5.setTop (mkF m 50 #[.val (.int x0), .val (.int x1), .val (.int x2), .val (.int x3), .val (.int y1), .val (.int y2), .val (.int y3), .val (.int y4), .val (.ref a5), .unset, .unset, .unset, .unset, .unset, .unset] [(.int y4), (.int y3), (.int y2), (.int y1)])) (fun _ k => XS.iload X5.here hx rfl (hb hby at_48) rfl k) ?_
  refine OGo.callS X5 hx hZ5 (y := (⟨"com/example/loomwire/loomwire/soap/XmlWriterWriteStartDocument304PinLaw", "expected", "(ICCC)Ljava/lang/String;"⟩ : MethodName)) hown5 (hw _ (List.mem_of_getElem? (i := 26) rfl)) (hw _ (List.mem_of_getElem? (i := 27) rfl)) (hw _ (List.mem_of_getElem? (i := 2) rfl)) (hw _ (List.mem_of_getElem? (i := 28) rfl)) (by decide) (g := (mkF m 50 #[.val (.int x0), .val (.int x1), .val (.int x2), .val (.int x3), .val (.int y1), .val (.int y2), .val (.int y3), .val (.int y4), .val (.ref a5), .unset, .unset, .unset, .unset, .unset, .unset] [(.int y4), (.int y3), (.int y2), (.int y1)])) (argsL := [(.int y1), (.int y2), (.int y3), (.int y4)]) (rest := []) e5 (rm_exp l Z a0 hw y1 y2 y3 y4 cs n0 T5.heap (Nat.le_trans Z0 K5.1) f9 hcs (own_c8h hy2) (own_c8h hy3) (own_c8h hy4)) rfl (by rw [hml]; rfl) (lenOf pd_25 rfl) rfl (W := 0) (by show 2 * 0 + _ ≤ _; exact Nat.le_of_eq rfl) (hb hby at_50) (by decide) (by decide) (by decide) (by decide) ?_
  rintro _ T14 L14 X14 ⟨a14, b14, k14, rfl, N14, K14, Es14, sc14, sv14, A14, ga14, gb14⟩
  have e14 : T14.heap = T14.heap := rfl
  have N15 := Fr.app N6 N14
  have ne16 : a5 ≠ a14 := Nat.ne_of_lt (Nat.lt_of_lt_of_le Es5.lt ga14)
  have ne17 : b5 ≠ a14 := Nat.ne_of_lt (Nat.lt_of_lt_of_le A5.lt ga14)
  have g18 : n0 ≤ a14 := Nat.le_trans (Nat.le_trans Z0 K5.1) ga14
  have sz19 := Nat.le_trans K12.1 ga14
  have ne20 : a5 ≠ b14 := Nat.ne_of_lt (Nat.lt_of_lt_of_le Es5.lt gb14)
  have ne21 : b5 ≠ b14 := Nat.ne_of_lt (Nat.lt_of_lt_of_le A5.lt gb14)
  have g22 : n0 ≤ b14 := Nat.le_trans (Nat.le_trans Z0 K5.1) gb14
  have sz23 := Nat.le_trans K12.1 gb14
  have C24 := CHr.trans C13 (CHr.keep K14 sf0 C13.1)
  have Sf25 := Safe.keep K14 sf0 C13.1 (Safe.new ga14)
  have Sf26 := Safe.keep K14 sf0 C13.1 (Safe.new gb14)
  have f27 := own_sta_keep f9 K14 all0
  have f28 := own_sta_keep f10 K14 all0
  have f29 := own_sta_keep f11 K14 all0
  have f30 := Es5.keep K14
  have f31 := sc5.keep K14 nin0
  have f32 := sv5.keep K14 nin0
  have f33 := A5.keep K14 nin0
  have K34 := K12.trans K14 all0
  show OGo p e below _ (T14.setTop (mkF m 53 #[.val (.int x0), .val (.int x1), .val (.int x2), .val (.int x3), .val (.int y1), .val (.int y2), .val (.int y3), .val (.int y4), .val (.ref a5), .unset, .unset, .unset, .unset, .unset, .unset] [(.ref a14)]))
  refine OGo.go (U' := T14.setTop (mkF m 55 #[.val (.int x0), .val (.int x1), .val (.int x2), .val (.int x3), .val (.int y1), .val (.int y2), .val (.int y3), .val (.int y4), .val (.ref a5), .val (.ref a14), .unset, .unset, .unset, .unset, .unset] [])) (fun _ k => XS.astore X14.here hx rfl (hb hby at_53) rfl rfl (l' := #[.val (.int x0), .val (.int x1), .val (.int x2), .val (.int x3), .val (.int y1), .val (.int y2), .val (.int y3), .val (.int y4), .val (.ref a5), .val (.ref a14), .unset, .unset, .unset, .unset, .unset]) rfl k) ?_
  obtain ⟨T35, h35, X35, e35, E35, A35, D35, -, st35⟩ := newO X14 hx hZ5 hown5 (hw _ (List.mem_of_getElem? (i := 40) rfl)) (hw _ (List.mem_of_getElem? (i := 41) rfl)) (hw _ (List.mem_of_getElem? (i := 42) rfl)) e14 (g := (mkF m 55 #[.val (.int x0), .val (.int x1), .val (.int x2), .val (.int x3), .val (.int y1), .val (.int y2), .val (.int y3), .val (.int y4), .val (.ref a5), .val (.ref a14), .unset, .unset, .unset, .unset, .unset] [])) rfl (hb hby at_55) (by decide) (by decide)
  obtain ⟨b35, gb35⟩ : ∃ z, z = T14.heap.size := ⟨_, rfl⟩
  rw [← gb35] at A35 D35 st35
  have ne36 : a5 ≠ b35 := Nat.ne_of_lt (Nat.lt_of_lt_of_le f30.lt (Nat.le_of_eq gb35.symm))
  have ne37 : b5 ≠ b35 := Nat.ne_of_lt (Nat.lt_of_lt_of_le f33.lt (Nat.le_of_eq gb35.symm))
  have ne38 : a14 ≠ b35 := Nat.ne_of_lt (Nat.lt_of_lt_of_le Es14.lt (Nat.le_of_eq gb35.symm))
  have ne39 : b14 ≠ b35 := Nat.ne_of_lt (Nat.lt_of_lt_of_le A14.lt (Nat.le_of_eq gb35.symm))
  have g40 : n0 ≤ b35 := Nat.le_trans (Nat.le_trans (Nat.le_trans Z0 K5.1) K14.1) (Nat.le_of_eq gb35.symm)
  have sz41 := Nat.le_trans K34.1 (Nat.le_of_eq gb35.symm)
  have C42 := CHr.trans C24 (CHr.ext E35 C24.1)
  have Sf43 := Safe.ext E35 C24.1 Sf25
  have Sf44 := Safe.ext E35 C24.1 Sf26
  have Sf45 := Safe.ext E35 C24.1 (Safe.new (Nat.le_of_eq gb35.symm))
  have f46 := f27.ext E35
  have f47 := f28.ext E35
  have f48 := f29.ext E35
  have f49 := f30.ext E35
  have f50 := f31.ext E35
  have f51 := f32.ext E35
  have f52 := f33.ext E35
  have f53 := Es14.ext E35
  have f54 := sc14.ext E35
  have f55 := sv14.ext E35
  have f56 := A14.ext E35
  have K57 := K34.ext E35
  have f58 : Fld Z h35 b35 "com/example/loomwire/loomwire/soap/XmlWriter" "out" "Ljava/lang/StringBuilder;" .null := D35 (Or.inr (hw _ (List.mem_of_getElem? (i := 66) rfl))) (ty := (.object "java/lang/StringBuilder")) (by decide)
  have f59 : Fld Z h35 b35 "com/example/loomwire/loomwire/soap/XmlWriter" "open" "[Ljava/lang/String;" .null := D35 (Or.inl (hw _ (List.mem_of_getElem? (i := 70) rfl))) (ty := (.array (.object "java/lang/String"))) (by decide)
  have f60 : Fld Z h35 b35 "com/example/loomwire/loomwire/soap/XmlWriter" "declarationCounts" "[I" .null := D35 (Or.inl (hw _ (List.mem_of_getElem? (i := 73) rfl))) (ty := (.array .int)) (by decide)
  have f61 : Fld Z h35 b35 "com/example/loomwire/loomwire/soap/XmlWriter" "declarations" "Ljava/util/List;" .null := D35 (Or.inr (hw _ (List.mem_of_getElem? (i := 99) rfl))) (ty := (.object "java/util/List")) (by decide)
  have f62 : Fld Z h35 b35 "com/example/loomwire/loomwire/soap/XmlWriter" "bindings" "Ljava/util/Map;" .null := D35 (Or.inr (hw _ (List.mem_of_getElem? (i := 117) rfl))) (ty := (.object "java/util/Map")) (by decide)
  refine OGo.go (U' := T35.setTop (mkF m 58 #[.val (.int x0), .val (.int x1), .val (.int x2), .val (.int x3), .val (.int y1), .val (.int y2), .val (.int y3), .val (.int y4), .val (.ref a5), .val (.ref a14), .unset, .unset, .unset, .unset, .unset] [(.ref b35)])) st35 ?_
  refine OGo.go (U' := T35.setTop (mkF m 59 #[.val (.int x0), .val (.int x1), .val (.int x2), .val (.int x3), .val (.int y1), .val (.int y2), .val (.int y3), .val (.int y4), .val (.ref a5), .val (.ref a14), .unset, .unset, .unset, .unset, .unset] [(.ref b35), (.ref b35)])) (fun _ k => XS.dup X35.here hx rfl (hb hby at_58) rfl rfl k) ?_
  refine OGo.callI X35 hx hZ5 (y := (⟨"com/example/loomwire/loomwire/soap/XmlWriter", "<init>", "()V"⟩ : MethodName)) rfl hown5 (hw _ (List.mem_of_getElem? (i := 43) rfl)) (hw _ (List.mem_of_getElem? (i := 44) rfl)) (hw _ (List.mem_of_getElem? (i := 42) rfl)) (hw _ (List.mem_of_getElem? (i := 45) rfl)) (by decide) (g := (mkF m 59 #[.val (.int x0), .val (.int x1), .val (.int x2), .val (.int x3), .val (.int y1), .val (.int y2), .val (.int y3), .val (.int y4), .val (.ref a5), .val (.ref a14), .unset, .unset, .unset, .unset, .unset] [(.ref b35), (.ref b35)])) (a := b35) (argsL := []) (rest := [(.ref b35)]) e35 (rm_xwi l Z a0 hw b35 .null .null .null .null .null cs rd n0 h35 (Nat.le_trans (Nat.le_trans (Nat.le_trans Z0 K5.1) K14.1) E35.1) A35 f58 f59 f60 f61 f62 g40 f46 hcs f48) rfl (by rw [hml]; rfl) (lenOf pd_18 rfl) rfl (W := 1) (by show 2 * 0 + _ ≤ _; exact Nat.le_of_eq rfl) (hb hby at_59) (by decide) (by decide) (by decide) (by decide) ?_
  rintro _ T63 L63 X63 ⟨rfl, N63, K63, Ex63, b63, d63, k63, fo63, Eb63, bv63, bc63, bn63, A63, gb63, gd63⟩
  have e63 : T63.heap = T63.heap := rfl
  have N64 := Fr.app N15 N63
  have ne65 : a5 ≠ b63 := Nat.ne_of_lt (Nat.lt_of_lt_of_le f49.lt gb63)
  have ne66 : b5 ≠ b63 := Nat.ne_of_lt (Nat.lt_of_lt_of_le f52.lt gb63)
  have ne67 : a14 ≠ b63 := Nat.ne_of_lt (Nat.lt_of_lt_of_le f53.lt gb63)
  have ne68 : b14 ≠ b63 := Nat.ne_of_lt (Nat.lt_of_lt_of_le f56.lt gb63)
  have ne69 : b35 ≠ b63 := Nat.ne_of_lt (Nat.lt_of_lt_of_le A35.lt gb63)
  have g70 : n0 ≤ b63 := Nat.le_trans (Nat.le_trans (Nat.le_trans (Nat.le_trans Z0 K5.1) K14.1) E35.1) gb63
  have sz71 := Nat.le_trans K57.1 gb63
  have ne72 : a5 ≠ d63 := Nat.ne_of_lt (Nat.lt_of_lt_of_le f49.lt gd63)
  have ne73 : b5 ≠ d63 := Nat.ne_of_lt (Nat.lt_of_lt_of_le f52.lt gd63)
  have ne74 : a14 ≠ d63 := Nat.ne_of_lt (Nat.lt_of_lt_of_le f53.lt gd63)
  have ne75 : b14 ≠ d63 := Nat.ne_of_lt (Nat.lt_of_lt_of_le f56.lt gd63)
  have ne76 : b35 ≠ d63 := Nat.ne_of_lt (Nat.lt_of_lt_of_le A35.lt gd63)
  have g77 : n0 ≤ d63 := Nat.le_trans (Nat.le_trans (Nat.le_trans (Nat.le_trans Z0 K5.1) K14.1) E35.1) gd63
  have sz78 := Nat.le_trans K57.1 gd63
  have C79 := CHr.trans C42 (CHr.keep K63 (sfS Sf45 sf0) C42.1)
  have Sf80 := Safe.keep K63 (sfS Sf45 sf0) C42.1 Sf43
  have Sf81 := Safe.keep K63 (sfS Sf45 sf0) C42.1 Sf44
  have Sf82 := Safe.keep K63 (sfS Sf45 sf0) C42.1 Sf45
  have Sf83 := Safe.keep K63 (sfS Sf45 sf0) C42.1 (Safe.new gb63)
  have Sf84 := Safe.keep K63 (sfS Sf45 sf0) C42.1 (Safe.new gd63)
  have f85 := own_sta_keep f46 K63 (allS (P := fun x => ∀ cell : Cell, _ → cell.vm.isStatics = false) (own_plain A35) all0)
  have f86 := own_sta_keep f47 K63 (allS (P := fun x => ∀ cell : Cell, _ → cell.vm.isStatics = false) (own_plain A35) all0)
  have f87 := own_sta_keep f48 K63 (allS (P := fun x => ∀ cell : Cell, _ → cell.vm.isStatics = false) (own_plain A35) all0)
  have f88 := f49.keep K63
  have f89 := f50.keep K63 (ninS ne36 nin0)
  have f90 := f51.keep K63 (ninS ne36 nin0)
  have f91 := f52.keep K63 (ninS ne37 nin0)
  have f92 := f53.keep K63
  have f93 := f54.keep K63 (ninS ne38 nin0)
  have f94 := f55.keep K63 (ninS ne38 nin0)
  have f95 := f56.keep K63 (ninS ne39 nin0)
  have f96 := A35.keep K63
  have K97 := K57.trans K63 (allS (P := fun x => x ∈ _ ∨ _ ≤ x) (Or.inr sz41) all0)
  have had63 := Exa.neArv Eb63 A63 (hw _ (List.mem_of_getElem? (i := 48) rfl))
  show OGo p e below _ (T63.setTop (mkF m 62 #[.val (.int x0), .val (.int x1), .val (.int x2), .val (.int x3), .val (.int y1), .val (.int y2), .val (.int y3), .val (.int y4), .val (.ref a5), .val (.ref a14), .unset, .unset, .unset, .unset, .unset] [(.ref b35)]))
  refine OGo.go (U' := T63.setTop (mkF m 64 #[.val (.int x0), .val (.int x1), .val (.int x2), .val (.int x3), .val (.int y1), .val (.int y2), .val (.int y3), .val (.int y4), .val (.ref a5), .val (.ref a14), .val (.ref b35), .unset, .unset, .unset, .unset] [])) (fun _ k => XS.astore X63.here hx rfl (hb hby at_62) rfl rfl (l' := #[.val (.int x0), .val (.int x1), .val (.int x2), .val (.int x3), .val (.int y1), .val (.int y2), .val (.int y3), .val (.int y4), .val (.ref a5), .val (.ref a14), .val (.ref b35), .unset, .unset, .unset, .unset]) rfl k) ?_
  refine OGo.go (U' := T63.setTop (mkF m 66 #[.val (.int x0), .val (.int x1), .val (.int x2), .val (.int x3), .val (.int y1), .val (.int y2), .val (.int y3), .val (.int y4), .val (.ref a5), .val (.ref a14), .val (.ref b35), .unset, .unset, .unset, .unset] [(.ref b35)])) (fun _ k => XS.aload X63.here hx rfl (hb hby at_64) rfl rfl k) ?_
  refine OGo.go (U' := T63.setTop (mkF m 68 #[.val (.int x0), .val (.int x1), .val (.int x2), .val (.int x3), .val (.int y1), .val (.int y2), .val (.int y3), .val (.int y4), .val (.ref a5), .val (.ref a14), .val (.ref b35), .unset, .unset, .unset, .unset] [(.ref a5), (.ref b35)])) (fun _ k => XS.aload X63.here hx rfl (hb hby at_66) rfl rfl k) ?_
  refine OGo.callVK (s := s) (vm0 := T5.vm) X63 hx hZ5 hS5 (Nat.le_trans (Nat.le_trans (Nat.le_trans (Nat.le_refl _) K14.1) E35.1) K63.1) hEL C79.1 (fun x hx => by obtain rfl := List.mem_singleton.mp hx; exact ⟨A63.lt, Sf84⟩) (y := (⟨"com/example/loomwire/loomwire/soap/XmlWriter", "writeStartDocument", "(Ljava/lang/String;)V"⟩ : MethodName)) hown5 (g := (mkF m 68 #[.val (.int x0), .val (.int x1), .val (.int x2), .val (.int x3), .val (.int y1), .val (.int y2), .val (.int y3), .val (.int y4), .val (.ref a5), .val (.ref a14), .val (.ref b35), .unset, .unset, .unset, .unset] [(.ref a5), (.ref b35)])) (argsL := [(.ref a5)]) (rest := []) e63 (a := b35) (C := "com/example/loomwire/loomwire/soap/XmlWriter") (hw _ (List.mem_of_getElem? (i := 118) rfl)) (hw _ (List.mem_of_getElem? (i := 119) rfl)) (hw _ (List.mem_of_getElem? (i := 121) rfl)) (hw _ (List.mem_of_getElem? (i := 120) rfl)) (hw _ (List.mem_of_getElem? (i := 42) rfl)) (hw _ (List.mem_of_getElem? (i := 122) rfl)) (by decide) Ex63 (rm_wsd l Z a0 hw b35 a5 b63 d63 k63 ([] : List Value) b5 k5 (vlist y1 y2 y3 y4) cs n0 T63.heap (Nat.le_trans (Nat.le_trans (Nat.le_trans (Nat.le_trans Z0 K5.1) K14.1) E35.1) K63.1) Ex63 fo63 Eb63 bv63 bc63 bn63 A63 f88 f89 f90 f91 f85 hcs g77 g70 had63 ne69 ne76 ne65 ne72 ne66 ne73 (own_l0 _ _ _ _)) rfl (by rw [hml]; rfl) (lenOf pd_1 rfl) rfl (W := 0) (by show 2 * 0 + _ ≤ _; exact Nat.le_of_eq rfl) (hb hby at_68) (by decide) (by decide) (by decide) (by decide) ?_
  rintro _ T98 L98 X98 ⟨rfl, N98, K98, Eb98, bv98, bc98, bn98, A98⟩ hS98 hZ98 hown98 Ch98
  have e98 : T98.heap = T98.heap := rfl
  have N99 := Fr.app N64 N98
  have f100 := own_sta_keep f85 K98 (allS (P := fun x => ∀ cell : Cell, _ → cell.vm.isStatics = false) (own_plain Eb63) (allS (P := fun x => ∀ cell : Cell, _ → cell.vm.isStatics = false) (Arv.nostat A63) all0))
  have f101 := own_sta_keep f86 K98 (allS (P := fun x => ∀ cell : Cell, _ → cell.vm.isStatics = false) (own_plain Eb63) (allS (P := fun x => ∀ cell : Cell, _ → cell.vm.isStatics = false) (Arv.nostat A63) all0))
  have f102 := own_sta_keep f87 K98 (allS (P := fun x => ∀ cell : Cell, _ → cell.vm.isStatics = false) (own_plain Eb63) (allS (P := fun x => ∀ cell : Cell, _ → cell.vm.isStatics = false) (Arv.nostat A63) all0))
  have f103 := f88.keep K98
  have f104 := f89.keep K98 (ninS ne65 (ninS ne72 nin0))
  have f105 := f90.keep K98 (ninS ne65 (ninS ne72 nin0))
  have f106 := f91.keep K98 (ninS ne66 (ninS ne73 nin0))
  have f107 := f92.keep K98
  have f108 := f93.keep K98 (ninS ne67 (ninS ne74 nin0))
  have f109 := f94.keep K98 (ninS ne67 (ninS ne74 nin0))
  have f110 := f95.keep K98 (ninS ne68 (ninS ne75 nin0))
  have f111 := Ex63.keep K98
  have f112 := fo63.keep K98 (ninS ne69 (ninS ne76 nin0))
  have f113 := Eb63.keep K98
  have K114 := K97.trans K98 (allS (P := fun x => x ∈ _ ∨ _ ≤ x) (Or.inr sz71) (allS (P := fun x => x ∈ _ ∨ _ ≤ x) (Or.inr sz78) all0))
  show OGo p e below _ (T98.setTop (mkF m 71 #[.val (.int x0), .val (.int x1), .val (.int x2), .val (.int x3), .val (.int y1), .val (.int y2), .val (.int y3), .val (.int y4), .val (.ref a5), .val (.ref a14), .val (.ref b35), .unset, .unset, .unset, .unset] []))
  have C115 := CHr.trans C79 Ch98
  have Sf116 := Ch98.safe f92.lt Sf80
  have Sf117 := Ch98.safe f95.lt Sf81
  have Sf118 := Ch98.safe Ex63.lt Sf82
  have Sf119 := Ch98.safe Eb63.lt Sf83
  have Sf120 := Ch98.safe A63.lt Sf84
  refine OGo.go (U' := T98.setTop (mkF m 73 #[.val (.int x0), .val (.int x1), .val (.int x2), .val (.int x3), .val (.int y1), .val (.int y2), .val (.int y3), .val (.int y4), .val (.ref a5), .val (.ref a14), .val (.ref b35), .unset, .unset, .unset, .unset] [(.ref b35)])) (fun _ k => XS.aload X98.here hx rfl (hb hby at_71) rfl rfl k) ?_
  refine OGo.callV X98 hx hZ98 (y := (⟨"com/example/loomwire/loomwire/soap/XmlWriter", "text", "()Ljava/lang/String;"⟩ : MethodName)) (C := "com/example/loomwire/loomwire/soap/XmlWriter") hown98 (hw _ (List.mem_of_getElem? (i := 172) rfl)) (hw _ (List.mem_of_getElem? (i := 173) rfl)) (hw _ (List.mem_of_getElem? (i := 175) rfl)) (hw _ (List.mem_of_getElem? (i := 174) rfl)) (hw _ (List.mem_of_getElem? (i := 42) rfl)) (hw _ (List.mem_of_getElem? (i := 176) rfl)) (by decide) (g := (mkF m 73 #[.val (.int x0), .val (.int x1), .val (.int x2), .val (.int x3), .val (.int y1), .val (.int y2), .val (.int y3), .val (.int y4), .val (.ref a5), .val (.ref a14), .val (.ref b35), .unset, .unset, .unset, .unset] [(.ref b35)])) (a := b35) (argsL := []) (rest := []) e98 f111 (rm_txt l Z a0 hw b35 b63 d63 k63 (T1 y1 y2 y3 y4) cs n0 T98.heap (Nat.le_trans (Nat.le_trans (Nat.le_trans (Nat.le_trans (Nat.le_trans Z0 K5.1) K14.1) E35.1) K63.1) K98.1) (own_t1 _ _ _ _) f111 f112 Eb98 bv98 bc98 bn98 A98 f100 hcs) rfl (by rw [hml]; rfl) (lenOf pd_14 rfl) rfl (W := 0) (by show 2 * 0 + _ ≤ _; exact Nat.le_of_eq rfl) (hb hby at_73) (by decide) (by decide) (by decide) (by decide) ?_
  rintro _ T121 L121 X121 ⟨a121, b121, k121, rfl, N121, K121, Es121, sc121, sv121, A121, ga121, gb121⟩
  have e121 : T121.heap = T121.heap := rfl
  have N122 := Fr.app N99 N121
  have ne123 : a5 ≠ a121 := Nat.ne_of_lt (Nat.lt_of_lt_of_le f103.lt ga121)
  have ne124 : b5 ≠ a121 := Nat.ne_of_lt (Nat.lt_of_lt_of_le f106.lt ga121)
  have ne125 : a14 ≠ a121 := Nat.ne_of_lt (Nat.lt_of_lt_of_le f107.lt ga121)
  have ne126 : b14 ≠ a121 := Nat.ne_of_lt (Nat.lt_of_lt_of_le f110.lt ga121)
  have ne127 : b35 ≠ a121 := Nat.ne_of_lt (Nat.lt_of_lt_of_le f111.lt ga121)
  have ne128 : b63 ≠ a121 := Nat.ne_of_lt (Nat.lt_of_lt_of_le Eb98.lt ga121)
  have ne129 : d63 ≠ a121 := Nat.ne_of_lt (Nat.lt_of_lt_of_le A98.lt ga121)
  have g130 : n0 ≤ a121 := Nat.le_trans (Nat.le_trans (Nat.le_trans (Nat.le_trans (Nat.le_trans (Nat.le_trans Z0 K5.1) K14.1) E35.1) K63.1) K98.1) ga121
  have sz131 := Nat.le_trans K114.1 ga121
  have C132 := CHr.trans C115 (CHr.keep K121 sf0 C115.1)
  have Sf133 := Safe.keep K121 sf0 C115.1 Sf116
  have Sf134 := Safe.keep K121 sf0 C115.1 Sf117
  have Sf135 := Safe.keep K121 sf0 C115.1 Sf118
  have Sf136 := Safe.keep K121 sf0 C115.1 Sf119
  have Sf137 := Safe.keep K121 sf0 C115.1 Sf120
  have Sf138 := Safe.keep K121 sf0 C115.1 (Safe.new ga121)
  have f139 := own_sta_keep f100 K121 all0
  have f140 := own_sta_keep f101 K121 all0
  have f141 := own_sta_keep f102 K121 all0
  have f142 := f103.keep K121
  have f143 := f104.keep K121 nin0
  have f144 := f105.keep K121 nin0
  have f145 := f106.keep K121 nin0
  have f146 := f107.keep K121
  have f147 := f108.keep K121 nin0
  have f148 := f109.keep K121 nin0
  have f149 := f110.keep K121 nin0
  have f150 := f111.keep K121
  have f151 := f112.keep K121 nin0
  have f152 := Eb98.keep K121
  have f153 := bv98.keep K121 nin0
  have f154 := bc98.keep K121 nin0
  have f155 := bn98.keep K121 nin0
  have f156 := A98.keep K121 nin0
  have K157 := K114.trans K121 all0
  have ne158 : a5 ≠ b121 := Nat.ne_of_lt (Nat.lt_of_lt_of_le f103.lt gb121)
  have ne159 : b5 ≠ b121 := Nat.ne_of_lt (Nat.lt_of_lt_of_le f106.lt gb121)
  have ne160 : a14 ≠ b121 := Nat.ne_of_lt (Nat.lt_of_lt_of_le f107.lt gb121)
  have ne161 : b14 ≠ b121 := Nat.ne_of_lt (Nat.lt_of_lt_of_le f110.lt gb121)
  have ne162 : b35 ≠ b121 := Nat.ne_of_lt (Nat.lt_of_lt_of_le f111.lt gb121)
  have ne163 : b63 ≠ b121 := Nat.ne_of_lt (Nat.lt_of_lt_of_le Eb98.lt gb121)
  have ne164 : d63 ≠ b121 := Nat.ne_of_lt (Nat.lt_of_lt_of_le A98.lt gb121)
  have sz121 := Nat.le_trans K114.1 gb121
  show OGo p e below _ (T121.setTop (mkF m 76 #[.val (.int x0), .val (.int x1), .val (.int x2), .val (.int x3), .val (.int y1), .val (.int y2), .val (.int y3), .val (.int y4), .val (.ref a5), .val (.ref a14), .val (.ref b35), .unset, .unset, .unset, .unset] [(.ref a121)]))
  refine OGo.go (U' := T121.setTop (mkF m 78 #[.val (.int x0), .val (.int x1), .val (.int x2), .val (.int x3), .val (.int y1), .val (.int y2), .val (.int y3), .val (.int y4), .val (.ref a5), .val (.ref a14), .val (.ref b35), .val (.ref a121), .unset, .unset, .unset] [])) (fun _ k => XS.astore X121.here hx rfl (hb hby at_76) rfl rfl (l' := #[.val (.int x0), .val (.int x1), .val (.int x2), .val (.int x3), .val (.int y1), .val (.int y2), .val (.int y3), .val (.int y4), .val (.ref a5), .val (.ref a14), .val (.ref b35), .val (.ref a121), .unset, .unset, .unset]) rfl k) ?_
  refine OGo.go (U' := T121.setTop (mkF m 80 #[.val (.int x0), .val (.int x1), .val (.int x2), .val (.int x3), .val (.int y1), .val (.int y2), .val (.int y3), .val (.int y4), .val (.ref a5), .val (.ref a14), .val (.ref b35), .val (.ref a121), .unset, .unset, .unset] [(.ref a121)])) (fun _ k => XS.aload X121.here hx rfl (hb hby at_78) rfl rfl k) ?_
  refine OGo.go (U' := T121.setTop (mkF m 82 #[.val (.int x0), .val (.int x1), .val (.int x2), .val (.int x3), .val (.int y1), .val (.int y2), .val (.int y3), .val (.int y4), .val (.ref a5), .val (.ref a14), .val (.ref b35), .val (.ref a121), .unset, .unset, .unset] [(.ref a14), (.ref a121)])) (fun _ k => XS.aload X121.here hx rfl (hb hby at_80) rfl rfl k) ?_
  refine OGo.callV X121 hx hZ98 (y := (⟨"java/lang/String", "equals", "(Ljava/lang/Object;)Z"⟩ : MethodName)) (C := "java/lang/String") hown98 (hw _ (List.mem_of_getElem? (i := 222) rfl)) (hw _ (List.mem_of_getElem? (i := 223) rfl)) (hw _ (List.mem_of_getElem? (i := 225) rfl)) (hw _ (List.mem_of_getElem? (i := 224) rfl)) (hw _ (List.mem_of_getElem? (i := 6) rfl)) (hw _ (List.mem_of_getElem? (i := 226) rfl)) (by decide) (g := (mkF m 82 #[.val (.int x0), .val (.int x1), .val (.int x2), .val (.int x3), .val (.int y1), .val (.int y2), .val (.int y3), .val (.int y4), .val (.ref a5), .val (.ref a14), .val (.ref b35), .val (.ref a121), .unset, .unset, .unset] [(.ref a14), (.ref a121)])) (a := a121) (argsL := [(.ref a14)]) (rest := []) e121 Es121 (rm_equ l Z a0 hw a121 a14 b121 k121 (T1 y1 y2 y3 y4) cs b14 k14 T121.heap Es121 sc121 sv121 A121 f139 hcs f146 f147 f148 f149 (Ne.symm ne125) (Nat.le_trans (Nat.le_of_lt (own_t1 _ _ _ _)) (by decide))) rfl (by rw [hml]; rfl) (lenOf pd_26 rfl) rfl (W := 0) (by show 2 * 0 + _ ≤ _; exact Nat.le_of_eq rfl) (hb hby at_82) (by decide) (by decide) (by decide) (by decide) ?_
  rintro _ T165 _ X165 ⟨rfl, e165, rfl⟩
  rw [List.append_nil] at X165
  show OGo p e below _ (T165.setTop (mkF m 85 #[.val (.int x0), .val (.int x1), .val (.int x2), .val (.int x3), .val (.int y1), .val (.int y2), .val (.int y3), .val (.int y4), .val (.ref a5), .val (.ref a14), .val (.ref b35), .val (.ref a121), .unset, .unset, .unset] [(.int (1 : Int32))]))
  refine OGo.go (U' := T165.setTop (mkF m 90 #[.val (.int x0), .val (.int x1), .val (.int x2), .val (.int x3), .val (.int y1), .val (.int y2), .val (.int y3), .val (.int y4), .val (.ref a5), .val (.ref a14), .val (.ref b35), .val (.ref a121), .unset, .unset, .unset] [])) (fun _ k => XS.ifYes X165.here hx rfl (pc0 := 85) (pc' := 90) rfl (hb hby at_85) rfl ((if0 _ _).trans (feq (by decide)).2) (by decide) (by decide) k) ?_
  refine OGo.go (U' := T165.setTop (mkF m 92 #[.val (.int x0), .val (.int x1), .val (.int x2), .val (.int x3), .val (.int y1), .val (.int y2), .val (.int y3), .val (.int y4), .val (.ref a5), .val (.ref a14), .val (.ref b35), .val (.ref a121), .unset, .unset, .unset] [(.ref b35)])) (fun _ k => XS.aload X165.here hx rfl (hb hby at_90) rfl rfl k) ?_
  refine OGo.go (U' := T165.setTop (mkF m 94 #[.val (.int x0), .val (.int x1), .val (.int x2), .val (.int x3), .val (.int y1), .val (.int y2), .val (.int y3), .val (.int y4), .val (.ref a5), .val (.ref a14), .val (.ref b35), .val (.ref a121), .unset, .unset, .unset] [(.ref a5), (.ref b35)])) (fun _ k => XS.aload X165.here hx rfl (hb hby at_92) rfl rfl k) ?_
  refine OGo.callVK (s := s) (vm0 := T98.vm) X165 hx hZ98 hS98 (Nat.le_trans (Nat.le_refl _) K121.1) hEL C132.1 (fun x hx => by obtain rfl := List.mem_singleton.mp hx; exact ⟨f156.lt, Sf137⟩) (y := (⟨"com/example/loomwire/loomwire/soap/XmlWriter", "writeStartDocument", "(Ljava/lang/String;)V"⟩ : MethodName)) hown98 (g := (mkF m 94 #[.val (.int x0), .val (.int x1), .val (.int x2), .val (.int x3), .val (.int y1), .val (.int y2), .val (.int y3), .val (.int y4), .val (.ref a5), .val (.ref a14), .val (.ref b35), .val (.ref a121), .unset, .unset, .unset] [(.ref a5), (.ref b35)])) (argsL := [(.ref a5)]) (rest := []) e165 (a := b35) (C := "com/example/loomwire/loomwire/soap/XmlWriter") (hw _ (List.mem_of_getElem? (i := 118) rfl)) (hw _ (List.mem_of_getElem? (i := 119) rfl)) (hw _ (List.mem_of_getElem? (i := 121) rfl)) (hw _ (List.mem_of_getElem? (i := 120) rfl)) (hw _ (List.mem_of_getElem? (i := 42) rfl)) (hw _ (List.mem_of_getElem? (i := 122) rfl)) (by decide) f150 (rm_wsd l Z a0 hw b35 a5 b63 d63 k63 (T1 y1 y2 y3 y4) b5 k5 (vlist y1 y2 y3 y4) cs n0 T121.heap (Nat.le_trans (Nat.le_trans (Nat.le_trans (Nat.le_trans (Nat.le_trans (Nat.le_trans Z0 K5.1) K14.1) E35.1) K63.1) K98.1) K121.1) f150 f151 f152 f153 f154 f155 f156 f142 f143 f144 f145 f139 hcs g77 g70 had63 ne69 ne76 ne65 ne72 ne66 ne73 (own_l1 _ _ _ _)) rfl (by rw [hml]; rfl) (lenOf pd_1 rfl) rfl (W := 0) (by show 2 * 0 + _ ≤ _; exact Nat.le_of_eq rfl) (hb hby at_94) (by decide) (by decide) (by decide) (by decide) ?_
  rintro _ T166 L166 X166 ⟨rfl, N166, K166, Eb166, bv166, bc166, bn166, A166⟩ hS166 hZ166 hown166 Ch166
  have e166 : T166.heap = T166.heap := rfl
  have N167 := Fr.app N122 N166
  have f168 := own_sta_keep f139 K166 (allS (P := fun x => ∀ cell : Cell, _ → cell.vm.isStatics = false) (own_plain f152) (allS (P := fun x => ∀ cell : Cell, _ → cell.vm.isStatics = false) (Arv.nostat f156) all0))
  have f169 := own_sta_keep f140 K166 (allS (P := fun x => ∀ cell : Cell, _ → cell.vm.isStatics = false) (own_plain f152) (allS (P := fun x => ∀ cell : Cell, _ → cell.vm.isStatics = false) (Arv.nostat f156) all0))
  have f170 := own_sta_keep f141 K166 (allS (P := fun x => ∀ cell : Cell, _ → cell.vm.isStatics = false) (own_plain f152) (allS (P := fun x => ∀ cell : Cell, _ → cell.vm.isStatics = false) (Arv.nostat f156) all0))
  have f171 := f142.keep K166
  have f172 := f143.keep K166 (ninS ne65 (ninS ne72 nin0))
  have f173 := f144.keep K166 (ninS ne65 (ninS ne72 nin0))
  have f174 := f145.keep K166 (ninS ne66 (ninS ne73 nin0))
  have f175 := f146.keep K166
  have f176 := f147.keep K166 (ninS ne67 (ninS ne74 nin0))
  have f177 := f148.keep K166 (ninS ne67 (ninS ne74 nin0))
  have f178 := f149.keep K166 (ninS ne68 (ninS ne75 nin0))
  have f179 := f150.keep K166
  have f180 := f151.keep K166 (ninS ne69 (ninS ne76 nin0))
  have f181 := f152.keep K166
  have f182 := Es121.keep K166
  have f183 := sc121.keep K166 (ninS (Ne.symm ne128) (ninS (Ne.symm ne129) nin0))
  have f184 := sv121.keep K166 (ninS (Ne.symm ne128) (ninS (Ne.symm ne129) nin0))
  have f185 := A121.keep K166 (ninS (Ne.symm ne163) (ninS (Ne.symm ne164) nin0))
  have K186 := K157.trans K166 (allS (P := fun x => x ∈ _ ∨ _ ≤ x) (Or.inr sz71) (allS (P := fun x => x ∈ _ ∨ _ ≤ x) (Or.inr sz78) all0))
  show OGo p e below _ (T166.setTop (mkF m 97 #[.val (.int x0), .val (.int x1), .val (.int x2), .val (.int x3), .val (.int y1), .val (.int y2), .val (.int y3), .val (.int y4), .val (.ref a5), .val (.ref a14), .val (.ref b35), .val (.ref a121), .unset, .unset, .unset] []))
  have C187 := CHr.trans C132 Ch166
  have Sf188 := Ch166.safe f146.lt Sf133
  have Sf189 := Ch166.safe f149.lt Sf134
  have Sf190 := Ch166.safe f150.lt Sf135
  have Sf191 := Ch166.safe f152.lt Sf136
  have Sf192 := Ch166.safe f156.lt Sf137
  have Sf193 := Ch166.safe Es121.lt Sf138
  refine OGo.go (U' := T166.setTop (mkF m 99 #[.val (.int x0), .val (.int x1), .val (.int x2), .val (.int x3), .val (.int y1), .val (.int y2), .val (.int y3), .val (.int y4), .val (.ref a5), .val (.ref a14), .val (.ref b35), .val (.ref a121), .unset, .unset, .unset] [(.ref b35)])) (fun _ k => XS.aload X166.here hx rfl (hb hby at_97) rfl rfl k) ?_
  refine OGo.callV X166 hx hZ166 (y := (⟨"com/example/loomwire/loomwire/soap/XmlWriter", "text", "()Ljava/lang/String;"⟩ : MethodName)) (C := "com/example/loomwire/loomwire/soap/XmlWriter") hown166 (hw _ (List.mem_of_getElem? (i := 172) rfl)) (hw _ (List.mem_of_getElem? (i := 173) rfl)) (hw _ (List.mem_of_getElem? (i := 175) rfl)) (hw _ (List.mem_of_getElem? (i := 174) rfl)) (hw _ (List.mem_of_getElem? (i := 42) rfl)) (hw _ (List.mem_of_getElem? (i := 176) rfl)) (by decide) (g := (mkF m 99 #[.val (.int x0), .val (.int x1), .val (.int x2), .val (.int x3), .val (.int y1), .val (.int y2), .val (.int y3), .val (.int y4), .val (.ref a5), .val (.ref a14), .val (.ref b35), .val (.ref a121), .unset, .unset, .unset] [(.ref b35)])) (a := b35) (argsL := []) (rest := []) e166 f179 (rm_txt l Z a0 hw b35 b63 d63 k63 (T2 y1 y2 y3 y4) cs n0 T166.heap (Nat.le_trans (Nat.le_trans (Nat.le_trans (Nat.le_trans (Nat.le_trans (Nat.le_trans (Nat.le_trans Z0 K5.1) K14.1) E35.1) K63.1) K98.1) K121.1) K166.1) (own_t2 _ _ _ _) f179 f180 Eb166 bv166 bc166 bn166 A166 f168 hcs) rfl (by rw [hml]; rfl) (lenOf pd_14 rfl) rfl (W := 0) (by show 2 * 0 + _ ≤ _; exact Nat.le_of_eq rfl) (hb hby at_99) (by decide) (by decide) (by decide) (by decide) ?_
  rintro _ T194 L194 X194 ⟨a194, b194, k194, rfl, N194, K194, Es194, sc194, sv194, A194, ga194, gb194⟩
  have e194 : T194.heap = T194.heap := rfl
  have N195 := Fr.app N167 N194
  have ne196 : a5 ≠ a194 := Nat.ne_of_lt (Nat.lt_of_lt_of_le f171.lt ga194)
  have ne197 : b5 ≠ a194 := Nat.ne_of_lt (Nat.lt_of_lt_of_le f174.lt ga194)
  have ne198 : a14 ≠ a194 := Nat.ne_of_lt (Nat.lt_of_lt_of_le f175.lt ga194)
  have ne199 : b14 ≠ a194 := Nat.ne_of_lt (Nat.lt_of_lt_of_le f178.lt ga194)
  have ne200 : b35 ≠ a194 := Nat.ne_of_lt (Nat.lt_of_lt_of_le f179.lt ga194)
  have ne201 : b63 ≠ a194 := Nat.ne_of_lt (Nat.lt_of_lt_of_le Eb166.lt ga194)
  have ne202 : a121 ≠ a194 := Nat.ne_of_lt (Nat.lt_of_lt_of_le f182.lt ga194)
  have ne203 : b121 ≠ a194 := Nat.ne_of_lt (Nat.lt_of_lt_of_le f185.lt ga194)
  have ne204 : d63 ≠ a194 := Nat.ne_of_lt (Nat.lt_of_lt_of_le A166.lt ga194)
  have g205 : n0 ≤ a194 := Nat.le_trans (Nat.le_trans (Nat.le_trans (Nat.le_trans (Nat.le_trans (Nat.le_trans (Nat.le_trans (Nat.le_trans Z0 K5.1) K14.1) E35.1) K63.1) K98.1) K121.1) K166.1) ga194
  have sz206 := Nat.le_trans K186.1 ga194
  have C207 := CHr.trans C187 (CHr.keep K194 sf0 C187.1)
  have Sf208 := Safe.keep K194 sf0 C187.1 Sf188
  have Sf209 := Safe.keep K194 sf0 C187.1 Sf189
  have Sf210 := Safe.keep K194 sf0 C187.1 Sf190
  have Sf211 := Safe.keep K194 sf0 C187.1 Sf191
  have Sf212 := Safe.keep K194 sf0 C187.1 Sf192
  have Sf213 := Safe.keep K194 sf0 C187.1 Sf193
  have Sf214 := Safe.keep K194 sf0 C187.1 (Safe.new ga194)
  have f215 := own_sta_keep f168 K194 all0
  have f216 := own_sta_keep f169 K194 all0
  have f217 := own_sta_keep f170 K194 all0
  have f218 := f171.keep K194
  have f219 := f172.keep K194 nin0
  have f220 := f173.keep K194 nin0
  have f221 := f174.keep K194 nin0
  have f222 := f175.keep K194
  have f223 := f176.keep K194 nin0
  have f224 := f177.keep K194 nin0
  have f225 := f178.keep K194 nin0
  have f226 := f179.keep K194
  have f227 := f180.keep K194 nin0
  have f228 := Eb166.keep K194
  have f229 := f182.keep K194
  have f230 := f183.keep K194 nin0
  have f231 := f184.keep K194 nin0
  have f232 := f185.keep K194 nin0
  have f233 := bv166.keep K194 nin0
  have f234 := bc166.keep K194 nin0
  have f235 := bn166.keep K194 nin0
  have f236 := A166.keep K194 nin0
  have K237 := K186.trans K194 all0
  have ne238 : a5 ≠ b194 := Nat.ne_of_lt (Nat.lt_of_lt_of_le f171.lt gb194)
  have ne239 : b5 ≠ b194 := Nat.ne_of_lt (Nat.lt_of_lt_of_le f174.lt gb194)
  have ne240 : a14 ≠ b194 := Nat.ne_of_lt (Nat.lt_of_lt_of_le f175.lt gb194)
  have ne241 : b14 ≠ b194 := Nat.ne_of_lt (Nat.lt_of_lt_of_le f178.lt gb194)
  have ne242 : b35 ≠ b194 := Nat.ne_of_lt (Nat.lt_of_lt_of_le f179.lt gb194)
  have ne243 : b63 ≠ b194 := Nat.ne_of_lt (Nat.lt_of_lt_of_le Eb166.lt gb194)
  have ne244 : a121 ≠ b194 := Nat.ne_of_lt (Nat.lt_of_lt_of_le f182.lt gb194)
  have ne245 : b121 ≠ b194 := Nat.ne_of_lt (Nat.lt_of_lt_of_le f185.lt gb194)
  have ne246 : d63 ≠ b194 := Nat.ne_of_lt (Nat.lt_of_lt_of_le A166.lt gb194)
  have sz194 := Nat.le_trans K186.1 gb194
  show OGo p e below _ (T194.setTop (mkF m 102 #[.val (.int x0), .val (.int x1), .val (.int x2), .val (.int x3), .val (.int y1), .val (.int y2), .val (.int y3), .val (.int y4), .val (.ref a5), .val (.ref a14), .val (.ref b35), .val (.ref a121), .unset, .unset, .unset] [(.ref a194)]))
  refine OGo.go (U' := T194.setTop (mkF m 104 #[.val (.int x0), .val (.int x1), .val (.int x2), .val (.int x3), .val (.int y1), .val (.int y2), .val (.int y3), .val (.int y4), .val (.ref a5), .val (.ref a14), .val (.ref b35), .val (.ref a121), .val (.ref a194), .unset, .unset] [])) (fun _ k => XS.astore X194.here hx rfl (hb hby at_102) rfl rfl (l' := #[.val (.int x0), .val (.int x1), .val (.int x2), .val (.int x3), .val (.int y1), .val (.int y2), .val (.int y3), .val (.int y4), .val (.ref a5), .val (.ref a14), .val (.ref b35), .val (.ref a121), .val (.ref a194), .unset, .unset]) rfl k) ?_
  refine OGo.go (U' := T194.setTop (mkF m 106 #[.val (.int x0), .val (.int x1), .val (.int x2), .val (.int x3), .val (.int y1), .val (.int y2), .val (.int y3), .val (.int y4), .val (.ref a5), .val (.ref a14), .val (.ref b35), .val (.ref a121), .val (.ref a194), .unset, .unset] [(.ref a14)])) (fun _ k => XS.aload X194.here hx rfl (hb hby at_104) rfl rfl k) ?_
  refine OGo.callV X194 hx hZ166 (y := (⟨"java/lang/String", "length", "()I"⟩ : MethodName)) (C := "java/lang/String") hown166 (hw _ (List.mem_of_getElem? (i := 232) rfl)) (hw _ (List.mem_of_getElem? (i := 135) rfl)) (hw _ (List.mem_of_getElem? (i := 137) rfl)) (hw _ (List.mem_of_getElem? (i := 136) rfl)) (hw _ (List.mem_of_getElem? (i := 6) rfl)) (hw _ (List.mem_of_getElem? (i := 138) rfl)) (by decide) (g := (mkF m 106 #[.val (.int x0), .val (.int x1), .val (.int x2), .val (.int x3), .val (.int y1), .val (.int y2), .val (.int y3), .val (.int y4), .val (.ref a5), .val (.ref a14), .val (.ref b35), .val (.ref a121), .val (.ref a194), .unset, .unset] [(.ref a14)])) (a := a14) (argsL := []) (rest := []) e194 f222 (rm_len l Z a0 hw a14 b14 k14 (elist y1 y2 y3 y4) cs T194.heap f222 f223 f224 f225 f215 hcs) rfl (by rw [hml]; rfl) (lenOf pd_3 rfl) rfl (W := 0) (by show 2 * 0 + _ ≤ _; exact Nat.le_of_eq rfl) (hb hby at_106) (by decide) (by decide) (by decide) (by decide) ?_
  rintro _ T247 _ X247 ⟨rfl, e247, rfl⟩
  rw [List.append_nil] at X247
  show OGo p e below _ (T247.setTop (mkF m 109 #[.val (.int x0), .val (.int x1), .val (.int x2), .val (.int x3), .val (.int y1), .val (.int y2), .val (.int y3), .val (.int y4), .val (.ref a5), .val (.ref a14), .val (.ref b35), .val (.ref a121), .val (.ref a194), .unset, .unset] [(.int (NI (elist y1 y2 y3 y4).length))]))
  refine OGo.go (U' := T247.setTop (mkF m 111 #[.val (.int x0), .val (.int x1), .val (.int x2), .val (.int x3), .val (.int y1), .val (.int y2), .val (.int y3), .val (.int y4), .val (.ref a5), .val (.ref a14), .val (.ref b35), .val (.ref a121), .val (.ref a194), .val (.int (NI (elist y1 y2 y3 y4).length)), .unset] [])) (fun _ k => XS.istore X247.here hx rfl (hb hby at_109) rfl (l' := #[.val (.int x0), .val (.int x1), .val (.int x2), .val (.int x3), .val (.int y1), .val (.int y2), .val (.int y3), .val (.int y4), .val (.ref a5), .val (.ref a14), .val (.ref b35), .val (.ref a121), .val (.ref a194), .val (.int (NI (elist y1 y2 y3 y4).length)), .unset]) rfl k) ?_
  refine OGo.go (U' := T247.setTop (mkF m 113 #[.val (.int x0), .val (.int x1), .val (.int x2), .val (.int x3), .val (.int y1), .val (.int y2), .val (.int y3), .val (.int y4), .val (.ref a5), .val (.ref a14), .val (.ref b35), .val (.ref a121), .val (.ref a194), .val (.int (NI (elist y1 y2 y3 y4).length)), .unset] [(.ref a194)])) (fun _ k => XS.aload X247.here hx rfl (hb hby at_111) rfl rfl k) ?_
  refine OGo.callV X247 hx hZ166 (y := (⟨"java/lang/String", "length", "()I"⟩ : MethodName)) (C := "java/lang/String") hown166 (hw _ (List.mem_of_getElem? (i := 232) rfl)) (hw _ (List.mem_of_getElem? (i := 135) rfl)) (hw _ (List.mem_of_getElem? (i := 137) rfl)) (hw _ (List.mem_of_getElem? (i := 136) rfl)) (hw _ (List.mem_of_getElem? (i := 6) rfl)) (hw _ (List.mem_of_getElem? (i := 138) rfl)) (by decide) (g := (mkF m 113 #[.val (.int x0), .val (.int x1), .val (.int x2), .val (.int x3), .val (.int y1), .val (.int y2), .val (.int y3), .val (.int y4), .val (.ref a5), .val (.ref a14), .val (.ref b35), .val (.ref a121), .val (.ref a194), .val (.int (NI (elist y1 y2 y3 y4).length)), .unset] [(.ref a194)])) (a := a194) (argsL := []) (rest := []) e247 Es194 (rm_len l Z a0 hw a194 b194 k194 (T2 y1 y2 y3 y4) cs T194.heap Es194 sc194 sv194 A194 f215 hcs) rfl (by rw [hml]; rfl) (lenOf pd_3 rfl) rfl (W := 0) (by show 2 * 0 + _ ≤ _; exact Nat.le_of_eq rfl) (hb hby at_113) (by decide) (by decide) (by decide) (by decide) ?_
  rintro _ T248 _ X248 ⟨rfl, e248, rfl⟩
  rw [List.append_nil] at X248
  show OGo p e below _ (T248.setTop (mkF m 116 #[.val (.int x0), .val (.int x1), .val (.int x2), .val (.int x3), .val (.int y1), .val (.int y2), .val (.int y3), .val (.int y4), .val (.ref a5), .val (.ref a14), .val (.ref b35), .val (.ref a121), .val (.ref a194), .val (.int (NI (elist y1 y2 y3 y4).length)), .unset] [(.int (NI (T2 y1 y2 y3 y4).length))]))
  refine OGo.go (U' := T248.setTop (mkF m 117 #[.val (.int x0), .val (.int x1), .val (.int x2), .val (.int x3), .val (.int y1), .val (.int y2), .val (.int y3), .val (.int y4), .val (.ref a5), .val (.ref a14), .val (.ref b35), .val (.ref a121), .val (.ref a194), .val (.int (NI (elist y1 y2 y3 y4).length)), .unset] [(.int (2 : Int32)), (.int (NI (T2 y1 y2 y3 y4).length))])) (fun _ k => XS.iconst X248.here hx rfl (hb hby at_116) k) ?_
  refine OGo.go (U' := T248.setTop (mkF m 119 #[.val (.int x0), .val (.int x1), .val (.int x2), .val (.int x3), .val (.int y1), .val (.int y2), .val (.int y3), .val (.int y4), .val (.ref a5), .val (.ref a14), .val (.ref b35), .val (.ref a121), .val (.ref a194), .val (.int (NI (elist y1 y2 y3 y4).length)), .unset] [(.int (NI (elist y1 y2 y3 y4).length)), (.int (2 : Int32)), (.int (NI (T2 y1 y2 y3 y4).length))])) (fun _ k => XS.iload X248.here hx rfl (hb hby at_117) rfl k) ?_
  refine OGo.go (U' := T248.setTop (mkF m 120 #[.val (.int x0), .val (.int x1), .val (.int x2), .val (.int x3), .val (.int y1), .val (.int y2), .val (.int y3), .val (.int y4), .val (.ref a5), .val (.ref a14), .val (.ref b35), .val (.ref a121), .val (.ref a194), .val (.int (NI (elist y1 y2 y3 y4).length)), .unset] [(.int ((2 : Int32) * (NI (elist y1 y2 y3 y4).length))), (.int (NI (T2 y1 y2 y3 y4).length))])) (fun _ k => XS.imul X248.here hx rfl (hb hby at_119) rfl k) ?_
  refine OGo.go (U' := T248.setTop (mkF m 125 #[.val (.int x0), .val (.int x1), .val (.int x2), .val (.int x3), .val (.int y1), .val (.int y2), .val (.int y3), .val (.int y4), .val (.ref a5), .val (.ref a14), .val (.ref b35), .val (.ref a121), .val (.ref a194), .val (.int (NI (elist y1 y2 y3 y4).length)), .unset] [])) (fun _ k => XS.icmpYes X248.here hx rfl (pc0 := 120) (pc' := 125) rfl (hb hby at_120) rfl (teq (own_k2 _ _ _ hn)).1 (by decide) (by decide) k) ?_
  refine OGo.go (U' := T248.setTop (mkF m 127 #[.val (.int x0), .val (.int x1), .val (.int x2), .val (.int x3), .val (.int y1), .val (.int y2), .val (.int y3), .val (.int y4), .val (.ref a5), .val (.ref a14), .val (.ref b35), .val (.ref a121), .val (.ref a194), .val (.int (NI (elist y1 y2 y3 y4).length)), .unset] [(.ref a194)])) (fun _ k => XS.aload X248.here hx rfl (hb hby at_125) rfl rfl k) ?_
  refine OGo.go (U' := T248.setTop (mkF m 128 #[.val (.int x0), .val (.int x1), .val (.int x2), .val (.int x3), .val (.int y1), .val (.int y2), .val (.int y3), .val (.int y4), .val (.ref a5), .val (.ref a14), .val (.ref b35), .val (.ref a121), .val (.ref a194), .val (.int (NI (elist y1 y2 y3 y4).length)), .unset] [(.int (0 : Int32)), (.ref a194)])) (fun _ k => XS.iconst X248.here hx rfl (hb hby at_127) k) ?_
  refine OGo.callV X248 hx hZ166 (y := (⟨"java/lang/String", "charAt", "(I)C"⟩ : MethodName)) (C := "java/lang/String") hown166 (hw _ (List.mem_of_getElem? (i := 233) rfl)) (hw _ (List.mem_of_getElem? (i := 234) rfl)) (hw _ (List.mem_of_getElem? (i := 236) rfl)) (hw _ (List.mem_of_getElem? (i := 235) rfl)) (hw _ (List.mem_of_getElem? (i := 6) rfl)) (hw _ (List.mem_of_getElem? (i := 237) rfl)) (by decide) (g := (mkF m 128 #[.val (.int x0), .val (.int x1), .val (.int x2), .val (.int x3), .val (.int y1), .val (.int y2), .val (.int y3), .val (.int y4), .val (.ref a5), .val (.ref a14), .val (.ref b35), .val (.ref a121), .val (.ref a194), .val (.int (NI (elist y1 y2 y3 y4).length)), .unset] [(.int (0 : Int32)), (.ref a194)])) (a := a194) (argsL := [(.int (0 : Int32))]) (rest := []) e248 Es194 (rm_cha l Z a0 hw a194 (0 : Int32) b194 k194 (T2 y1 y2 y3 y4) cs (60 : Int32) fm T194.heap Es194 sc194 sv194 A194 f215 hcs f216 hfm (own_ch0 y2 y3 y4 hn).1 (own_ch0 y2 y3 y4 hn).2.1 (own_ch0 y2 y3 y4 hn).2.2) rfl (by rw [hml]; rfl) (lenOf pd_27 rfl) rfl (W := 0) (by show 2 * 0 + _ ≤ _; exact Nat.le_of_eq rfl) (hb hby at_128) (by decide) (by decide) (by decide) (by decide) ?_
  rintro _ T249 _ X249 ⟨rfl, e249, rfl⟩
  rw [List.append_nil] at X249
  show OGo p e below _ (T249.setTop (mkF m 131 #[.val (.int x0), .val (.int x1), .val (.int x2), .val (.int x3), .val (.int y1), .val (.int y2), .val (.int y3), .val (.int y4), .val (.ref a5), .val (.ref a14), .val (.ref b35), .val (.ref a121), .val (.ref a194), .val (.int (NI (elist y1 y2 y3 y4).length)), .unset] [(.int (nar .char (nar .char ((60 : Int32) &&& (255 : Int32)).toUInt32.toUInt16.toUInt32.toInt32)))]))
  refine OGo.go (U' := T249.setTop (mkF m 133 #[.val (.int x0), .val (.int x1), .val (.int x2), .val (.int x3), .val (.int y1), .val (.int y2), .val (.int y3), .val (.int y4), .val (.ref a5), .val (.ref a14), .val (.ref b35), .val (.ref a121), .val (.ref a194), .val (.int (NI (elist y1 y2 y3 y4).length)), .unset] [(.int (60 : Int32)), (.int (nar .char (nar .char ((60 : Int32) &&& (255 : Int32)).toUInt32.toUInt16.toUInt32.toInt32)))])) (fun _ k => XS.bipush X249.here hx rfl (hb hby at_131) k) ?_
  refine OGo.go (U' := T249.setTop (mkF m 136 #[.val (.int x0), .val (.int x1), .val (.int x2), .val (.int x3), .val (.int y1), .val (.int y2), .val (.int y3), .val (.int y4), .val (.ref a5), .val (.ref a14), .val (.ref b35), .val (.ref a121), .val (.ref a194), .val (.int (NI (elist y1 y2 y3 y4).length)), .unset] [])) (fun _ k => XS.icmpNo X249.here hx rfl (hb hby at_133) rfl (teq (by decide)).2 k) ?_
  refine OGo.go (U' := T249.setTop (mkF m 138 #[.val (.int x0), .val (.int x1), .val (.int x2), .val (.int x3), .val (.int y1), .val (.int y2), .val (.int y3), .val (.int y4), .val (.ref a5), .val (.ref a14), .val (.ref b35), .val (.ref a121), .val (.ref a194), .val (.int (NI (elist y1 y2 y3 y4).length)), .unset] [(.ref a194)])) (fun _ k => XS.aload X249.here hx rfl (hb hby at_136) rfl rfl k) ?_
  refine OGo.go (U' := T249.setTop (mkF m 140 #[.val (.int x0), .val (.int x1), .val (.int x2), .val (.int x3), .val (.int y1), .val (.int y2), .val (.int y3), .val (.int y4), .val (.ref a5), .val (.ref a14), .val (.ref b35), .val (.ref a121), .val (.ref a194), .val (.int (NI (elist y1 y2 y3 y4).length)), .unset] [(.int (NI (elist y1 y2 y3 y4).length)), (.ref a194)])) (fun _ k => XS.iload X249.here hx rfl (hb hby at_138) rfl k) ?_
  refine OGo.go (U' := T249.setTop (mkF m 141 #[.val (.int x0), .val (.int x1), .val (.int x2), .val (.int x3), .val (.int y1), .val (.int y2), .val (.int y3), .val (.int y4), .val (.ref a5), .val (.ref a14), .val (.ref b35), .val (.ref a121), .val (.ref a194), .val (.int (NI (elist y1 y2 y3 y4).length)), .unset] [(.int (1 : Int32)), (.int (NI (elist y1 y2 y3 y4).length)), (.ref a194)])) (fun _ k => XS.iconst X249.here hx rfl (hb hby at_140) k) ?_
  refine OGo.go (U' := T249.setTop (mkF m 142 #[.val (.int x0), .val (.int x1), .val (.int x2), .val (.int x3), .val (.int y1), .val (.int y2), .val (.int y3), .val (.int y4), .val (.ref a5), .val (.ref a14), .val (.ref b35), .val (.ref a121), .val (.ref a194), .val (.int (NI (elist y1 y2 y3 y4).length)), .unset] [(.int ((NI (elist y1 y2 y3 y4).length) - (1 : Int32))), (.ref a194)])) (fun _ k => XS.isub X249.here hx rfl (hb hby at_141) rfl k) ?_
  refine OGo.callV X249 hx hZ166 (y := (⟨"java/lang/String", "charAt", "(I)C"⟩ : MethodName)) (C := "java/lang/String") hown166 (hw _ (List.mem_of_getElem? (i := 233) rfl)) (hw _ (List.mem_of_getElem? (i := 234) rfl)) (hw _ (List.mem_of_getElem? (i := 236) rfl)) (hw _ (List.mem_of_getElem? (i := 235) rfl)) (hw _ (List.mem_of_getElem? (i := 6) rfl)) (hw _ (List.mem_of_getElem? (i := 237) rfl)) (by decide) (g := (mkF m 142 #[.val (.int x0), .val (.int x1), .val (.int x2), .val (.int x3), .val (.int y1), .val (.int y2), .val (.int y3), .val (.int y4), .val (.ref a5), .val (.ref a14), .val (.ref b35), .val (.ref a121), .val (.ref a194), .val (.int (NI (elist y1 y2 y3 y4).length)), .unset] [(.int ((NI (elist y1 y2 y3 y4).length) - (1 : Int32))), (.ref a194)])) (a := a194) (argsL := [(.int ((NI (elist y1 y2 y3 y4).length) - (1 : Int32)))]) (rest := []) e249 Es194 (rm_cha l Z a0 hw a194 ((NI (elist y1 y2 y3 y4).length) - (1 : Int32)) b194 k194 (T2 y1 y2 y3 y4) cs (62 : Int32) fm T194.heap Es194 sc194 sv194 A194 f215 hcs f216 hfm (own_ch1 y2 y3 y4 hn).1 (own_ch1 y2 y3 y4 hn).2.1 (own_ch1 y2 y3 y4 hn).2.2) rfl (by rw [hml]; rfl) (lenOf pd_27 rfl) rfl (W := 0) (by show 2 * 0 + _ ≤ _; exact Nat.le_of_eq rfl) (hb hby at_142) (by decide) (by decide) (by decide) (by decide) ?_
  rintro _ T250 _ X250 ⟨rfl, e250, rfl⟩
  rw [List.append_nil] at X250
  show OGo p e below _ (T250.setTop (mkF m 145 #[.val (.int x0), .val (.int x1), .val (.int x2), .val (.int x3), .val (.int y1), .val (.int y2), .val (.int y3), .val (.int y4), .val (.ref a5), .val (.ref a14), .val (.ref b35), .val (.ref a121), .val (.ref a194), .val (.int (NI (elist y1 y2 y3 y4).length)), .unset] [(.int (nar .char (nar .char ((62 : Int32) &&& (255 : Int32)).toUInt32.toUInt16.toUInt32.toInt32)))]))
  refine OGo.go (U' := T250.setTop (mkF m 147 #[.val (.int x0), .val (.int x1), .val (.int x2), .val (.int x3), .val (.int y1), .val (.int y2), .val (.int y3), .val (.int y4), .val (.ref a5), .val (.ref a14), .val (.ref b35), .val (.ref a121), .val (.ref a194), .val (.int (NI (elist y1 y2 y3 y4).length)), .unset] [(.int (62 : Int32)), (.int (nar .char (nar .char ((62 : Int32) &&& (255 : Int32)).toUInt32.toUInt16.toUInt32.toInt32)))])) (fun _ k => XS.bipush X250.here hx rfl (hb hby at_145) k) ?_
  refine OGo.go (U' := T250.setTop (mkF m 150 #[.val (.int x0), .val (.int x1), .val (.int x2), .val (.int x3), .val (.int y1), .val (.int y2), .val (.int y3), .val (.int y4), .val (.ref a5), .val (.ref a14), .val (.ref b35), .val (.ref a121), .val (.ref a194), .val (.int (NI (elist y1 y2 y3 y4).length)), .unset] [])) (fun _ k => XS.icmpNo X250.here hx rfl (hb hby at_147) rfl (teq (by decide)).2 k) ?_
  refine OGo.go (U' := T250.setTop (mkF m 152 #[.val (.int x0), .val (.int x1), .val (.int x2), .val (.int x3), .val (.int y1), .val (.int y2), .val (.int y3), .val (.int y4), .val (.ref a5), .val (.ref a14), .val (.ref b35), .val (.ref a121), .val (.ref a194), .val (.int (NI (elist y1 y2 y3 y4).length)), .unset] [(.ref a194)])) (fun _ k => XS.aload X250.here hx rfl (hb hby at_150) rfl rfl k) ?_
  refine OGo.go (U' := T250.setTop (mkF m 154 #[.val (.int x0), .val (.int x1), .val (.int x2), .val (.int x3), .val (.int y1), .val (.int y2), .val (.int y3), .val (.int y4), .val (.ref a5), .val (.ref a14), .val (.ref b35), .val (.ref a121), .val (.ref a194), .val (.int (NI (elist y1 y2 y3 y4).length)), .unset] [(.int (NI (elist y1 y2 y3 y4).length)), (.ref a194)])) (fun _ k => XS.iload X250.here hx rfl (hb hby at_152) rfl k) ?_
  refine OGo.callV X250 hx hZ166 (y := (⟨"java/lang/String", "charAt", "(I)C"⟩ : MethodName)) (C := "java/lang/String") hown166 (hw _ (List.mem_of_getElem? (i := 233) rfl)) (hw _ (List.mem_of_getElem? (i := 234) rfl)) (hw _ (List.mem_of_getElem? (i := 236) rfl)) (hw _ (List.mem_of_getElem? (i := 235) rfl)) (hw _ (List.mem_of_getElem? (i := 6) rfl)) (hw _ (List.mem_of_getElem? (i := 237) rfl)) (by decide) (g := (mkF m 154 #[.val (.int x0), .val (.int x1), .val (.int x2), .val (.int x3), .val (.int y1), .val (.int y2), .val (.int y3), .val (.int y4), .val (.ref a5), .val (.ref a14), .val (.ref b35), .val (.ref a121), .val (.ref a194), .val (.int (NI (elist y1 y2 y3 y4).length)), .unset] [(.int (NI (elist y1 y2 y3 y4).length)), (.ref a194)])) (a := a194) (argsL := [(.int (NI (elist y1 y2 y3 y4).length))]) (rest := []) e250 Es194 (rm_cha l Z a0 hw a194 (NI (elist y1 y2 y3 y4).length) b194 k194 (T2 y1 y2 y3 y4) cs (60 : Int32) fm T194.heap Es194 sc194 sv194 A194 f215 hcs f216 hfm (own_ch2 y2 y3 y4 hn).1 (own_ch2 y2 y3 y4 hn).2.1 (own_ch2 y2 y3 y4 hn).2.2) rfl (by rw [hml]; rfl) (lenOf pd_27 rfl) rfl (W := 0) (by show 2 * 0 + _ ≤ _; exact Nat.le_of_eq rfl) (hb hby at_154) (by decide) (by decide) (by decide) (by decide) ?_
  rintro _ T251 _ X251 ⟨rfl, e251, rfl⟩
  rw [List.append_nil] at X251
  show OGo p e below _ (T251.setTop (mkF m 157 #[.val (.int x0), .val (.int x1), .val (.int x2), .val (.int x3), .val (.int y1), .val (.int y2), .val (.int y3), .val (.int y4), .val (.ref a5), .val (.ref a14), .val (.ref b35), .val (.ref a121), .val (.ref a194), .val (.int (NI (elist y1 y2 y3 y4).length)), .unset] [(.int (nar .char (nar .char ((60 : Int32) &&& (255 : Int32)).toUInt32.toUInt16.toUInt32.toInt32)))]))
  refine OGo.go (U' := T251.setTop (mkF m 159 #[.val (.int x0), .val (.int x1), .val (.int x2), .val (.int x3), .val (.int y1), .val (.int y2), .val (.int y3), .val (.int y4), .val (.ref a5), .val (.ref a14), .val (.ref b35), .val (.ref a121), .val (.ref a194), .val (.int (NI (elist y1 y2 y3 y4).length)), .unset] [(.int (60 : Int32)), (.int (nar .char (nar .char ((60 : Int32) &&& (255 : Int32)).toUInt32.toUInt16.toUInt32.toInt32)))])) (fun _ k => XS.bipush X251.here hx rfl (hb hby at_157) k) ?_
  refine OGo.go (U' := T251.setTop (mkF m 162 #[.val (.int x0), .val (.int x1), .val (.int x2), .val (.int x3), .val (.int y1), .val (.int y2), .val (.int y3), .val (.int y4), .val (.ref a5), .val (.ref a14), .val (.ref b35), .val (.ref a121), .val (.ref a194), .val (.int (NI (elist y1 y2 y3 y4).length)), .unset] [])) (fun _ k => XS.icmpNo X251.here hx rfl (hb hby at_159) rfl (teq (by decide)).2 k) ?_
  refine OGo.go (U' := T251.setTop (mkF m 164 #[.val (.int x0), .val (.int x1), .val (.int x2), .val (.int x3), .val (.int y1), .val (.int y2), .val (.int y3), .val (.int y4), .val (.ref a5), .val (.ref a14), .val (.ref b35), .val (.ref a121), .val (.ref a194), .val (.int (NI (elist y1 y2 y3 y4).length)), .unset] [(.ref a194)])) (fun _ k => XS.aload X251.here hx rfl (hb hby at_162) rfl rfl k) ?_
  refine OGo.go (U' := T251.setTop (mkF m 166 #[.val (.int x0), .val (.int x1), .val (.int x2), .val (.int x3), .val (.int y1), .val (.int y2), .val (.int y3), .val (.int y4), .val (.ref a5), .val (.ref a14), .val (.ref b35), .val (.ref a121), .val (.ref a194), .val (.int (NI (elist y1 y2 y3 y4).length)), .unset] [(.int (NI (elist y1 y2 y3 y4).length)), (.ref a194)])) (fun _ k => XS.iload X251.here hx rfl (hb hby at_164) rfl k) ?_
  refine OGo.go (U' := T251.setTop (mkF m 168 #[.val (.int x0), .val (.int x1), .val (.int x2), .val (.int x3), .val (.int y1), .val (.int y2), .val (.int y3), .val (.int y4), .val (.ref a5), .val (.ref a14), .val (.ref b35), .val (.ref a121), .val (.ref a194), .val (.int (NI (elist y1 y2 y3 y4).length)), .unset] [(.int (14 : Int32)), (.int (NI (elist y1 y2 y3 y4).length)), (.ref a194)])) (fun _ k => XS.bipush X251.here hx rfl (hb hby at_166) k) ?_
  refine OGo.go (U' := T251.setTop (mkF m 169 #[.val (.int x0), .val (.int x1), .val (.int x2), .val (.int x3), .val (.int y1), .val (.int y2), .val (.int y3), .val (.int y4), .val (.ref a5), .val (.ref a14), .val (.ref b35), .val (.ref a121), .val (.ref a194), .val (.int (NI (elist y1 y2 y3 y4).length)), .unset] [(.int ((NI (elist y1 y2 y3 y4).length) + (14 : Int32))), (.ref a194)])) (fun _ k => XS.iadd X251.here hx rfl (hb hby at_168) rfl k) ?_
  refine OGo.callV X251 hx hZ166 (y := (⟨"java/lang/String", "charAt", "(I)C"⟩ : MethodName)) (C := "java/lang/String") hown166 (hw _ (List.mem_of_getElem? (i := 233) rfl)) (hw _ (List.mem_of_getElem? (i := 234) rfl)) (hw _ (List.mem_of_getElem? (i := 236) rfl)) (hw _ (List.mem_of_getElem? (i := 235) rfl)) (hw _ (List.mem_of_getElem? (i := 6) rfl)) (hw _ (List.mem_of_getElem? (i := 237) rfl)) (by decide) (g := (mkF m 169 #[.val (.int x0), .val (.int x1), .val (.int x2), .val (.int x3), .val (.int y1), .val (.int y2), .val (.int y3), .val (.int y4), .val (.ref a5), .val (.ref a14), .val (.ref b35), .val (.ref a121), .val (.ref a194), .val (.int (NI (elist y1 y2 y3 y4).length)), .unset] [(.int ((NI (elist y1 y2 y3 y4).length) + (14 : Int32))), (.ref a194)])) (a := a194) (argsL := [(.int ((NI (elist y1 y2 y3 y4).length) + (14 : Int32)))]) (rest := []) e251 Es194 (rm_cha l Z a0 hw a194 ((NI (elist y1 y2 y3 y4).length) + (14 : Int32)) b194 k194 (T2 y1 y2 y3 y4) cs (34 : Int32) fm T194.heap Es194 sc194 sv194 A194 f215 hcs f216 hfm (own_ch3 y2 y3 y4 hn).1 (own_ch3 y2 y3 y4 hn).2.1 (own_ch3 y2 y3 y4 hn).2.2) rfl (by rw [hml]; rfl) (lenOf pd_27 rfl) rfl (W := 0) (by show 2 * 0 + _ ≤ _; exact Nat.le_of_eq rfl) (hb hby at_169) (by decide) (by decide) (by decide) (by decide) ?_
  rintro _ T252 _ X252 ⟨rfl, e252, rfl⟩
  rw [List.append_nil] at X252
  show OGo p e below _ (T252.setTop (mkF m 172 #[.val (.int x0), .val (.int x1), .val (.int x2), .val (.int x3), .val (.int y1), .val (.int y2), .val (.int y3), .val (.int y4), .val (.ref a5), .val (.ref a14), .val (.ref b35), .val (.ref a121), .val (.ref a194), .val (.int (NI (elist y1 y2 y3 y4).length)), .unset] [(.int (nar .char (nar .char ((34 : Int32) &&& (255 : Int32)).toUInt32.toUInt16.toUInt32.toInt32)))]))
  refine OGo.go (U' := T252.setTop (mkF m 174 #[.val (.int x0), .val (.int x1), .val (.int x2), .val (.int x3), .val (.int y1), .val (.int y2), .val (.int y3), .val (.int y4), .val (.ref a5), .val (.ref a14), .val (.ref b35), .val (.ref a121), .val (.ref a194), .val (.int (NI (elist y1 y2 y3 y4).length)), .unset] [(.int (34 : Int32)), (.int (nar .char (nar .char ((34 : Int32) &&& (255 : Int32)).toUInt32.toUInt16.toUInt32.toInt32)))])) (fun _ k => XS.bipush X252.here hx rfl (hb hby at_172) k) ?_
  refine OGo.go (U' := T252.setTop (mkF m 177 #[.val (.int x0), .val (.int x1), .val (.int x2), .val (.int x3), .val (.int y1), .val (.int y2), .val (.int y3), .val (.int y4), .val (.ref a5), .val (.ref a14), .val (.ref b35), .val (.ref a121), .val (.ref a194), .val (.int (NI (elist y1 y2 y3 y4).length)), .unset] [])) (fun _ k => XS.icmpNo X252.here hx rfl (hb hby at_174) rfl (teq (by decide)).2 k) ?_
  refine OGo.go (U' := T252.setTop (mkF m 179 #[.val (.int x0), .val (.int x1), .val (.int x2), .val (.int x3), .val (.int y1), .val (.int y2), .val (.int y3), .val (.int y4), .val (.ref a5), .val (.ref a14), .val (.ref b35), .val (.ref a121), .val (.ref a194), .val (.int (NI (elist y1 y2 y3 y4).length)), .unset] [(.ref a194)])) (fun _ k => XS.aload X252.here hx rfl (hb hby at_177) rfl rfl k) ?_
  refine OGo.go (U' := T252.setTop (mkF m 181 #[.val (.int x0), .val (.int x1), .val (.int x2), .val (.int x3), .val (.int y1), .val (.int y2), .val (.int y3), .val (.int y4), .val (.ref a5), .val (.ref a14), .val (.ref b35), .val (.ref a121), .val (.ref a194), .val (.int (NI (elist y1 y2 y3 y4).length)), .unset] [(.int (NI (elist y1 y2 y3 y4).length)), (.ref a194)])) (fun _ k => XS.iload X252.here hx rfl (hb hby at_179) rfl k) ?_
  refine OGo.go (U' := T252.setTop (mkF m 183 #[.val (.int x0), .val (.int x1), .val (.int x2), .val (.int x3), .val (.int y1), .val (.int y2), .val (.int y3), .val (.int y4), .val (.ref a5), .val (.ref a14), .val (.ref b35), .val (.ref a121), .val (.ref a194), .val (.int (NI (elist y1 y2 y3 y4).length)), .unset] [(.int (15 : Int32)), (.int (NI (elist y1 y2 y3 y4).length)), (.ref a194)])) (fun _ k => XS.bipush X252.here hx rfl (hb hby at_181) k) ?_
  refine OGo.go (U' := T252.setTop (mkF m 184 #[.val (.int x0), .val (.int x1), .val (.int x2), .val (.int x3), .val (.int y1), .val (.int y2), .val (.int y3), .val (.int y4), .val (.ref a5), .val (.ref a14), .val (.ref b35), .val (.ref a121), .val (.ref a194), .val (.int (NI (elist y1 y2 y3 y4).length)), .unset] [(.int ((NI (elist y1 y2 y3 y4).length) + (15 : Int32))), (.ref a194)])) (fun _ k => XS.iadd X252.here hx rfl (hb hby at_183) rfl k) ?_
  refine OGo.go (U' := T252.setTop (mkF m 186 #[.val (.int x0), .val (.int x1), .val (.int x2), .val (.int x3), .val (.int y1), .val (.int y2), .val (.int y3), .val (.int y4), .val (.ref a5), .val (.ref a14), .val (.ref b35), .val (.ref a121), .val (.ref a194), .val (.int (NI (elist y1 y2 y3 y4).length)), .unset] [(.int y1), (.int ((NI (elist y1 y2 y3 y4).length) + (15 : Int32))), (.ref a194)])) (fun _ k => XS.iload X252.here hx rfl (hb hby at_184) rfl k) ?_
  refine OGo.go (U' := T252.setTop (mkF m 187 #[.val (.int x0), .val (.int x1), .val (.int x2), .val (.int x3), .val (.int y1), .val (.int y2), .val (.int y3), .val (.int y4), .val (.ref a5), .val (.ref a14), .val (.ref b35), .val (.ref a121), .val (.ref a194), .val (.int (NI (elist y1 y2 y3 y4).length)), .unset] [(.int (((NI (elist y1 y2 y3 y4).length) + (15 : Int32)) + y1)), (.ref a194)])) (fun _ k => XS.iadd X252.here hx rfl (hb hby at_186) rfl k) ?_
  refine OGo.callV X252 hx hZ166 (y := (⟨"java/lang/String", "charAt", "(I)C"⟩ : MethodName)) (C := "java/lang/String") hown166 (hw _ (List.mem_of_getElem? (i := 233) rfl)) (hw _ (List.mem_of_getElem? (i := 234) rfl)) (hw _ (List.mem_of_getElem? (i := 236) rfl)) (hw _ (List.mem_of_getElem? (i := 235) rfl)) (hw _ (List.mem_of_getElem? (i := 6) rfl)) (hw _ (List.mem_of_getElem? (i := 237) rfl)) (by decide) (g := (mkF m 187 #[.val (.int x0), .val (.int x1), .val (.int x2), .val (.int x3), .val (.int y1), .val (.int y2), .val (.int y3), .val (.int y4), .val (.ref a5), .val (.ref a14), .val (.ref b35), .val (.ref a121), .val (.ref a194), .val (.int (NI (elist y1 y2 y3 y4).length)), .unset] [(.int (((NI (elist y1 y2 y3 y4).length) + (15 : Int32)) + y1)), (.ref a194)])) (a := a194) (argsL := [(.int (((NI (elist y1 y2 y3 y4).length) + (15 : Int32)) + y1))]) (rest := []) e252 Es194 (rm_cha l Z a0 hw a194 (((NI (elist y1 y2 y3 y4).length) + (15 : Int32)) + y1) b194 k194 (T2 y1 y2 y3 y4) cs (34 : Int32) fm T194.heap Es194 sc194 sv194 A194 f215 hcs f216 hfm (own_ch4 y2 y3 y4 hn).1 (own_ch4 y2 y3 y4 hn).2.1 (own_ch4 y2 y3 y4 hn).2.2) rfl (by rw [hml]; rfl) (lenOf pd_27 rfl) rfl (W := 0) (by show 2 * 0 + _ ≤ _; exact Nat.le_of_eq rfl) (hb hby at_187) (by decide) (by decide) (by decide) (by decide) ?_
  rintro _ T253 _ X253 ⟨rfl, e253, rfl⟩
  rw [List.append_nil] at X253
  show OGo p e below _ (T253.setTop (mkF m 190 #[.val (.int x0), .val (.int x1), .val (.int x2), .val (.int x3), .val (.int y1), .val (.int y2), .val (.int y3), .val (.int y4), .val (.ref a5), .val (.ref a14), .val (.ref b35), .val (.ref a121), .val (.ref a194), .val (.int (NI (elist y1 y2 y3 y4).length)), .unset] [(.int (nar .char (nar .char ((34 : Int32) &&& (255 : Int32)).toUInt32.toUInt16.toUInt32.toInt32)))]))
  refine OGo.go (U' := T253.setTop (mkF m 192 #[.val (.int x0), .val (.int x1), .val (.int x2), .val (.int x3), .val (.int y1), .val (.int y2), .val (.int y3), .val (.int y4), .val (.ref a5), .val (.ref a14), .val (.ref b35), .val (.ref a121), .val (.ref a194), .val (.int (NI (elist y1 y2 y3 y4).length)), .unset] [(.int (34 : Int32)), (.int (nar .char (nar .char ((34 : Int32) &&& (255 : Int32)).toUInt32.toUInt16.toUInt32.toInt32)))])) (fun _ k => XS.bipush X253.here hx rfl (hb hby at_190) k) ?_
  refine OGo.go (U' := T253.setTop (mkF m 195 #[.val (.int x0), .val (.int x1), .val (.int x2), .val (.int x3), .val (.int y1), .val (.int y2), .val (.int y3), .val (.int y4), .val (.ref a5), .val (.ref a14), .val (.ref b35), .val (.ref a121), .val (.ref a194), .val (.int (NI (elist y1 y2 y3 y4).length)), .unset] [])) (fun _ k => XS.icmpNo X253.here hx rfl (hb hby at_192) rfl (teq (by decide)).2 k) ?_
  refine OGo.go (U' := T253.setTop (mkF m 197 #[.val (.int x0), .val (.int x1), .val (.int x2), .val (.int x3), .val (.int y1), .val (.int y2), .val (.int y3), .val (.int y4), .val (.ref a5), .val (.ref a14), .val (.ref b35), .val (.ref a121), .val (.ref a194), .val (.int (NI (elist y1 y2 y3 y4).length)), .unset] [(.ref a194)])) (fun _ k => XS.aload X253.here hx rfl (hb hby at_195) rfl rfl k) ?_
  refine OGo.go (U' := T253.setTop (mkF m 198 #[.val (.int x0), .val (.int x1), .val (.int x2), .val (.int x3), .val (.int y1), .val (.int y2), .val (.int y3), .val (.int y4), .val (.ref a5), .val (.ref a14), .val (.ref b35), .val (.ref a121), .val (.ref a194), .val (.int (NI (elist y1 y2 y3 y4).length)), .unset] [(.int (2 : Int32)), (.ref a194)])) (fun _ k => XS.iconst X253.here hx rfl (hb hby at_197) k) ?_
  refine OGo.go (U' := T253.setTop (mkF m 200 #[.val (.int x0), .val (.int x1), .val (.int x2), .val (.int x3), .val (.int y1), .val (.int y2), .val (.int y3), .val (.int y4), .val (.ref a5), .val (.ref a14), .val (.ref b35), .val (.ref a121), .val (.ref a194), .val (.int (NI (elist y1 y2 y3 y4).length)), .unset] [(.int (NI (elist y1 y2 y3 y4).length)), (.int (2 : Int32)), (.ref a194)])) (fun _ k => XS.iload X253.here hx rfl (hb hby at_198) rfl k) ?_
  refine OGo.go (U' := T253.setTop (mkF m 201 #[.val (.int x0), .val (.int x1), .val (.int x2), .val (.int x3), .val (.int y1), .val (.int y2), .val (.int y3), .val (.int y4), .val (.ref a5), .val (.ref a14), .val (.ref b35), .val (.ref a121), .val (.ref a194), .val (.int (NI (elist y1 y2 y3 y4).length)), .unset] [(.int ((2 : Int32) * (NI (elist y1 y2 y3 y4).length))), (.ref a194)])) (fun _ k => XS.imul X253.here hx rfl (hb hby at_200) rfl k) ?_
  refine OGo.go (U' := T253.setTop (mkF m 202 #[.val (.int x0), .val (.int x1), .val (.int x2), .val (.int x3), .val (.int y1), .val (.int y2), .val (.int y3), .val (.int y4), .val (.ref a5), .val (.ref a14), .val (.ref b35), .val (.ref a121), .val (.ref a194), .val (.int (NI (elist y1 y2 y3 y4).length)), .unset] [(.int (1 : Int32)), (.int ((2 : Int32) * (NI (elist y1 y2 y3 y4).length))), (.ref a194)])) (fun _ k => XS.iconst X253.here hx rfl (hb hby at_201) k) ?_
  refine OGo.go (U' := T253.setTop (mkF m 203 #[.val (.int x0), .val (.int x1), .val (.int x2), .val (.int x3), .val (.int y1), .val (.int y2), .val (.int y3), .val (.int y4), .val (.ref a5), .val (.ref a14), .val (.ref b35), .val (.ref a121), .val (.ref a194), .val (.int (NI (elist y1 y2 y3 y4).length)), .unset] [(.int (((2 : Int32) * (NI (elist y1 y2 y3 y4).length)) - (1 : Int32))), (.ref a194)])) (fun _ k => XS.isub X253.here hx rfl (hb hby at_202) rfl k) ?_
  refine OGo.callV X253 hx hZ166 (y := (⟨"java/lang/String", "charAt", "(I)C"⟩ : MethodName)) (C := "java/lang/String") hown166 (hw _ (List.mem_of_getElem? (i := 233) rfl)) (hw _ (List.mem_of_getElem? (i := 234) rfl)) (hw _ (List.mem_of_getElem? (i := 236) rfl)) (hw _ (List.mem_of_getElem? (i := 235) rfl)) (hw _ (List.mem_of_getElem? (i := 6) rfl)) (hw _ (List.mem_of_getElem? (i := 237) rfl)) (by decide) (g := (mkF m 203 #[.val (.int x0), .val (.int x1), .val (.int x2), .val (.int x3), .val (.int y1), .val (.int y2), .val (.int y3), .val (.int y4), .val (.ref a5), .val (.ref a14), .val (.ref b35), .val (.ref a121), .val (.ref a194), .val (.int (NI (elist y1 y2 y3 y4).length)), .unset] [(.int (((2 : Int32) * (NI (elist y1 y2 y3 y4).length)) - (1 : Int32))), (.ref a194)])) (a := a194) (argsL := [(.int (((2 : Int32) * (NI (elist y1 y2 y3 y4).length)) - (1 : Int32)))]) (rest := []) e253 Es194 (rm_cha l Z a0 hw a194 (((2 : Int32) * (NI (elist y1 y2 y3 y4).length)) - (1 : Int32)) b194 k194 (T2 y1 y2 y3 y4) cs (62 : Int32) fm T194.heap Es194 sc194 sv194 A194 f215 hcs f216 hfm (own_ch5 y2 y3 y4 hn).1 (own_ch5 y2 y3 y4 hn).2.1 (own_ch5 y2 y3 y4 hn).2.2) rfl (by rw [hml]; rfl) (lenOf pd_27 rfl) rfl (W := 0) (by show 2 * 0 + _ ≤ _; exact Nat.le_of_eq rfl) (hb hby at_203) (by decide) (by decide) (by decide) (by decide) ?_
  rintro _ T254 _ X254 ⟨rfl, e254, rfl⟩
  rw [List.append_nil] at X254
  show OGo p e below _ (T254.setTop (mkF m 206 #[.val (.int x0), .val (.int x1), .val (.int x2), .val (.int x3), .val (.int y1), .val (.int y2), .val (.int y3), .val (.int y4), .val (.ref a5), .val (.ref a14), .val (.ref b35), .val (.ref a121), .val (.ref a194), .val (.int (NI (elist y1 y2 y3 y4).length)), .unset] [(.int (nar .char (nar .char ((62 : Int32) &&& (255 : Int32)).toUInt32.toUInt16.toUInt32.toInt32)))]))
  refine OGo.go (U' := T254.setTop (mkF m 208 #[.val (.int x0), .val (.int x1), .val (.int x2), .val (.int x3), .val (.int y1), .val (.int y2), .val (.int y3), .val (.int y4), .val (.ref a5), .val (.ref a14), .val (.ref b35), .val (.ref a121), .val (.ref a194), .val (.int (NI (elist y1 y2 y3 y4).length)), .unset] [(.int (62 : Int32)), (.int (nar .char (nar .char ((62 : Int32) &&& (255 : Int32)).toUInt32.toUInt16.toUInt32.toInt32)))])) (fun _ k => XS.bipush X254.here hx rfl (hb hby at_206) k) ?_
  refine OGo.go (U' := T254.setTop (mkF m 211 #[.val (.int x0), .val (.int x1), .val (.int x2), .val (.int x3), .val (.int y1), .val (.int y2), .val (.int y3), .val (.int y4), .val (.ref a5), .val (.ref a14), .val (.ref b35), .val (.ref a121), .val (.ref a194), .val (.int (NI (elist y1 y2 y3 y4).length)), .unset] [])) (fun _ k => XS.icmpNo X254.here hx rfl (hb hby at_208) rfl (teq (by decide)).2 k) ?_
  refine OGo.go (U' := T254.setTop (mkF m 212 #[.val (.int x0), .val (.int x1), .val (.int x2), .val (.int x3), .val (.int y1), .val (.int y2), .val (.int y3), .val (.int y4), .val (.ref a5), .val (.ref a14), .val (.ref b35), .val (.ref a121), .val (.ref a194), .val (.int (NI (elist y1 y2 y3 y4).length)), .unset] [(.int (1 : Int32))])) (fun _ k => XS.iconst X254.here hx rfl (hb hby at_211) k) ?_
  refine OGo.go (U' := T254.setTop (mkF m 216 #[.val (.int x0), .val (.int x1), .val (.int x2), .val (.int x3), .val (.int y1), .val (.int y2), .val (.int y3), .val (.int y4), .val (.ref a5), .val (.ref a14), .val (.ref b35), .val (.ref a121), .val (.ref a194), .val (.int (NI (elist y1 y2 y3 y4).length)), .unset] [(.int (1 : Int32))])) (fun _ k => XS.goto X254.here hx rfl (pc0 := 212) (pc' := 216) rfl (hb hby at_212) (by decide) (by decide) k) ?_
  refine OGo.go (U' := T254.setTop (mkF m 218 #[.val (.int x0), .val (.int x1), .val (.int x2), .val (.int x3), .val (.int y1), .val (.int y2), .val (.int y3), .val (.int y4), .val (.ref a5), .val (.ref a14), .val (.ref b35), .val (.ref a121), .val (.ref a194), .val (.int (NI (elist y1 y2 y3 y4).length)), .val (.int (1 : Int32))] [])) (fun _ k => XS.istore X254.here hx rfl (hb hby at_216) rfl (l' := #[.val (.int x0), .val (.int x1), .val (.int x2), .val (.int x3), .val (.int y1), .val (.int y2), .val (.int y3), .val (.int y4), .val (.ref a5), .val (.ref a14), .val (.ref b35), .val (.ref a121), .val (.ref a194), .val (.int (NI (elist y1 y2 y3 y4).length)), .val (.int (1 : Int32))]) rfl k) ?_
  refine OGo.go (U' := T254.setTop (mkF m 220 #[.val (.int x0), .val (.int x1), .val (.int x2), .val (.int x3), .val (.int y1), .val (.int y2), .val (.int y3), .val (.int y4), .val (.ref a5), .val (.ref a14), .val (.ref b35), .val (.ref a121), .val (.ref a194), .val (.int (NI (elist y1 y2 y3 y4).length)), .val (.int (1 : Int32))] [(.int y1)])) (fun _ k => XS.iload X254.here hx rfl (hb hby at_218) rfl k) ?_
  by_cases hnp : (0 : Int32) < y1
  · skip
    have hnz : ¬ y1 = 0 := fun q => by rw [q] at hnp; exact absurd hnp (by decide)
    refine OGo.go (U' := T254.setTop (mkF m 223 #[.val (.int x0), .val (.int x1), .val (.int x2), .val (.int x3), .val (.int y1), .val (.int y2), .val (.int y3), .val (.int y4), .val (.ref a5), .val (.ref a14), .val (.ref b35), .val (.ref a121), .val (.ref a194), .val (.int (NI (elist y1 y2 y3 y4).length)), .val (.int (1 : Int32))] [])) (fun _ k => XS.ifNo X254.here hx rfl (hb hby at_220) rfl ((if0 _ _).trans (tlt hnp).2.2.2) k) ?_
    refine OGo.go (U' := T254.setTop (mkF m 225 #[.val (.int x0), .val (.int x1), .val (.int x2), .val (.int x3), .val (.int y1), .val (.int y2), .val (.int y3), .val (.int y4), .val (.ref a5), .val (.ref a14), .val (.ref b35), .val (.ref a121), .val (.ref a194), .val (.int (NI (elist y1 y2 y3 y4).length)), .val (.int (1 : Int32))] [(.int (1 : Int32))])) (fun _ k => XS.iload X254.here hx rfl (hb hby at_223) rfl k) ?_
    refine OGo.go (U' := T254.setTop (mkF m 228 #[.val (.int x0), .val (.int x1), .val (.int x2), .val (.int x3), .val (.int y1), .val (.int y2), .val (.int y3), .val (.int y4), .val (.ref a5), .val (.ref a14), .val (.ref b35), .val (.ref a121), .val (.ref a194), .val (.int (NI (elist y1 y2 y3 y4).length)), .val (.int (1 : Int32))] [])) (fun _ k => XS.ifNo X254.here hx rfl (hb hby at_225) rfl ((if0 _ _).trans (feq (by decide)).1) k) ?_
    refine OGo.go (U' := T254.setTop (mkF m 230 #[.val (.int x0), .val (.int x1), .val (.int x2), .val (.int x3), .val (.int y1), .val (.int y2), .val (.int y3), .val (.int y4), .val (.ref a5), .val (.ref a14), .val (.ref b35), .val (.ref a121), .val (.ref a194), .val (.int (NI (elist y1 y2 y3 y4).length)), .val (.int (1 : Int32))] [(.ref a194)])) (fun _ k => XS.aload X254.here hx rfl (hb hby at_228) rfl rfl k) ?_
    refine OGo.go (U' := T254.setTop (mkF m 232 #[.val (.int x0), .val (.int x1), .val (.int x2), .val (.int x3), .val (.int y1), .val (.int y2), .val (.int y3), .val (.int y4), .val (.ref a5), .val (.ref a14), .val (.ref b35), .val (.ref a121), .val (.ref a194), .val (.int (NI (elist y1 y2 y3 y4).length)), .val (.int (1 : Int32))] [(.int (NI (elist y1 y2 y3 y4).length)), (.ref a194)])) (fun _ k => XS.iload X254.here hx rfl (hb hby at_230) rfl k) ?_
    refine OGo.go (U' := T254.setTop (mkF m 234 #[.val (.int x0), .val (.int x1), .val (.int x2), .val (.int x3), .val (.int y1), .val (.int y2), .val (.int y3), .val (.int y4), .val (.ref a5), .val (.ref a14), .val (.ref b35), .val (.ref a121), .val (.ref a194), .val (.int (NI (elist y1 y2 y3 y4).length)), .val (.int (1 : Int32))] [(.int (15 : Int32)), (.int (NI (elist y1 y2 y3 y4).length)), (.ref a194)])) (fun _ k => XS.bipush X254.here hx rfl (hb hby at_232) k) ?_
    refine OGo.go (U' := T254.setTop (mkF m 235 #[.val (.int x0), .val (.int x1), .val (.int x2), .val (.int x3), .val (.int y1), .val (.int y2), .val (.int y3), .val (.int y4), .val (.ref a5), .val (.ref a14), .val (.ref b35), .val (.ref a121), .val (.ref a194), .val (.int (NI (elist y1 y2 y3 y4).length)), .val (.int (1 : Int32))] [(.int ((NI (elist y1 y2 y3 y4).length) + (15 : Int32))), (.ref a194)])) (fun _ k => XS.iadd X254.here hx rfl (hb hby at_234) rfl k) ?_
    refine OGo.callV X254 hx hZ166 (y := (⟨"java/lang/String", "charAt", "(I)C"⟩ : MethodName)) (C := "java/lang/String") hown166 (hw _ (List.mem_of_getElem? (i := 233) rfl)) (hw _ (List.mem_of_getElem? (i := 234) rfl)) (hw _ (List.mem_of_getElem? (i := 236) rfl)) (hw _ (List.mem_of_getElem? (i := 235) rfl)) (hw _ (List.mem_of_getElem? (i := 6) rfl)) (hw _ (List.mem_of_getElem? (i := 237) rfl)) (by decide) (g := (mkF m 235 #[.val (.int x0), .val (.int x1), .val (.int x2), .val (.int x3), .val (.int y1), .val (.int y2), .val (.int y3), .val (.int y4), .val (.ref a5), .val (.ref a14), .val (.ref b35), .val (.ref a121), .val (.ref a194), .val (.int (NI (elist y1 y2 y3 y4).length)), .val (.int (1 : Int32))] [(.int ((NI (elist y1 y2 y3 y4).length) + (15 : Int32))), (.ref a194)])) (a := a194) (argsL := [(.int ((NI (elist y1 y2 y3 y4).length) + (15 : Int32)))]) (rest := []) e254 Es194 (rm_cha l Z a0 hw a194 ((NI (elist y1 y2 y3 y4).length) + (15 : Int32)) b194 k194 (T2 y1 y2 y3 y4) cs (B8 (nar .char y2)) fm T194.heap Es194 sc194 sv194 A194 f215 hcs f216 hfm (own_ch6 y2 y3 y4 hn hnz).1 (own_ch6 y2 y3 y4 hn hnz).2.1 (own_ch6 y2 y3 y4 hn hnz).2.2) rfl (by rw [hml]; rfl) (lenOf pd_27 rfl) rfl (W := 0) (by show 2 * 0 + _ ≤ _; exact Nat.le_of_eq rfl) (hb hby at_235) (by decide) (by decide) (by decide) (by decide) ?_
    rintro _ T255 _ X255 ⟨rfl, e255, rfl⟩
    rw [List.append_nil] at X255
    show OGo p e below _ (T255.setTop (mkF m 238 #[.val (.int x0), .val (.int x1), .val (.int x2), .val (.int x3), .val (.int y1), .val (.int y2), .val (.int y3), .val (.int y4), .val (.ref a5), .val (.ref a14), .val (.ref b35), .val (.ref a121), .val (.ref a194), .val (.int (NI (elist y1 y2 y3 y4).length)), .val (.int (1 : Int32))] [(.int (nar .char (nar .char ((B8 (nar .char y2)) &&& (255 : Int32)).toUInt32.toUInt16.toUInt32.toInt32)))]))
    refine OGo.go (U' := T255.setTop (mkF m 240 #[.val (.int x0), .val (.int x1), .val (.int x2), .val (.int x3), .val (.int y1), .val (.int y2), .val (.int y3), .val (.int y4), .val (.ref a5), .val (.ref a14), .val (.ref b35), .val (.ref a121), .val (.ref a194), .val (.int (NI (elist y1 y2 y3 y4).length)), .val (.int (1 : Int32))] [(.int y2), (.int (nar .char (nar .char ((B8 (nar .char y2)) &&& (255 : Int32)).toUInt32.toUInt16.toUInt32.toInt32)))])) (fun _ k => XS.iload X255.here hx rfl (hb hby at_238) rfl k) ?_
    refine OGo.go (U' := T255.setTop (mkF m 243 #[.val (.int x0), .val (.int x1), .val (.int x2), .val (.int x3), .val (.int y1), .val (.int y2), .val (.int y3), .val (.int y4), .val (.ref a5), .val (.ref a14), .val (.ref b35), .val (.ref a121), .val (.ref a194), .val (.int (NI (elist y1 y2 y3 y4).length)), .val (.int (1 : Int32))] [])) (fun _ k => XS.icmpNo X255.here hx rfl (hb hby at_240) rfl (teq (own_last hy2)).2 k) ?_
    refine OGo.go (U' := T255.setTop (mkF m 244 #[.val (.int x0), .val (.int x1), .val (.int x2), .val (.int x3), .val (.int y1), .val (.int y2), .val (.int y3), .val (.int y4), .val (.ref a5), .val (.ref a14), .val (.ref b35), .val (.ref a121), .val (.ref a194), .val (.int (NI (elist y1 y2 y3 y4).length)), .val (.int (1 : Int32))] [(.int (1 : Int32))])) (fun _ k => XS.iconst X255.here hx rfl (hb hby at_243) k) ?_
    refine OGo.go (U' := T255.setTop (mkF m 248 #[.val (.int x0), .val (.int x1), .val (.int x2), .val (.int x3), .val (.int y1), .val (.int y2), .val (.int y3), .val (.int y4), .val (.ref a5), .val (.ref a14), .val (.ref b35), .val (.ref a121), .val (.ref a194), .val (.int (NI (elist y1 y2 y3 y4).length)), .val (.int (1 : Int32))] [(.int (1 : Int32))])) (fun _ k => XS.goto X255.here hx rfl (pc0 := 244) (pc' := 248) rfl (hb hby at_244) (by decide) (by decide) k) ?_
    refine OGo.go (U' := T255.setTop (mkF m 250 #[.val (.int x0), .val (.int x1), .val (.int x2), .val (.int x3), .val (.int y1), .val (.int y2), .val (.int y3), .val (.int y4), .val (.ref a5), .val (.ref a14), .val (.ref b35), .val (.ref a121), .val (.ref a194), .val (.int (NI (elist y1 y2 y3 y4).length)), .val (.int (1 : Int32))] [])) (fun _ k => XS.istore X255.here hx rfl (hb hby at_248) rfl (l' := #[.val (.int x0), .val (.int x1), .val (.int x2), .val (.int x3), .val (.int y1), .val (.int y2), .val (.int y3), .val (.int y4), .val (.ref a5), .val (.ref a14), .val (.ref b35), .val (.ref a121), .val (.ref a194), .val (.int (NI (elist y1 y2 y3 y4).length)), .val (.int (1 : Int32))]) rfl k) ?_
    refine OGo.go (U' := T255.setTop (mkF m 252 #[.val (.int x0), .val (.int x1), .val (.int x2), .val (.int x3), .val (.int y1), .val (.int y2), .val (.int y3), .val (.int y4), .val (.ref a5), .val (.ref a14), .val (.ref b35), .val (.ref a121), .val (.ref a194), .val (.int (NI (elist y1 y2 y3 y4).length)), .val (.int (1 : Int32))] [(.int (1 : Int32))])) (fun _ k => XS.iload X255.here hx rfl (hb hby at_250) rfl k) ?_
    refine OGo.retNH (s := s) (vm₁ := T166.vm) X255 hS166 e255 (Nat.le_trans (Nat.le_refl _) K194.1) hZ166 hEL hs0 C207 hx (t := .boolean) hret hlk (by simp) (hb hby at_252) ?_ (by decide) (by decide)
    exact ⟨rfl, N195⟩
  · skip
    refine OGo.go (U' := T254.setTop (mkF m 250 #[.val (.int x0), .val (.int x1), .val (.int x2), .val (.int x3), .val (.int y1), .val (.int y2), .val (.int y3), .val (.int y4), .val (.ref a5), .val (.ref a14), .val (.ref b35), .val (.ref a121), .val (.ref a194), .val (.int (NI (elist y1 y2 y3 y4).length)), .val (.int (1 : Int32))] [])) (fun _ k => XS.ifYes X254.here hx rfl (pc0 := 220) (pc' := 250) rfl (hb hby at_220) rfl ((if0 _ _).trans (flt hnp).2.2.2) (by decide) (by decide) k) ?_
    refine OGo.go (U' := T254.setTop (mkF m 252 #[.val (.int x0), .val (.int x1), .val (.int x2), .val (.int x3), .val (.int y1), .val (.int y2), .val (.int y3), .val (.int y4), .val (.ref a5), .val (.ref a14), .val (.ref b35), .val (.ref a121), .val (.ref a194), .val (.int (NI (elist y1 y2 y3 y4).length)), .val (.int (1 : Int32))] [(.int (1 : Int32))])) (fun _ k => XS.iload X254.here hx rfl (hb hby at_250) rfl k) ?_
    refine OGo.retNH (s := s) (vm₁ := T166.vm) X254 hS166 e254 (Nat.le_trans (Nat.le_refl _) K194.1) hZ166 hEL hs0 C207 hx (t := .boolean) hret hlk (by simp) (hb hby at_252) ?_ (by decide) (by decide)
    exact ⟨rfl, N195⟩
set_option maxRecDepth 65536 in
set_option maxHeartbeats 40000000 in
theorem comes_1 {Post : Tables → Env → Array Value → State → Outcome → State → Prop} (hpost : ∀ tb e args s v u, (limb_1_1.after args s (.returned v) u = true ∧ limb_1_2.after args s (.returned v) u = true ∧ True) → ReturnedEndW s (.returned v) u (Jvm.fieldLocs frame_1_writes args s ++ Jvm.arrayLocs frame_1_arrays args s ++ Jvm.staticLocs frame_1_statics s) 48 4032 → Post tb e args s (.returned v) u) :
    ArmFor flags0 classFile x code maxLocals ret World_1 tables_1 room_1 Calls_1 rest_1 Pre_1 Post := by
  intro l hfl _ _ p e ha hc hk s m args below hf hA hF happ hP
  obtain ⟨hcalls, hrest, hpre⟩ := hP
  obtain ⟨-, -, -, hnamed, -, -, -, hat⟩ := (Spec.applies_iff hf).mp happ
  obtain ⟨hg, hn⟩ := and_e (Cond.before_iff.mp (show (Jvm.Cond.and given_1 narrow_1).before args s = true from hpre))
  obtain ⟨g0, g1⟩ := and_e hg
  obtain ⟨w0, w1, w2, w3, rfl⟩ : ∃ w0 w1 w2 w3 : Value, args = #[w0, w1, w2, w3] := by
    have hs : args.size = 4 := by simpa [Cond.value, given_1] using g0
    obtain ⟨L⟩ := args
    match L, hs with
    | [w0, w1, w2, w3], _ => exact ⟨w0, w1, w2, w3, rfl⟩
  have hw := fun d (hd : d ∈ tables_1) => atoms_spec (ws := Jvm.Cond.code x code maxLocals ret :: tables_1) hat d (List.mem_cons_of_mem _ hd)
  have hfit : Fit s := fun {y c} hc i hi => by
    obtain ⟨ha, rfl⟩ := Array.getElem?_eq_some_iff.mp hc
    have q := List.all_eq_true.mp ((Array.all_eq_true_iff_forall_mem.mp hF) _ (Array.getElem_mem ha)) i (List.mem_range.mpr hi)
    simpa [Array.getElem?_eq_getElem hi] using q
  obtain ⟨v0, g2⟩ := and_e g1
  obtain ⟨i0, q0⟩ := is_v v0
  obtain rfl : w0 = (.int i0) := Option.some.inj q0
  obtain ⟨v1, g3⟩ := and_e g2
  obtain ⟨i1, q1⟩ := is_v v1
  obtain rfl : w1 = (.int i1) := Option.some.inj q1
  obtain ⟨v2, g4⟩ := and_e g3
  obtain ⟨i2, q2⟩ := is_v v2
  obtain rfl : w2 = (.int i2) := Option.some.inj q2
  obtain ⟨i3, q3⟩ := is_v g4
  obtain rfl : w3 = (.int i3) := Option.some.inj q3
  obtain ⟨hsets, -⟩ := atoms_of _ (rest_1_c_eq ▸ (show rest_1_c.before _ s = true from hrest))
  obtain ⟨cs, qcs⟩ := is_v (Cond.before_iff.mp (hsets _ (List.mem_of_getElem? (i := 1) rfl)))
  have hcw := hsets _ (List.mem_of_getElem? (i := 2) rfl)
  have hcs : ¬ cs = 0 := fun q => by
    have w := Cond.before_iff.mp hcw
    subst q
    simp [Cond.value, qcs, Term.int_eval] at w
  have S0 := Sta.start qcs (Or.inl (hsets _ (List.mem_of_getElem? (i := 0) rfl)))
  obtain ⟨fm, qfm, hfm⟩ := isR_v (Cond.before_iff.mp (hsets _ (List.mem_of_getElem? (i := 8) rfl)))
  have SF := Sta.start qfm (Or.inl (hsets _ (List.mem_of_getElem? (i := 7) rfl)))
  obtain ⟨rd, qrd⟩ := exa_v (Cond.before_iff.mp (hsets _ (List.mem_of_getElem? (i := 16) rfl)))
  have SD := Sta.start qrd (Or.inr ⟨(hw _ (List.mem_of_getElem? (i := 76) rfl)), hsets _ (List.mem_of_getElem? (i := 11) rfl)⟩)
  have hEL : EW s #[.int i0, .int i1, .int i2, .int i3] own_EL := EW.cons (hw _ (List.mem_of_getElem? (i := 123) rfl)) (by decide +kernel) (EW.cons (hw _ (List.mem_of_getElem? (i := 171) rfl)) (by decide +kernel) (EW.cons (hw _ (List.mem_of_getElem? (i := 18) rfl)) (by decide +kernel) EW.nil))
  have CH0 : CHv s own_EL s.vm s.heap := CHv.start hEL (fun p hp => hcalls.1 p hp) hcw (hw _ (List.mem_of_getElem? (i := 19) rfl)) (hw _ (List.mem_of_getElem? (i := 5) rfl))
  obtain ⟨n, o, h1, h2, h3, _, L, rfl, ⟨rfl, N⟩, -, hq⟩ := rm_law l s _ hw i0 i1 i2 i3 cs fm rd s.heap.size s.heap (Nat.le_refl _) S0 hcs SF hfm SD p e ha hc hk s m _ below hf ((Spec.applies_iff_loose hf).mp happ).1 ⟨rfl, State.Warmed39.refl s, rfl, CH0, fun _ q => absurd q List.not_mem_nil⟩ trivial
  refine ⟨n, _, h1, h2, h3, hpost _ _ _ _ _ _ ⟨Cond.after_iff.mpr rfl, Cond.after_iff.mpr (eq_i res_at (Term.int_eval (1)) rfl), trivial⟩ ⟨hq.1, hq.2.1, hq.2.2.1, (hq.2.2.2.sift fun y hy => Or.inr (N y hy)).mono (by decide) (by decide)⟩⟩
theorem main_1_1 : Claimed_1_1 := comes_1 fun _ _ _ _ _ _ h hF => ⟨h.1, hF⟩
theorem main_1_2 : Claimed_1_2 := comes_1 fun _ _ _ _ _ _ h hF => ⟨h.2.1, hF⟩
end Jvm.Pilot.@@N@@
namespace Jvm.Pilot.@@N@@
open Jvm Jvm.ClassFile Sem Op Lib Jvm.Free Jvm.Stand Jvm.Pilot.@@N@@.Jvm.D
/-! MADE BY PROGRAM (witnessworld.py) out of the Statement's table words and the real class files: 40 classes; the members and pool entries that the words name. The judged class is class 1, her method 3. -/
namespace start1
open Jvm.ClassFile
def u (s : String) : CpInfo := .utf8 (stringToUtf16 s)
/-- a pool by its gaps: so many unusable entries, then the entry; so many at the end -/
def gap : Nat → List CpInfo → List CpInfo
  | 0, r => r
  | n + 1, r => .unusable :: gap n r
def poolList (es : List (Nat × CpInfo)) (last : Nat) : List CpInfo := es.foldr (fun e r => gap e.1 (e.2 :: r)) (gap last [])
def pool (es : List (Nat × CpInfo)) (last : Nat) : Array CpInfo := ⟨poolList es last⟩
def fileOf (pool : Array CpInfo) (this : Nat) (attrs : Array Attribute := #[]) (ms : Array MethodInfo := #[]) (fl : Nat := 33) (sup : Nat := 0) (ifs : Array Nat := #[]) (fds : Array FieldInfo := #[]) : ClassFile where
  minorVersion := 0
  majorVersion := 65
  constantPool := pool
  accessFlags := fl
  thisClass := this
  superClass := sup
  interfaces := ifs
  fields := fds
  methods := ms
  attributes := attrs
def plain (name : String) (sup : Option ClassId) : Class where
  name := name
  kind := .ordinary
  loader := none
  accessFlags := 33
  super := sup
  interfaces := #[]
  cf := none
  fields := #[]
  methods := #[]
  instanceTypes := #[]
  staticTypes := #[]
  resolved := #[]
  callSites := []
  init := .initialized
  statics := none
  mirror := none

def pool0 : Array CpInfo := pool [(5, u "<init>"), (0, u "()V"), (1, .class_ 10), (1, u "java/lang/Object")] 113

def k0c0 : Code := { maxStack := 0, maxLocals := 1, code := object_method_1_code, exceptionTable := #[], attributes := #[] }
def k0m0 : Method := { name := "<init>", desc := "()V", sig := { parameters := [], returnType := none }, accessFlags := 1, code := some k0c0 }
/-- java/lang/Object -/
def k0 : Class := { plain "java/lang/Object" none with
  accessFlags := 33
  interfaces := #[]
  cf := some (fileOf pool0 8 #[] #[{ accessFlags := 1, nameIndex := 5, descriptorIndex := 6, attributes := #[] }] 33 0 #[] #[])
  fields := #[]
  methods := #[k0m0]
  instanceTypes := #[]
  staticTypes := #[]
  resolved := Array.replicate 124 none
  statics := none }

def pool1 : Array CpInfo := pool [(2, .class_ 4), (0, .nameAndType 5 6), (0, u "java/lang/Object"), (0, u "<init>"), (0, u "()V"), (0, .class_ 8), (0, u "java/lang/String"), (0, .methodref 7 10), (0, .nameAndType 5 11), (0, u "([C)V"), (0, .methodref 13 14), (0, .class_ 15), (0, .nameAndType 16 17), (0, u "com/example/loomwire/loomwire/soap/XmlWriterWriteStartDocument304PinLaw"), (0, u "version"), (0, u "(ICCC)Ljava/lang/String;"), (0, .methodref 13 19), (0, .nameAndType 20 17), (0, u "expected"), (0, .class_ 22), (0, u "com/example/loomwire/loomwire/soap/XmlWriter"), (0, .methodref 21 3), (0, .methodref 21 25), (0, .nameAndType 26 27), (0, u "writeStartDocument"), (0, u "(Ljava/lang/String;)V"), (0, .methodref 21 29), (0, .nameAndType 30 31), (0, u "text"), (0, u "()Ljava/lang/String;"), (0, .methodref 7 33), (0, .nameAndType 34 35), (0, u "equals"), (0, u "(Ljava/lang/Object;)Z"), (0, .methodref 7 37), (0, .nameAndType 38 39), (0, u "length"), (0, u "()I"), (0, .methodref 7 41), (0, .nameAndType 42 43), (0, u "charAt"), (0, u "(I)C"), (3, u "law"), (0, u "(IIII)Z")] 2

def k1m0 : Method := { name := "<init>", desc := "()V", sig := { parameters := [], returnType := none }, accessFlags := 1, code := none }
def k1c1 : Code := { maxStack := 6, maxLocals := 4, code := method_2_code, exceptionTable := #[], attributes := #[] }
def k1m1 : Method := { name := "version", desc := "(ICCC)Ljava/lang/String;", sig := { parameters := [.int, .char, .char, .char], returnType := some (.object "java/lang/String") }, accessFlags := 10, code := some k1c1 }
def k1c2 : Code := { maxStack := 6, maxLocals := 4, code := method_3_code, exceptionTable := #[], attributes := #[] }
def k1m2 : Method := { name := "expected", desc := "(ICCC)Ljava/lang/String;", sig := { parameters := [.int, .char, .char, .char], returnType := some (.object "java/lang/String") }, accessFlags := 10, code := some k1c2 }
def k1c3 : Code := { maxStack := 4, maxLocals := 15, code := code, exceptionTable := #[], attributes := #[] }
def k1m3 : Method := { name := "law", desc := "(IIII)Z", sig := { parameters := [.int, .int, .int, .int], returnType := some .boolean }, accessFlags := 9, code := some k1c3 }
/-- com/example/loomwire/loomwire/soap/XmlWriterWriteStartDocument304PinLaw -/
def k1 : Class := { plain "com/example/loomwire/loomwire/soap/XmlWriterWriteStartDocument304PinLaw" (some 0) with
  accessFlags := 49
  interfaces := #[]
  cf := some (fileOf pool1 13 #[] #[{ accessFlags := 1, nameIndex := 5, descriptorIndex := 6, attributes := #[] }, { accessFlags := 10, nameIndex := 16, descriptorIndex := 17, attributes := #[] }, { accessFlags := 10, nameIndex := 20, descriptorIndex := 17, attributes := #[] }, { accessFlags := 9, nameIndex := 47, descriptorIndex := 48, attributes := #[] }] 49 2 #[] #[])
  fields := #[]
  methods := #[k1m0, k1m1, k1m2, k1m3]
  instanceTypes := #[]
  staticTypes := #[]
  resolved := Array.replicate 51 none
  statics := none }

def pool2 : Array CpInfo := pool [(1, .class_ 2), (0, u "java/io/Serializable"), (0, .class_ 4), (0, u "java/lang/Object")] 2

/-- java/io/Serializable -/
def k2 : Class := { plain "java/io/Serializable" (some 0) with
  accessFlags := 1537
  interfaces := #[]
  cf := some (fileOf pool2 1 #[] #[] 1537 3 #[] #[])
  fields := #[]
  methods := #[]
  instanceTypes := #[]
  staticTypes := #[]
  resolved := Array.replicate 7 none
  statics := none }

def pool3 : Array CpInfo := pool [(1, .class_ 2), (0, u "java/lang/Comparable"), (0, .class_ 4), (0, u "java/lang/Object")] 7

/-- java/lang/Comparable -/
def k3 : Class := { plain "java/lang/Comparable" (some 0) with
  accessFlags := 1537
  interfaces := #[]
  cf := some (fileOf pool3 1 #[] #[] 1537 3 #[] #[])
  fields := #[]
  methods := #[]
  instanceTypes := #[]
  staticTypes := #[]
  resolved := Array.replicate 12 none
  statics := none }

def pool4 : Array CpInfo := pool [(2, .class_ 4), (1, u "java/lang/CharSequence"), (42, .class_ 48), (0, u "java/lang/CharSequence$1CodePointIterator"), (10, .class_ 60), (0, u "java/lang/CharSequence$1CharIterator"), (5, .class_ 67), (0, u "java/lang/Object")] 63

/-- java/lang/CharSequence -/
def k4 : Class := { plain "java/lang/CharSequence" (some 0) with
  accessFlags := 1537
  interfaces := #[]
  cf := some (fileOf pool4 2 #[.nestMembers #[47, 59]] #[] 1537 66 #[] #[])
  fields := #[]
  methods := #[]
  instanceTypes := #[]
  staticTypes := #[]
  resolved := Array.replicate 131 none
  statics := none }

def pool5 : Array CpInfo := pool [(1, .class_ 2), (0, u "java/lang/constant/Constable"), (0, .class_ 4), (0, u "java/lang/Object")] 6

/-- java/lang/constant/Constable -/
def k5 : Class := { plain "java/lang/constant/Constable" (some 0) with
  accessFlags := 1537
  interfaces := #[]
  cf := some (fileOf pool5 1 #[] #[] 1537 3 #[] #[])
  fields := #[]
  methods := #[]
  instanceTypes := #[]
  staticTypes := #[]
  resolved := Array.replicate 11 none
  statics := none }

def pool6 : Array CpInfo := pool [(1, .class_ 2), (0, u "java/lang/constant/ConstantDesc"), (0, .class_ 4), (0, u "java/lang/Object")] 32

/-- java/lang/constant/ConstantDesc -/
def k6 : Class := { plain "java/lang/constant/ConstantDesc" (some 0) with
  accessFlags := 1537
  interfaces := #[]
  cf := some (fileOf pool6 1 #[] #[] 1537 3 #[] #[])
  fields := #[]
  methods := #[]
  instanceTypes := #[]
  staticTypes := #[]
  resolved := Array.replicate 37 none
  statics := none }

def pool7 : Array CpInfo := pool [(1, .methodref 2 3), (0, .class_ 4), (0, .nameAndType 5 6), (0, u "java/lang/Object"), (0, u "<init>"), (0, u "()V"), (0, .string 8), (0, u ""), (0, .fieldref 10 11), (0, .class_ 12), (0, .nameAndType 13 14), (0, u "java/lang/String"), (0, u "value"), (0, u "[B"), (0, .fieldref 10 16), (0, .nameAndType 17 18), (0, u "coder"), (0, u "B"), (2, u "hash"), (0, u "I"), (2, u "hashIsZero"), (0, u "Z"), (0, .methodref 10 28), (0, .nameAndType 5 29), (0, u "([CIILjava/lang/Void;)V"), (8, .fieldref 10 39), (0, .nameAndType 40 26), (0, u "COMPACT_STRINGS"), (1, .class_ 44), (1, u "java/lang/StringUTF16"), (0, u "compress"), (1, .methodref 42 48), (0, .nameAndType 49 50), (0, u "coderFromArrayLen"), (0, u "([BI)B"), (3, .methodref 55 56), (0, .class_ 57), (0, .nameAndType 58 59), (0, u "java/util/Arrays"), (0, u "copyOfRange"), (0, u "([BII)[B"), (47, .class_ 109), (1, u "java/lang/StringLatin1"), (32, u "()Z"), (34, .methodref 42 178), (0, .nameAndType 45 179), (0, u "([CII)[B"), (13, .class_ 195), (1, u "java/lang/System"), (16, .methodref 193 213), (0, .nameAndType 214 215), (0, u "arraycopy"), (0, u "(Ljava/lang/Object;ILjava/lang/Object;II)V"), (118, u "()I"), (0, .methodref 10 336), (0, .nameAndType 17 337), (0, u "()B"), (2, u "()[B"), (22, u "([BI)C"), (27, u "(II)V"), (35, u "(I)C"), (61, .methodref 10 490), (0, .nameAndType 5 491), (0, u "(Ljava/lang/AbstractStringBuilder;Ljava/lang/Void;)V"), (0, .methodref 10 493), (0, .nameAndType 494 142), (0, u "isLatin1"), (0, .methodref 107 496), (0, .nameAndType 497 363), (0, u "charAt"), (3, u "checkIndex"), (4, .nameAndType 507 334), (0, u "length"), (24, u "getBytes"), (8, .methodref 107 542), (0, .nameAndType 543 544), (0, u "equals"), (0, u "([B[B)Z"), (4, .methodref 550 506), (0, .class_ 551), (0, u "java/lang/AbstractStringBuilder"), (0, .methodref 550 553), (0, .nameAndType 554 340), (0, u "getValue"), (18, u "(Ljava/lang/Object;)Z"), (1, .class_ 576), (0, u "java/lang/CharSequence"), (22, u "CASE_INSENSITIVE_ORDER"), (0, u "Ljava/util/Comparator;"), (220, u "([BIB)V"), (188, u "([C)V"), (36, .methodref 550 493), (5, .fieldref 1054 1055), (0, .class_ 1056), (0, .nameAndType 1057 1058), (0, u "jdk/internal/util/Preconditions"), (0, u "SIOOBE_FORMATTER"), (0, u "Ljava/util/function/BiFunction;"), (0, .methodref 1054 1060), (0, .nameAndType 501 1061), (0, u "(IILjava/util/function/BiFunction;)I"), (39, u "serialPersistentFields"), (0, u "[Ljava/io/ObjectStreamField;"), (0, .class_ 1104), (0, u "java/lang/String$CaseInsensitiveComparator"), (1, .class_ 1107), (0, u "java/io/Serializable"), (0, .class_ 1109), (0, u "java/lang/Comparable"), (0, .class_ 1111), (0, u "java/lang/constant/Constable"), (0, .class_ 1113), (0, u "java/lang/constant/ConstantDesc"), (2, u "serialVersionUID"), (0, u "J"), (3, u "REPL"), (0, u "C"), (2, u "LATIN1"), (1, u "UTF16"), (105, u "(Ljava/lang/StringBuilder;)V")] 217

def k7m0 : Method := { name := "<init>", desc := "()V", sig := { parameters := [], returnType := none }, accessFlags := 1, code := none }
def k7c1 : Code := { maxStack := 5, maxLocals := 2, code := jdk_42_method_3_code, exceptionTable := #[], attributes := #[] }
def k7m1 : Method := { name := "<init>", desc := "([C)V", sig := { parameters := [(.array .char)], returnType := none }, accessFlags := 1, code := some k7c1 }
def k7c2 : Code := { maxStack := 3, maxLocals := 2, code := jdk_42_method_53_code, exceptionTable := #[], attributes := #[] }
def k7m2 : Method := { name := "<init>", desc := "(Ljava/lang/StringBuilder;)V", sig := { parameters := [(.object "java/lang/StringBuilder")], returnType := none }, accessFlags := 1, code := some k7c2 }
def k7c3 : Code := { maxStack := 2, maxLocals := 1, code := jdk_42_method_54_code, exceptionTable := #[], attributes := #[] }
def k7m3 : Method := { name := "length", desc := "()I", sig := { parameters := [], returnType := some .int }, accessFlags := 1, code := some k7c3 }
def k7c4 : Code := { maxStack := 2, maxLocals := 2, code := jdk_42_method_56_code, exceptionTable := #[], attributes := #[] }
def k7m4 : Method := { name := "charAt", desc := "(I)C", sig := { parameters := [.int], returnType := some .char }, accessFlags := 1, code := some k7c4 }
def k7c5 : Code := { maxStack := 2, maxLocals := 3, code := jdk_42_method_66_code, exceptionTable := #[], attributes := #[] }
def k7m5 : Method := { name := "equals", desc := "(Ljava/lang/Object;)Z", sig := { parameters := [(.object "java/lang/Object")], returnType := some .boolean }, accessFlags := 1, code := some k7c5 }
def k7c6 : Code := { maxStack := 5, maxLocals := 4, code := jdk_42_method_147_code, exceptionTable := #[], attributes := #[] }
def k7m6 : Method := { name := "getBytes", desc := "([BIB)V", sig := { parameters := [(.array .byte), .int, .byte], returnType := none }, accessFlags := 0, code := some k7c6 }
def k7c7 : Code := { maxStack := 4, maxLocals := 6, code := jdk_42_method_149_code, exceptionTable := #[], attributes := #[] }
def k7m7 : Method := { name := "<init>", desc := "([CIILjava/lang/Void;)V", sig := { parameters := [(.array .char), .int, .int, (.object "java/lang/Void")], returnType := none }, accessFlags := 2, code := some k7c7 }
def k7c8 : Code := { maxStack := 5, maxLocals := 5, code := jdk_42_method_150_code, exceptionTable := #[], attributes := #[] }
def k7m8 : Method := { name := "<init>", desc := "(Ljava/lang/AbstractStringBuilder;Ljava/lang/Void;)V", sig := { parameters := [(.object "java/lang/AbstractStringBuilder"), (.object "java/lang/Void")], returnType := none }, accessFlags := 0, code := some k7c8 }
def k7c9 : Code := { maxStack := 1, maxLocals := 1, code := jdk_42_method_152_code, exceptionTable := #[], attributes := #[] }
def k7m9 : Method := { name := "coder", desc := "()B", sig := { parameters := [], returnType := some .byte }, accessFlags := 0, code := some k7c9 }
def k7c10 : Code := { maxStack := 1, maxLocals := 1, code := jdk_42_method_154_code, exceptionTable := #[], attributes := #[] }
def k7m10 : Method := { name := "isLatin1", desc := "()Z", sig := { parameters := [], returnType := some .boolean }, accessFlags := 0, code := some k7c10 }
def k7c11 : Code := { maxStack := 3, maxLocals := 2, code := jdk_42_method_155_code, exceptionTable := #[], attributes := #[] }
def k7m11 : Method := { name := "checkIndex", desc := "(II)V", sig := { parameters := [.int, .int], returnType := none }, accessFlags := 8, code := some k7c11 }
/-- java/lang/String -/
def k7 : Class := { plain "java/lang/String" (some 0) with
  accessFlags := 49
  interfaces := #[2, 3, 4, 5, 6]
  cf := some (fileOf pool7 10 #[.nestMembers #[1103]] #[{ accessFlags := 1, nameIndex := 5, descriptorIndex := 6, attributes := #[] }, { accessFlags := 1, nameIndex := 5, descriptorIndex := 1010, attributes := #[] }, { accessFlags := 1, nameIndex := 5, descriptorIndex := 1233, attributes := #[] }, { accessFlags := 1, nameIndex := 507, descriptorIndex := 334, attributes := #[] }, { accessFlags := 1, nameIndex := 497, descriptorIndex := 427, attributes := #[] }, { accessFlags := 1, nameIndex := 543, descriptorIndex := 573, attributes := #[] }, { accessFlags := 0, nameIndex := 532, descriptorIndex := 821, attributes := #[] }, { accessFlags := 2, nameIndex := 5, descriptorIndex := 29, attributes := #[] }, { accessFlags := 0, nameIndex := 5, descriptorIndex := 491, attributes := #[] }, { accessFlags := 0, nameIndex := 17, descriptorIndex := 337, attributes := #[] }, { accessFlags := 0, nameIndex := 494, descriptorIndex := 142, attributes := #[] }, { accessFlags := 8, nameIndex := 501, descriptorIndex := 391, attributes := #[] }] 49 2 #[1106, 1108, 575, 1110, 1112] #[{ accessFlags := 18, nameIndex := 13, descriptorIndex := 14, attributes := #[] }, { accessFlags := 18, nameIndex := 17, descriptorIndex := 18, attributes := #[] }, { accessFlags := 2, nameIndex := 21, descriptorIndex := 22, attributes := #[] }, { accessFlags := 2, nameIndex := 25, descriptorIndex := 26, attributes := #[] }, { accessFlags := 26, nameIndex := 1116, descriptorIndex := 1117, attributes := #[] }, { accessFlags := 24, nameIndex := 40, descriptorIndex := 26, attributes := #[] }, { accessFlags := 26, nameIndex := 1101, descriptorIndex := 1102, attributes := #[] }, { accessFlags := 26, nameIndex := 1121, descriptorIndex := 1122, attributes := #[] }, { accessFlags := 25, nameIndex := 599, descriptorIndex := 600, attributes := #[] }, { accessFlags := 24, nameIndex := 1125, descriptorIndex := 18, attributes := #[] }, { accessFlags := 24, nameIndex := 1127, descriptorIndex := 18, attributes := #[] }])
  fields := #[{ name := "value", type := (.array .byte), accessFlags := 18, slot := 0, constantValue := 0 }, { name := "coder", type := .byte, accessFlags := 18, slot := 1, constantValue := 0 }, { name := "hash", type := .int, accessFlags := 2, slot := 2, constantValue := 0 }, { name := "hashIsZero", type := .boolean, accessFlags := 2, slot := 3, constantValue := 0 }, { name := "serialVersionUID", type := .long, accessFlags := 26, slot := 0, constantValue := 0 }, { name := "COMPACT_STRINGS", type := .boolean, accessFlags := 24, slot := 1, constantValue := 0 }, { name := "serialPersistentFields", type := (.array (.object "java/io/ObjectStreamField")), accessFlags := 26, slot := 2, constantValue := 0 }, { name := "REPL", type := .char, accessFlags := 26, slot := 3, constantValue := 0 }, { name := "CASE_INSENSITIVE_ORDER", type := (.object "java/util/Comparator"), accessFlags := 25, slot := 4, constantValue := 0 }, { name := "LATIN1", type := .byte, accessFlags := 24, slot := 5, constantValue := 0 }, { name := "UTF16", type := .byte, accessFlags := 24, slot := 6, constantValue := 0 }]
  methods := #[k7m0, k7m1, k7m2, k7m3, k7m4, k7m5, k7m6, k7m7, k7m8, k7m9, k7m10, k7m11]
  instanceTypes := #[(.array .byte), .byte, .int, .boolean]
  staticTypes := #[.long, .boolean, (.array (.object "java/io/ObjectStreamField")), .char, (.object "java/util/Comparator"), .byte, .byte]
  resolved := Array.replicate 1451 none
  statics := some 0 }

def pool8 : Array CpInfo := pool [(6, .class_ 8), (1, u "java/lang/Object"), (0, u "<init>"), (0, u "()V"), (1, .class_ 14), (1, u "java/lang/StringUTF16"), (31, u "$assertionsDisabled"), (0, u "Z"), (13, u "HI_BYTE_SHIFT"), (0, u "I"), (2, u "LO_BYTE_SHIFT"), (49, .methodref 12 116), (0, .nameAndType 117 118), (0, u "compress"), (0, u "([CI[BII)I"), (3, u "([CII)[B"), (138, u "coderFromArrayLen"), (0, u "([BI)B"), (106, .class_ 371), (1, u "java/lang/StringUTF16$LinesSpliterator"), (58, u "MAX_LENGTH"), (196, .class_ 628), (0, u "java/lang/StringUTF16$CodePointsSpliterator"), (0, .class_ 630), (0, u "java/lang/StringUTF16$CharsSpliterator")] 4

def k8m0 : Method := { name := "<init>", desc := "()V", sig := { parameters := [], returnType := none }, accessFlags := 0, code := none }
def k8c1 : Code := { maxStack := 2, maxLocals := 2, code := jdk_52_method_15_code, exceptionTable := #[], attributes := #[] }
def k8m1 : Method := { name := "coderFromArrayLen", desc := "([BI)B", sig := { parameters := [(.array .byte), .int], returnType := some .byte }, accessFlags := 8, code := some k8c1 }
def k8c2 : Code := { maxStack := 5, maxLocals := 6, code := jdk_52_method_16_code, exceptionTable := #[], attributes := #[] }
def k8m2 : Method := { name := "compress", desc := "([CII)[B", sig := { parameters := [(.array .char), .int, .int], returnType := some (.array .byte) }, accessFlags := 9, code := some k8c2 }
def k8c3 : Code := { maxStack := 3, maxLocals := 7, code := jdk_52_method_21_code, exceptionTable := #[], attributes := #[] }
def k8m3 : Method := { name := "compress", desc := "([CI[BII)I", sig := { parameters := [(.array .char), .int, (.array .byte), .int, .int], returnType := some .int }, accessFlags := 9, code := some k8c3 }
/-- java/lang/StringUTF16 -/
def k8 : Class := { plain "java/lang/StringUTF16" (some 0) with
  accessFlags := 48
  interfaces := #[]
  cf := some (fileOf pool8 12 #[.nestMembers #[627, 629, 369]] #[{ accessFlags := 0, nameIndex := 9, descriptorIndex := 10, attributes := #[] }, { accessFlags := 8, nameIndex := 261, descriptorIndex := 262, attributes := #[] }, { accessFlags := 9, nameIndex := 117, descriptorIndex := 122, attributes := #[] }, { accessFlags := 9, nameIndex := 117, descriptorIndex := 118, attributes := #[] }] 48 6 #[] #[{ accessFlags := 26, nameIndex := 61, descriptorIndex := 62, attributes := #[] }, { accessFlags := 26, nameIndex := 65, descriptorIndex := 62, attributes := #[] }, { accessFlags := 24, nameIndex := 430, descriptorIndex := 62, attributes := #[] }, { accessFlags := 4120, nameIndex := 46, descriptorIndex := 47, attributes := #[] }])
  fields := #[{ name := "HI_BYTE_SHIFT", type := .int, accessFlags := 26, slot := 0, constantValue := 0 }, { name := "LO_BYTE_SHIFT", type := .int, accessFlags := 26, slot := 1, constantValue := 0 }, { name := "MAX_LENGTH", type := .int, accessFlags := 24, slot := 2, constantValue := 0 }, { name := "$assertionsDisabled", type := .boolean, accessFlags := 4120, slot := 3, constantValue := 0 }]
  methods := #[k8m0, k8m1, k8m2, k8m3]
  instanceTypes := #[]
  staticTypes := #[.int, .int, .int, .boolean]
  resolved := Array.replicate 635 none
  statics := none }

def pool9 : Array CpInfo := pool [(1, u "javax/xml/stream/XMLStreamWriter"), (0, .class_ 1), (0, u "java/lang/Object"), (0, .class_ 3)] 3

/-- javax/xml/stream/XMLStreamWriter -/
def k9 : Class := { plain "javax/xml/stream/XMLStreamWriter" (some 0) with
  accessFlags := 1537
  interfaces := #[]
  cf := some (fileOf pool9 2 #[] #[] 1537 4 #[] #[])
  fields := #[]
  methods := #[]
  instanceTypes := #[]
  staticTypes := #[]
  resolved := Array.replicate 8 none
  statics := none }

def pool10 : Array CpInfo := pool [(1, .methodref 2 3), (0, .class_ 4), (0, .nameAndType 5 6), (0, u "java/lang/Object"), (0, u "<init>"), (0, u "()V"), (0, .class_ 8), (0, u "java/lang/StringBuilder"), (0, .methodref 7 10), (0, .nameAndType 5 11), (0, u "(I)V"), (0, .fieldref 13 14), (0, .class_ 15), (0, .nameAndType 16 17), (0, u "com/example/loomwire/loomwire/soap/XmlWriter"), (0, u "out"), (0, u "Ljava/lang/StringBuilder;"), (0, .class_ 19), (0, u "java/lang/String"), (0, .fieldref 13 21), (0, .nameAndType 22 23), (0, u "open"), (0, u "[Ljava/lang/String;"), (0, .fieldref 13 25), (0, .nameAndType 26 27), (0, u "declarationCounts"), (0, u "[I"), (0, .class_ 29), (0, u "java/util/ArrayList"), (0, .methodref 28 3), (0, .fieldref 13 32), (0, .nameAndType 33 34), (0, u "declarations"), (0, u "Ljava/util/List;"), (0, .class_ 36), (0, u "java/util/HashMap"), (0, .methodref 35 3), (0, .fieldref 13 39), (0, .nameAndType 40 41), (0, u "bindings"), (0, u "Ljava/util/Map;"), (0, .methodref 7 43), (0, .nameAndType 44 45), (0, u "toString"), (0, u "()Ljava/lang/String;"), (4, u "writeStartDocument"), (0, u "(Ljava/lang/String;)V"), (0, .string 53), (0, u "<?xml version=\""), (0, .methodref 7 55), (0, .nameAndType 56 57), (0, u "append"), (0, u "(Ljava/lang/String;)Ljava/lang/StringBuilder;"), (0, .string 59), (0, u "\"?>"), (7, u "depth"), (0, u "I"), (106, .class_ 176), (0, u "com/example/loomwire/loomwire/soap/XmlWriter$Binding"), (15, u "outer"), (0, u "Ljavax/xml/namespace/NamespaceContext;"), (5, .class_ 200), (0, u "com/example/loomwire/loomwire/soap/XmlWriter$Scope"), (21, u "startTagOpen"), (0, u "Z"), (2, u "empty"), (48, .class_ 276), (0, u "javax/xml/stream/XMLStreamWriter"), (5, u "text")] 46

def k10c0 : Code := { maxStack := 4, maxLocals := 1, code := prog_33_method_1_code, exceptionTable := #[], attributes := #[] }
def k10m0 : Method := { name := "<init>", desc := "()V", sig := { parameters := [], returnType := none }, accessFlags := 0, code := some k10c0 }
def k10c1 : Code := { maxStack := 1, maxLocals := 1, code := prog_33_method_2_code, exceptionTable := #[], attributes := #[] }
def k10m1 : Method := { name := "text", desc := "()Ljava/lang/String;", sig := { parameters := [], returnType := some (.object "java/lang/String") }, accessFlags := 0, code := some k10c1 }
def k10c2 : Code := { maxStack := 2, maxLocals := 2, code := prog_33_method_4_code, exceptionTable := #[], attributes := #[] }
def k10m2 : Method := { name := "writeStartDocument", desc := "(Ljava/lang/String;)V", sig := { parameters := [(.object "java/lang/String")], returnType := none }, accessFlags := 1, code := some k10c2 }
/-- com/example/loomwire/loomwire/soap/XmlWriter -/
def k10 : Class := { plain "com/example/loomwire/loomwire/soap/XmlWriter" (some 0) with
  accessFlags := 48
  interfaces := #[9]
  cf := some (fileOf pool10 13 #[.nestMembers #[199, 175]] #[{ accessFlags := 0, nameIndex := 5, descriptorIndex := 6, attributes := #[] }, { accessFlags := 0, nameIndex := 282, descriptorIndex := 45, attributes := #[] }, { accessFlags := 1, nameIndex := 50, descriptorIndex := 51, attributes := #[] }] 48 2 #[275] #[{ accessFlags := 18, nameIndex := 16, descriptorIndex := 17, attributes := #[] }, { accessFlags := 2, nameIndex := 22, descriptorIndex := 23, attributes := #[] }, { accessFlags := 2, nameIndex := 26, descriptorIndex := 27, attributes := #[] }, { accessFlags := 2, nameIndex := 67, descriptorIndex := 68, attributes := #[] }, { accessFlags := 2, nameIndex := 222, descriptorIndex := 223, attributes := #[] }, { accessFlags := 2, nameIndex := 226, descriptorIndex := 223, attributes := #[] }, { accessFlags := 18, nameIndex := 33, descriptorIndex := 34, attributes := #[] }, { accessFlags := 18, nameIndex := 40, descriptorIndex := 41, attributes := #[] }, { accessFlags := 2, nameIndex := 192, descriptorIndex := 193, attributes := #[] }])
  fields := #[{ name := "out", type := (.object "java/lang/StringBuilder"), accessFlags := 18, slot := 0, constantValue := 0 }, { name := "open", type := (.array (.object "java/lang/String")), accessFlags := 2, slot := 1, constantValue := 0 }, { name := "declarationCounts", type := (.array .int), accessFlags := 2, slot := 2, constantValue := 0 }, { name := "depth", type := .int, accessFlags := 2, slot := 3, constantValue := 0 }, { name := "startTagOpen", type := .boolean, accessFlags := 2, slot := 4, constantValue := 0 }, { name := "empty", type := .boolean, accessFlags := 2, slot := 5, constantValue := 0 }, { name := "declarations", type := (.object "java/util/List"), accessFlags := 18, slot := 6, constantValue := 0 }, { name := "bindings", type := (.object "java/util/Map"), accessFlags := 18, slot := 7, constantValue := 0 }, { name := "outer", type := (.object "javax/xml/namespace/NamespaceContext"), accessFlags := 2, slot := 8, constantValue := 0 }]
  methods := #[k10m0, k10m1, k10m2]
  instanceTypes := #[(.object "java/lang/StringBuilder"), (.array (.object "java/lang/String")), (.array .int), .int, .boolean, .boolean, (.object "java/util/List"), (.object "java/util/Map"), (.object "javax/xml/namespace/NamespaceContext")]
  staticTypes := #[]
  resolved := Array.replicate 329 none
  statics := none }

def pool11 : Array CpInfo := pool [(1, .class_ 2), (0, u "java/lang/Appendable"), (0, .class_ 4), (0, u "java/lang/Object")] 9

/-- java/lang/Appendable -/
def k11 : Class := { plain "java/lang/Appendable" (some 0) with
  accessFlags := 1537
  interfaces := #[]
  cf := some (fileOf pool11 1 #[] #[] 1537 3 #[] #[])
  fields := #[]
  methods := #[]
  instanceTypes := #[]
  staticTypes := #[]
  resolved := Array.replicate 14 none
  statics := none }

def pool12 : Array CpInfo := pool [(1, .class_ 2), (0, u "java/lang/String"), (0, .methodref 4 5), (0, .class_ 6), (0, .nameAndType 7 8), (0, u "java/lang/Object"), (0, u "<init>"), (0, u "()V"), (1, .class_ 12), (1, u "java/lang/AbstractStringBuilder"), (0, u "EMPTYVALUE"), (0, u "[B"), (0, .fieldref 10 16), (0, .nameAndType 17 14), (0, u "value"), (0, .fieldref 1 19), (0, .nameAndType 20 21), (0, u "COMPACT_STRINGS"), (0, u "Z"), (0, .fieldref 10 23), (0, .nameAndType 24 25), (0, u "coder"), (0, u "B"), (6, .methodref 1 33), (0, .nameAndType 34 35), (0, u "length"), (0, u "()I"), (4, .methodref 1 41), (0, .nameAndType 24 42), (0, u "()B"), (2, u "append"), (0, u "(Ljava/lang/String;)Ljava/lang/AbstractStringBuilder;"), (1, .class_ 49), (0, u "java/lang/CharSequence"), (19, u "(Ljava/lang/String;)V"), (5, u "maybeLatin1"), (3, .fieldref 10 80), (0, .nameAndType 81 82), (0, u "count"), (0, u "I"), (2, u "isLatin1"), (0, u "()Z"), (13, .methodref 10 101), (0, .nameAndType 102 103), (0, u "ensureCapacityInternal"), (0, u "(I)V"), (104, .methodref 10 209), (0, .nameAndType 210 211), (0, u "putStringAt"), (0, u "(ILjava/lang/String;)V"), (5, u "inflateIfNeededFor"), (2, .nameAndType 221 222), (0, u "getBytes"), (0, u "([BIB)V"), (174, .methodref 10 398), (0, .nameAndType 217 69), (0, .methodref 1 220), (3, u "()[B"), (40, .class_ 445), (0, u "java/lang/Appendable"), (106, u "getValue")] 56

def k12m0 : Method := { name := "<init>", desc := "()V", sig := { parameters := [], returnType := none }, accessFlags := 0, code := none }
def k12c1 : Code := { maxStack := 2, maxLocals := 2, code := jdk_68_method_2_code, exceptionTable := #[], attributes := #[] }
def k12m1 : Method := { name := "<init>", desc := "(I)V", sig := { parameters := [.int], returnType := none }, accessFlags := 0, code := some k12c1 }
def k12c2 : Code := { maxStack := 1, maxLocals := 1, code := jdk_68_method_6_code, exceptionTable := #[], attributes := #[] }
def k12m2 : Method := { name := "length", desc := "()I", sig := { parameters := [], returnType := some .int }, accessFlags := 1, code := some k12c2 }
def k12c3 : Code := { maxStack := 4, maxLocals := 3, code := jdk_68_method_9_code, exceptionTable := #[], attributes := #[] }
def k12m3 : Method := { name := "ensureCapacityInternal", desc := "(I)V", sig := { parameters := [.int], returnType := none }, accessFlags := 2, code := some k12c3 }
def k12c4 : Code := { maxStack := 3, maxLocals := 3, code := jdk_68_method_22_code, exceptionTable := #[], attributes := #[] }
def k12m4 : Method := { name := "append", desc := "(Ljava/lang/String;)Ljava/lang/AbstractStringBuilder;", sig := { parameters := [(.object "java/lang/String")], returnType := some (.object "java/lang/AbstractStringBuilder") }, accessFlags := 1, code := some k12c4 }
def k12c5 : Code := { maxStack := 1, maxLocals := 1, code := jdk_68_method_64_code, exceptionTable := #[], attributes := #[] }
def k12m5 : Method := { name := "getValue", desc := "()[B", sig := { parameters := [], returnType := some (.array .byte) }, accessFlags := 16, code := some k12c5 }
def k12c6 : Code := { maxStack := 1, maxLocals := 1, code := jdk_68_method_68_code, exceptionTable := #[], attributes := #[] }
def k12m6 : Method := { name := "isLatin1", desc := "()Z", sig := { parameters := [], returnType := some .boolean }, accessFlags := 16, code := some k12c6 }
def k12c7 : Code := { maxStack := 2, maxLocals := 2, code := jdk_68_method_71_code, exceptionTable := #[], attributes := #[] }
def k12m7 : Method := { name := "inflateIfNeededFor", desc := "(Ljava/lang/String;)V", sig := { parameters := [(.object "java/lang/String")], returnType := none }, accessFlags := 2, code := some k12c7 }
def k12c8 : Code := { maxStack := 4, maxLocals := 3, code := jdk_68_method_73_code, exceptionTable := #[], attributes := #[] }
def k12m8 : Method := { name := "putStringAt", desc := "(ILjava/lang/String;)V", sig := { parameters := [.int, (.object "java/lang/String")], returnType := none }, accessFlags := 2, code := some k12c8 }
/-- java/lang/AbstractStringBuilder -/
def k12 : Class := { plain "java/lang/AbstractStringBuilder" (some 0) with
  accessFlags := 1056
  interfaces := #[11, 4]
  cf := some (fileOf pool12 10 #[] #[{ accessFlags := 0, nameIndex := 7, descriptorIndex := 8, attributes := #[] }, { accessFlags := 0, nameIndex := 7, descriptorIndex := 103, attributes := #[] }, { accessFlags := 1, nameIndex := 34, descriptorIndex := 35, attributes := #[] }, { accessFlags := 2, nameIndex := 102, descriptorIndex := 103, attributes := #[] }, { accessFlags := 1, nameIndex := 45, descriptorIndex := 46, attributes := #[] }, { accessFlags := 16, nameIndex := 552, descriptorIndex := 403, attributes := #[] }, { accessFlags := 16, nameIndex := 85, descriptorIndex := 86, attributes := #[] }, { accessFlags := 2, nameIndex := 217, descriptorIndex := 69, attributes := #[] }, { accessFlags := 2, nameIndex := 210, descriptorIndex := 211, attributes := #[] }] 1056 4 #[444, 48] #[{ accessFlags := 0, nameIndex := 17, descriptorIndex := 14, attributes := #[] }, { accessFlags := 0, nameIndex := 24, descriptorIndex := 25, attributes := #[] }, { accessFlags := 0, nameIndex := 75, descriptorIndex := 21, attributes := #[] }, { accessFlags := 0, nameIndex := 81, descriptorIndex := 82, attributes := #[] }, { accessFlags := 26, nameIndex := 13, descriptorIndex := 14, attributes := #[] }])
  fields := #[{ name := "value", type := (.array .byte), accessFlags := 0, slot := 0, constantValue := 0 }, { name := "coder", type := .byte, accessFlags := 0, slot := 1, constantValue := 0 }, { name := "maybeLatin1", type := .boolean, accessFlags := 0, slot := 2, constantValue := 0 }, { name := "count", type := .int, accessFlags := 0, slot := 3, constantValue := 0 }, { name := "EMPTYVALUE", type := (.array .byte), accessFlags := 26, slot := 0, constantValue := 0 }]
  methods := #[k12m0, k12m1, k12m2, k12m3, k12m4, k12m5, k12m6, k12m7, k12m8]
  instanceTypes := #[(.array .byte), .byte, .boolean, .int]
  staticTypes := #[(.array .byte)]
  resolved := Array.replicate 609 none
  statics := none }

def pool13 : Array CpInfo := pool [(1, .methodref 2 3), (0, .class_ 4), (0, .nameAndType 5 6), (0, u "java/lang/AbstractStringBuilder"), (0, u "<init>"), (0, u "(I)V"), (11, .class_ 20), (1, u "java/lang/String"), (3, .class_ 26), (1, u "java/lang/StringBuilder"), (0, u "append"), (0, u "(Ljava/lang/String;)Ljava/lang/StringBuilder;"), (0, .methodref 2 30), (0, .nameAndType 27 31), (0, u "(Ljava/lang/String;)Ljava/lang/AbstractStringBuilder;"), (105, .methodref 18 138), (0, .nameAndType 5 139), (0, u "(Ljava/lang/StringBuilder;)V"), (5, u "()V"), (10, u "()I"), (186, .methodref 2 344), (0, .nameAndType 345 156), (0, u "length"), (3, .class_ 350), (0, u "java/lang/Appendable"), (0, .class_ 352), (0, u "java/io/Serializable"), (0, .class_ 354), (0, u "java/lang/Comparable"), (0, .class_ 356), (0, u "java/lang/CharSequence"), (0, u "serialVersionUID"), (0, u "J"), (40, u "toString"), (0, u "()Ljava/lang/String;")] 21

def k13m0 : Method := { name := "<init>", desc := "()V", sig := { parameters := [], returnType := none }, accessFlags := 1, code := none }
def k13c1 : Code := { maxStack := 2, maxLocals := 2, code := jdk_67_method_2_code, exceptionTable := #[], attributes := #[] }
def k13m1 : Method := { name := "<init>", desc := "(I)V", sig := { parameters := [.int], returnType := none }, accessFlags := 1, code := some k13c1 }
def k13c2 : Code := { maxStack := 2, maxLocals := 2, code := jdk_67_method_7_code, exceptionTable := #[], attributes := #[] }
def k13m2 : Method := { name := "append", desc := "(Ljava/lang/String;)Ljava/lang/StringBuilder;", sig := { parameters := [(.object "java/lang/String")], returnType := some (.object "java/lang/StringBuilder") }, accessFlags := 1, code := some k13c2 }
def k13c3 : Code := { maxStack := 3, maxLocals := 1, code := jdk_67_method_42_code, exceptionTable := #[], attributes := #[] }
def k13m3 : Method := { name := "toString", desc := "()Ljava/lang/String;", sig := { parameters := [], returnType := some (.object "java/lang/String") }, accessFlags := 1, code := some k13c3 }
def k13c4 : Code := { maxStack := 1, maxLocals := 1, code := jdk_67_method_93_code, exceptionTable := #[], attributes := #[] }
def k13m4 : Method := { name := "length", desc := "()I", sig := { parameters := [], returnType := some .int }, accessFlags := 4161, code := some k13c4 }
/-- java/lang/StringBuilder -/
def k13 : Class := { plain "java/lang/StringBuilder" (some 12) with
  accessFlags := 49
  interfaces := #[11, 2, 3, 4]
  cf := some (fileOf pool13 24 #[] #[{ accessFlags := 1, nameIndex := 5, descriptorIndex := 145, attributes := #[] }, { accessFlags := 1, nameIndex := 5, descriptorIndex := 6, attributes := #[] }, { accessFlags := 1, nameIndex := 27, descriptorIndex := 28, attributes := #[] }, { accessFlags := 1, nameIndex := 399, descriptorIndex := 400, attributes := #[] }, { accessFlags := 4161, nameIndex := 345, descriptorIndex := 156, attributes := #[] }] 49 2 #[349, 351, 353, 355] #[{ accessFlags := 24, nameIndex := 357, descriptorIndex := 358, attributes := #[] }])
  fields := #[{ name := "serialVersionUID", type := .long, accessFlags := 24, slot := 0, constantValue := 0 }]
  methods := #[k13m0, k13m1, k13m2, k13m3, k13m4]
  instanceTypes := #[(.array .byte), .byte, .boolean, .int]
  staticTypes := #[.long]
  resolved := Array.replicate 422 none
  statics := none }

def pool14 : Array CpInfo := pool [(8, .class_ 10), (1, u "java/lang/Iterable"), (24, .class_ 36), (0, u "java/lang/Object")] 25

/-- java/lang/Iterable -/
def k14 : Class := { plain "java/lang/Iterable" (some 0) with
  accessFlags := 1537
  interfaces := #[]
  cf := some (fileOf pool14 8 #[] #[] 1537 35 #[] #[])
  fields := #[]
  methods := #[]
  instanceTypes := #[]
  staticTypes := #[]
  resolved := Array.replicate 62 none
  statics := none }

def pool15 : Array CpInfo := pool [(10, .class_ 12), (1, u "java/util/Collection"), (47, .class_ 61), (0, u "java/lang/Object"), (0, .class_ 63), (0, u "java/lang/Iterable")] 51

/-- java/util/Collection -/
def k15 : Class := { plain "java/util/Collection" (some 0) with
  accessFlags := 1537
  interfaces := #[14]
  cf := some (fileOf pool15 10 #[] #[] 1537 60 #[62] #[])
  fields := #[]
  methods := #[]
  instanceTypes := #[]
  staticTypes := #[]
  resolved := Array.replicate 115 none
  statics := none }

def pool16 : Array CpInfo := pool [(1, .methodref 2 3), (0, .class_ 4), (0, .nameAndType 5 6), (0, u "java/lang/Object"), (0, u "<init>"), (0, u "()V"), (1, .class_ 10), (1, u "java/util/AbstractCollection"), (66, .class_ 78), (0, u "java/util/Collection")] 81

def k16c0 : Code := { maxStack := 1, maxLocals := 1, code := jdk_22_method_1_code, exceptionTable := #[], attributes := #[] }
def k16m0 : Method := { name := "<init>", desc := "()V", sig := { parameters := [], returnType := none }, accessFlags := 4, code := some k16c0 }
/-- java/util/AbstractCollection -/
def k16 : Class := { plain "java/util/AbstractCollection" (some 0) with
  accessFlags := 1057
  interfaces := #[15]
  cf := some (fileOf pool16 8 #[] #[{ accessFlags := 4, nameIndex := 5, descriptorIndex := 6, attributes := #[] }] 1057 2 #[77] #[])
  fields := #[]
  methods := #[k16m0]
  instanceTypes := #[]
  staticTypes := #[]
  resolved := Array.replicate 160 none
  statics := none }

def pool17 : Array CpInfo := pool [(8, .class_ 10), (1, u "java/util/SequencedCollection"), (15, .class_ 27), (0, u "java/lang/Object"), (0, .class_ 29), (0, u "java/util/Collection")] 27

/-- java/util/SequencedCollection -/
def k17 : Class := { plain "java/util/SequencedCollection" (some 0) with
  accessFlags := 1537
  interfaces := #[15]
  cf := some (fileOf pool17 8 #[] #[] 1537 26 #[28] #[])
  fields := #[]
  methods := #[]
  instanceTypes := #[]
  staticTypes := #[]
  resolved := Array.replicate 57 none
  statics := none }

def pool18 : Array CpInfo := pool [(8, .class_ 10), (1, u "java/util/List"), (92, .class_ 104), (0, u "java/lang/Object"), (15, .class_ 121), (0, u "java/util/SequencedCollection")] 129

/-- java/util/List -/
def k18 : Class := { plain "java/util/List" (some 0) with
  accessFlags := 1537
  interfaces := #[17]
  cf := some (fileOf pool18 8 #[] #[] 1537 103 #[120] #[])
  fields := #[]
  methods := #[]
  instanceTypes := #[]
  staticTypes := #[]
  resolved := Array.replicate 251 none
  statics := none }

def pool19 : Array CpInfo := pool [(1, .methodref 2 3), (0, .class_ 4), (0, .nameAndType 5 6), (0, u "java/util/AbstractCollection"), (0, u "<init>"), (0, u "()V"), (0, .fieldref 8 9), (0, .class_ 10), (0, .nameAndType 11 12), (0, u "java/util/AbstractList"), (0, u "modCount"), (0, u "I"), (64, .class_ 78), (0, u "java/util/AbstractList$Itr"), (3, .class_ 83), (0, u "java/util/AbstractList$ListItr"), (9, .class_ 94), (0, u "java/util/AbstractList$RandomAccessSubList"), (3, .class_ 99), (0, u "java/util/AbstractList$SubList"), (33, .class_ 134), (0, u "java/util/List"), (73, .class_ 209), (0, u "java/util/AbstractList$SubList$1"), (0, .class_ 211), (0, u "java/util/AbstractList$RandomAccessSpliterator")] 6

def k19c0 : Code := { maxStack := 2, maxLocals := 1, code := jdk_39_method_1_code, exceptionTable := #[], attributes := #[] }
def k19m0 : Method := { name := "<init>", desc := "()V", sig := { parameters := [], returnType := none }, accessFlags := 4, code := some k19c0 }
/-- java/util/AbstractList -/
def k19 : Class := { plain "java/util/AbstractList" (some 16) with
  accessFlags := 1057
  interfaces := #[18]
  cf := some (fileOf pool19 8 #[.nestMembers #[93, 98, 208, 210, 82, 77]] #[{ accessFlags := 4, nameIndex := 5, descriptorIndex := 6, attributes := #[] }] 1057 2 #[133] #[{ accessFlags := 132, nameIndex := 11, descriptorIndex := 12, attributes := #[] }])
  fields := #[{ name := "modCount", type := .int, accessFlags := 132, slot := 0, constantValue := 0 }]
  methods := #[k19m0]
  instanceTypes := #[.int]
  staticTypes := #[]
  resolved := Array.replicate 218 none
  statics := none }

def pool20 : Array CpInfo := pool [(1, .class_ 2), (0, u "java/util/RandomAccess"), (0, .class_ 4), (0, u "java/lang/Object")] 2

/-- java/util/RandomAccess -/
def k20 : Class := { plain "java/util/RandomAccess" (some 0) with
  accessFlags := 1537
  interfaces := #[]
  cf := some (fileOf pool20 1 #[] #[] 1537 3 #[] #[])
  fields := #[]
  methods := #[]
  instanceTypes := #[]
  staticTypes := #[]
  resolved := Array.replicate 7 none
  statics := none }

def pool21 : Array CpInfo := pool [(1, .class_ 2), (0, u "java/lang/Cloneable"), (0, .class_ 4), (0, u "java/lang/Object")] 2

/-- java/lang/Cloneable -/
def k21 : Class := { plain "java/lang/Cloneable" (some 0) with
  accessFlags := 1537
  interfaces := #[]
  cf := some (fileOf pool21 1 #[] #[] 1537 3 #[] #[])
  fields := #[]
  methods := #[]
  instanceTypes := #[]
  staticTypes := #[]
  resolved := Array.replicate 7 none
  statics := none }

def pool22 : Array CpInfo := pool [(1, .methodref 2 3), (0, .class_ 4), (0, .nameAndType 5 6), (0, u "java/util/AbstractList"), (0, u "<init>"), (0, u "()V"), (2, .fieldref 10 11), (0, .class_ 12), (0, .nameAndType 13 14), (0, u "java/util/ArrayList"), (0, u "elementData"), (0, u "[Ljava/lang/Object;"), (2, u "EMPTY_ELEMENTDATA"), (21, .fieldref 10 40), (0, .nameAndType 41 14), (0, u "DEFAULTCAPACITY_EMPTY_ELEMENTDATA"), (8, u "size"), (0, u "I"), (96, .class_ 149), (0, u "java/util/List"), (112, .class_ 263), (0, u "java/util/ArrayList$ListItr"), (3, .class_ 268), (0, u "java/util/ArrayList$Itr"), (7, .class_ 277), (0, u "java/util/ArrayList$SubList"), (12, .class_ 291), (0, u "java/util/ArrayList$ArrayListSpliterator"), (37, .class_ 330), (0, u "java/util/RandomAccess"), (0, .class_ 332), (0, u "java/lang/Cloneable"), (0, .class_ 334), (0, u "java/io/Serializable"), (0, u "serialVersionUID"), (0, u "J"), (3, u "DEFAULT_CAPACITY"), (159, .class_ 501), (0, u "java/util/ArrayList$SubList$2"), (0, .class_ 503), (0, u "java/util/ArrayList$SubList$1")] 5

def k22c0 : Code := { maxStack := 2, maxLocals := 1, code := jdk_38_method_2_code, exceptionTable := #[], attributes := #[] }
def k22m0 : Method := { name := "<init>", desc := "()V", sig := { parameters := [], returnType := none }, accessFlags := 1, code := some k22c0 }
/-- java/util/ArrayList -/
def k22 : Class := { plain "java/util/ArrayList" (some 19) with
  accessFlags := 33
  interfaces := #[18, 20, 21, 2]
  cf := some (fileOf pool22 10 #[.nestMembers #[290, 276, 500, 502, 262, 267]] #[{ accessFlags := 1, nameIndex := 5, descriptorIndex := 6, attributes := #[] }] 33 2 #[148, 329, 331, 333] #[{ accessFlags := 26, nameIndex := 335, descriptorIndex := 336, attributes := #[] }, { accessFlags := 26, nameIndex := 340, descriptorIndex := 51, attributes := #[] }, { accessFlags := 26, nameIndex := 17, descriptorIndex := 14, attributes := #[] }, { accessFlags := 26, nameIndex := 41, descriptorIndex := 14, attributes := #[] }, { accessFlags := 128, nameIndex := 13, descriptorIndex := 14, attributes := #[] }, { accessFlags := 2, nameIndex := 50, descriptorIndex := 51, attributes := #[] }])
  fields := #[{ name := "serialVersionUID", type := .long, accessFlags := 26, slot := 0, constantValue := 0 }, { name := "DEFAULT_CAPACITY", type := .int, accessFlags := 26, slot := 1, constantValue := 0 }, { name := "EMPTY_ELEMENTDATA", type := (.array (.object "java/lang/Object")), accessFlags := 26, slot := 2, constantValue := 0 }, { name := "DEFAULTCAPACITY_EMPTY_ELEMENTDATA", type := (.array (.object "java/lang/Object")), accessFlags := 26, slot := 3, constantValue := 0 }, { name := "elementData", type := (.array (.object "java/lang/Object")), accessFlags := 128, slot := 1, constantValue := 0 }, { name := "size", type := .int, accessFlags := 2, slot := 2, constantValue := 0 }]
  methods := #[k22m0]
  instanceTypes := #[.int, (.array (.object "java/lang/Object")), .int]
  staticTypes := #[.long, .int, (.array (.object "java/lang/Object")), (.array (.object "java/lang/Object"))]
  resolved := Array.replicate 509 none
  statics := some 1 }

def pool23 : Array CpInfo := pool [(2, .class_ 4), (1, u "java/util/Map"), (31, .class_ 37), (0, u "java/util/Map$Entry"), (55, .class_ 94), (0, u "java/lang/Object")] 168

/-- java/util/Map -/
def k23 : Class := { plain "java/util/Map" (some 0) with
  accessFlags := 1537
  interfaces := #[]
  cf := some (fileOf pool23 2 #[.nestMembers #[36]] #[] 1537 93 #[] #[])
  fields := #[]
  methods := #[]
  instanceTypes := #[]
  staticTypes := #[]
  resolved := Array.replicate 263 none
  statics := none }

def pool24 : Array CpInfo := pool [(1, .methodref 2 3), (0, .class_ 4), (0, .nameAndType 5 6), (0, u "java/lang/Object"), (0, u "<init>"), (0, u "()V"), (1, .class_ 10), (1, u "java/util/AbstractMap"), (42, .class_ 54), (0, u "java/util/Map"), (9, u "keySet"), (0, u "Ljava/util/Set;"), (0, .class_ 67), (0, u "java/util/AbstractMap$1"), (5, u "values"), (0, u "Ljava/util/Collection;"), (0, .class_ 76), (0, u "java/util/AbstractMap$2"), (104, .class_ 182), (0, u "java/util/AbstractMap$ViewCollection"), (0, .class_ 184), (0, u "java/util/AbstractMap$SimpleImmutableEntry"), (0, .class_ 186), (0, u "java/util/AbstractMap$SimpleEntry"), (0, .class_ 188), (0, u "java/util/AbstractMap$2$1"), (0, .class_ 190), (0, u "java/util/AbstractMap$1$1")] 5

def k24c0 : Code := { maxStack := 1, maxLocals := 1, code := jdk_71_method_1_code, exceptionTable := #[], attributes := #[] }
def k24m0 : Method := { name := "<init>", desc := "()V", sig := { parameters := [], returnType := none }, accessFlags := 4, code := some k24c0 }
/-- java/util/AbstractMap -/
def k24 : Class := { plain "java/util/AbstractMap" (some 0) with
  accessFlags := 1057
  interfaces := #[23]
  cf := some (fileOf pool24 8 #[.nestMembers #[181, 183, 185, 75, 187, 66, 189]] #[{ accessFlags := 4, nameIndex := 5, descriptorIndex := 6, attributes := #[] }] 1057 2 #[53] #[{ accessFlags := 128, nameIndex := 64, descriptorIndex := 65, attributes := #[] }, { accessFlags := 128, nameIndex := 73, descriptorIndex := 74, attributes := #[] }])
  fields := #[{ name := "keySet", type := (.object "java/util/Set"), accessFlags := 128, slot := 0, constantValue := 0 }, { name := "values", type := (.object "java/util/Collection"), accessFlags := 128, slot := 1, constantValue := 0 }]
  methods := #[k24m0]
  instanceTypes := #[(.object "java/util/Set"), (.object "java/util/Collection")]
  staticTypes := #[]
  resolved := Array.replicate 196 none
  statics := none }

def pool25 : Array CpInfo := pool [(40, .class_ 41), (0, u "java/util/HashMap"), (1, .methodref 44 45), (0, .class_ 46), (0, .nameAndType 47 48), (0, u "java/util/AbstractMap"), (0, u "<init>"), (0, u "()V"), (32, .fieldref 40 82), (0, .nameAndType 83 84), (0, u "loadFactor"), (0, u "F"), (5, u "threshold"), (0, u "I"), (0, .float 1061158912), (8, .class_ 103), (1, u "java/util/Map"), (0, u "size"), (2, u "table"), (0, u "[Ljava/util/HashMap$Node;"), (14, u "entrySet"), (39, .class_ 165), (1, u "java/util/HashMap$Node"), (14, .class_ 181), (0, u "java/util/HashMap$TreeNode"), (22, u "modCount"), (37, u "Ljava/util/Set;"), (0, .class_ 244), (0, u "java/util/HashMap$KeySet"), (18, .class_ 264), (0, u "java/util/HashMap$Values"), (3, .class_ 269), (0, u "java/util/HashMap$EntrySet"), (76, .class_ 348), (1, u "java/util/HashMap$UnsafeHolder"), (43, .class_ 393), (0, u "java/lang/Cloneable"), (0, .class_ 395), (0, u "java/io/Serializable"), (0, u "serialVersionUID"), (0, u "J"), (3, u "DEFAULT_INITIAL_CAPACITY"), (1, u "MAXIMUM_CAPACITY"), (0, u "DEFAULT_LOAD_FACTOR"), (0, u "TREEIFY_THRESHOLD"), (1, u "UNTREEIFY_THRESHOLD"), (1, u "MIN_TREEIFY_CAPACITY"), (186, .class_ 597), (0, u "java/util/HashMap$EntrySpliterator"), (0, .class_ 599), (0, u "java/util/HashMap$ValueSpliterator"), (0, .class_ 601), (0, u "java/util/HashMap$KeySpliterator"), (0, .class_ 603), (0, u "java/util/HashMap$HashMapSpliterator"), (0, .class_ 605), (0, u "java/util/HashMap$EntryIterator"), (0, .class_ 607), (0, u "java/util/HashMap$ValueIterator"), (0, .class_ 609), (0, u "java/util/HashMap$KeyIterator"), (0, .class_ 611), (0, u "java/util/HashMap$HashIterator")] 17

def k25c0 : Code := { maxStack := 2, maxLocals := 1, code := jdk_69_method_7_code, exceptionTable := #[], attributes := #[] }
def k25m0 : Method := { name := "<init>", desc := "()V", sig := { parameters := [], returnType := none }, accessFlags := 1, code := some k25c0 }
/-- java/util/HashMap -/
def k25 : Class := { plain "java/util/HashMap" (some 24) with
  accessFlags := 33
  interfaces := #[23, 21, 2]
  cf := some (fileOf pool25 40 #[.nestMembers #[180, 596, 598, 600, 602, 604, 606, 608, 610, 346, 268, 263, 243, 163]] #[{ accessFlags := 1, nameIndex := 47, descriptorIndex := 48, attributes := #[] }] 33 44 #[101, 392, 394] #[{ accessFlags := 26, nameIndex := 396, descriptorIndex := 397, attributes := #[] }, { accessFlags := 24, nameIndex := 401, descriptorIndex := 91, attributes := #[] }, { accessFlags := 24, nameIndex := 403, descriptorIndex := 91, attributes := #[] }, { accessFlags := 24, nameIndex := 404, descriptorIndex := 84, attributes := #[] }, { accessFlags := 24, nameIndex := 405, descriptorIndex := 91, attributes := #[] }, { accessFlags := 24, nameIndex := 407, descriptorIndex := 91, attributes := #[] }, { accessFlags := 24, nameIndex := 409, descriptorIndex := 91, attributes := #[] }, { accessFlags := 128, nameIndex := 107, descriptorIndex := 108, attributes := #[] }, { accessFlags := 128, nameIndex := 123, descriptorIndex := 242, attributes := #[] }, { accessFlags := 128, nameIndex := 104, descriptorIndex := 91, attributes := #[] }, { accessFlags := 128, nameIndex := 204, descriptorIndex := 91, attributes := #[] }, { accessFlags := 0, nameIndex := 90, descriptorIndex := 91, attributes := #[] }, { accessFlags := 16, nameIndex := 83, descriptorIndex := 84, attributes := #[] }])
  fields := #[{ name := "serialVersionUID", type := .long, accessFlags := 26, slot := 0, constantValue := 0 }, { name := "DEFAULT_INITIAL_CAPACITY", type := .int, accessFlags := 24, slot := 1, constantValue := 0 }, { name := "MAXIMUM_CAPACITY", type := .int, accessFlags := 24, slot := 2, constantValue := 0 }, { name := "DEFAULT_LOAD_FACTOR", type := .float, accessFlags := 24, slot := 3, constantValue := 0 }, { name := "TREEIFY_THRESHOLD", type := .int, accessFlags := 24, slot := 4, constantValue := 0 }, { name := "UNTREEIFY_THRESHOLD", type := .int, accessFlags := 24, slot := 5, constantValue := 0 }, { name := "MIN_TREEIFY_CAPACITY", type := .int, accessFlags := 24, slot := 6, constantValue := 0 }, { name := "table", type := (.array (.object "java/util/HashMap$Node")), accessFlags := 128, slot := 2, constantValue := 0 }, { name := "entrySet", type := (.object "java/util/Set"), accessFlags := 128, slot := 3, constantValue := 0 }, { name := "size", type := .int, accessFlags := 128, slot := 4, constantValue := 0 }, { name := "modCount", type := .int, accessFlags := 128, slot := 5, constantValue := 0 }, { name := "threshold", type := .int, accessFlags := 0, slot := 6, constantValue := 0 }, { name := "loadFactor", type := .float, accessFlags := 16, slot := 7, constantValue := 0 }]
  methods := #[k25m0]
  instanceTypes := #[(.object "java/util/Set"), (.object "java/util/Collection"), (.array (.object "java/util/HashMap$Node")), (.object "java/util/Set"), .int, .int, .int, .float]
  staticTypes := #[.long, .int, .int, .float, .int, .int, .int]
  resolved := Array.replicate 629 none
  statics := none }

def pool26 : Array CpInfo := pool [(2, .class_ 4), (1, u "java/lang/Object"), (0, u "<init>"), (0, u "()V"), (1, .class_ 10), (1, u "java/lang/System"), (0, u "allowSecurityManager"), (0, u "I"), (16, u "cons"), (0, u "Ljava/io/Console;"), (77, .class_ 110), (1, u "java/lang/System$CallersHolder"), (43, u "initialErrStream"), (0, u "Ljava/io/PrintStream;"), (19, u "security"), (0, u "Ljava/lang/SecurityManager;"), (31, .class_ 209), (0, u "java/lang/System$1"), (7, u "props"), (0, u "Ljava/util/Properties;"), (2, u "lineSeparator"), (0, u "Ljava/lang/String;"), (96, .class_ 321), (1, u "java/lang/System$LoggerFinder"), (5, .class_ 328), (0, u "java/lang/System$Logger"), (67, u "err"), (2, u "out"), (91, u "notSupportedJnuEncoding"), (15, u "in"), (17, u "initialIn"), (0, u "Ljava/io/InputStream;"), (35, u "bootLayer"), (0, u "Ljava/lang/ModuleLayer;"), (99, .class_ 664), (0, u "java/lang/System$2"), (9, u "NEVER"), (2, u "MAYBE"), (49, u "arraycopy"), (0, u "(Ljava/lang/Object;ILjava/lang/Object;II)V"), (72, .class_ 802), (0, u "java/lang/System$Logger$Level")] 31

def k26m0 : Method := { name := "<init>", desc := "()V", sig := { parameters := [], returnType := none }, accessFlags := 2, code := none }
def k26m1 : Method := { name := "arraycopy", desc := "(Ljava/lang/Object;ILjava/lang/Object;II)V", sig := { parameters := [(.object "java/lang/Object"), .int, (.object "java/lang/Object"), .int, .int], returnType := none }, accessFlags := 265, code := none }
/-- java/lang/System -/
def k26 : Class := { plain "java/lang/System" (some 0) with
  accessFlags := 49
  interfaces := #[]
  cf := some (fileOf pool26 8 #[.nestMembers #[319, 327, 801, 108, 663, 208]] #[{ accessFlags := 2, nameIndex := 5, descriptorIndex := 6, attributes := #[] }, { accessFlags := 265, nameIndex := 727, descriptorIndex := 728, attributes := #[] }] 49 2 #[] #[{ accessFlags := 25, nameIndex := 507, descriptorIndex := 526, attributes := #[] }, { accessFlags := 25, nameIndex := 399, descriptorIndex := 155, attributes := #[] }, { accessFlags := 25, nameIndex := 396, descriptorIndex := 155, attributes := #[] }, { accessFlags := 10, nameIndex := 525, descriptorIndex := 526, attributes := #[] }, { accessFlags := 26, nameIndex := 674, descriptorIndex := 12, attributes := #[] }, { accessFlags := 26, nameIndex := 677, descriptorIndex := 12, attributes := #[] }, { accessFlags := 10, nameIndex := 11, descriptorIndex := 12, attributes := #[] }, { accessFlags := 74, nameIndex := 175, descriptorIndex := 176, attributes := #[] }, { accessFlags := 10, nameIndex := 491, descriptorIndex := 222, attributes := #[] }, { accessFlags := 74, nameIndex := 29, descriptorIndex := 30, attributes := #[] }, { accessFlags := 74, nameIndex := 154, descriptorIndex := 155, attributes := #[] }, { accessFlags := 10, nameIndex := 217, descriptorIndex := 218, attributes := #[] }, { accessFlags := 10, nameIndex := 221, descriptorIndex := 222, attributes := #[] }, { accessFlags := 8, nameIndex := 562, descriptorIndex := 563, attributes := #[] }])
  fields := #[{ name := "in", type := (.object "java/io/InputStream"), accessFlags := 25, slot := 0, constantValue := 0 }, { name := "out", type := (.object "java/io/PrintStream"), accessFlags := 25, slot := 1, constantValue := 0 }, { name := "err", type := (.object "java/io/PrintStream"), accessFlags := 25, slot := 2, constantValue := 0 }, { name := "initialIn", type := (.object "java/io/InputStream"), accessFlags := 10, slot := 3, constantValue := 0 }, { name := "NEVER", type := .int, accessFlags := 26, slot := 4, constantValue := 0 }, { name := "MAYBE", type := .int, accessFlags := 26, slot := 5, constantValue := 0 }, { name := "allowSecurityManager", type := .int, accessFlags := 10, slot := 6, constantValue := 0 }, { name := "security", type := (.object "java/lang/SecurityManager"), accessFlags := 74, slot := 7, constantValue := 0 }, { name := "notSupportedJnuEncoding", type := (.object "java/lang/String"), accessFlags := 10, slot := 8, constantValue := 0 }, { name := "cons", type := (.object "java/io/Console"), accessFlags := 74, slot := 9, constantValue := 0 }, { name := "initialErrStream", type := (.object "java/io/PrintStream"), accessFlags := 74, slot := 10, constantValue := 0 }, { name := "props", type := (.object "java/util/Properties"), accessFlags := 10, slot := 11, constantValue := 0 }, { name := "lineSeparator", type := (.object "java/lang/String"), accessFlags := 10, slot := 12, constantValue := 0 }, { name := "bootLayer", type := (.object "java/lang/ModuleLayer"), accessFlags := 8, slot := 13, constantValue := 0 }]
  methods := #[k26m0, k26m1]
  instanceTypes := #[]
  staticTypes := #[(.object "java/io/InputStream"), (.object "java/io/PrintStream"), (.object "java/io/PrintStream"), (.object "java/io/InputStream"), .int, .int, .int, (.object "java/lang/SecurityManager"), (.object "java/lang/String"), (.object "java/io/Console"), (.object "java/io/PrintStream"), (.object "java/util/Properties"), (.object "java/lang/String"), (.object "java/lang/ModuleLayer")]
  resolved := Array.replicate 834 none
  statics := none }

def pool27 : Array CpInfo := pool [(2, .class_ 4), (1, u "java/lang/Object"), (0, u "<init>"), (0, u "()V"), (7, .class_ 16), (1, u "java/util/Arrays"), (57, .class_ 76), (1, u "java/util/Arrays$NaturalOrder"), (36, .class_ 115), (1, u "java/util/Arrays$LegacyMergeSort"), (1, u "Z"), (21, u "copyOfRange"), (10, .methodref 151 152), (0, .class_ 153), (0, .nameAndType 154 155), (0, u "java/lang/System"), (0, u "arraycopy"), (0, u "(Ljava/lang/Object;ILjava/lang/Object;II)V"), (148, .methodref 305 306), (0, .class_ 307), (0, .nameAndType 308 309), (0, u "java/lang/Math"), (0, u "min"), (0, u "(II)I"), (29, .methodref 14 340), (0, .nameAndType 341 342), (0, u "copyOfRangeByte"), (0, u "([BII)[B"), (0, .methodref 14 344), (0, .nameAndType 345 346), (0, u "checkLength"), (0, u "(II)V"), (28, .class_ 376), (0, u "java/util/Arrays$ArrayList"), (68, u "$assertionsDisabled"), (269, u "MIN_ARRAY_SORT_GRAN"), (0, u "I"), (2, u "INSERTIONSORT_THRESHOLD"), (255, .class_ 976), (0, u "java/util/Arrays$ArrayItr")] 52

def k27m0 : Method := { name := "<init>", desc := "()V", sig := { parameters := [], returnType := none }, accessFlags := 2, code := none }
def k27c1 : Code := { maxStack := 4, maxLocals := 2, code := jdk_65_method_131_code, exceptionTable := #[], attributes := #[] }
def k27m1 : Method := { name := "checkLength", desc := "(II)V", sig := { parameters := [.int, .int], returnType := none }, accessFlags := 10, code := some k27c1 }
def k27c2 : Code := { maxStack := 3, maxLocals := 3, code := jdk_65_method_132_code, exceptionTable := #[], attributes := #[] }
def k27m2 : Method := { name := "copyOfRange", desc := "([BII)[B", sig := { parameters := [(.array .byte), .int, .int], returnType := some (.array .byte) }, accessFlags := 9, code := some k27c2 }
def k27c3 : Code := { maxStack := 6, maxLocals := 5, code := jdk_65_method_133_code, exceptionTable := #[], attributes := #[] }
def k27m3 : Method := { name := "copyOfRangeByte", desc := "([BII)[B", sig := { parameters := [(.array .byte), .int, .int], returnType := some (.array .byte) }, accessFlags := 10, code := some k27c3 }
/-- java/util/Arrays -/
def k27 : Class := { plain "java/util/Arrays" (some 0) with
  accessFlags := 49
  interfaces := #[]
  cf := some (fileOf pool27 14 #[.nestMembers #[975, 375, 113, 74]] #[{ accessFlags := 2, nameIndex := 5, descriptorIndex := 6, attributes := #[] }, { accessFlags := 10, nameIndex := 345, descriptorIndex := 346, attributes := #[] }, { accessFlags := 9, nameIndex := 139, descriptorIndex := 342, attributes := #[] }, { accessFlags := 10, nameIndex := 341, descriptorIndex := 342, attributes := #[] }] 49 2 #[] #[{ accessFlags := 26, nameIndex := 715, descriptorIndex := 716, attributes := #[] }, { accessFlags := 26, nameIndex := 719, descriptorIndex := 716, attributes := #[] }, { accessFlags := 4120, nameIndex := 445, descriptorIndex := 117, attributes := #[] }])
  fields := #[{ name := "MIN_ARRAY_SORT_GRAN", type := .int, accessFlags := 26, slot := 0, constantValue := 0 }, { name := "INSERTIONSORT_THRESHOLD", type := .int, accessFlags := 26, slot := 1, constantValue := 0 }, { name := "$assertionsDisabled", type := .boolean, accessFlags := 4120, slot := 2, constantValue := 0 }]
  methods := #[k27m0, k27m1, k27m2, k27m3]
  instanceTypes := #[]
  staticTypes := #[.int, .int, .boolean]
  resolved := Array.replicate 1029 none
  statics := none }

def pool28 : Array CpInfo := pool [(1, .class_ 2), (0, u "java/lang/Math"), (1, .class_ 6), (1, u "java/lang/Object"), (0, u "<init>"), (0, u "()V"), (89, .class_ 100), (1, u "java/lang/Math$RandomNumberGeneratorHolder"), (71, u "negativeZeroFloatBits"), (0, u "J"), (2, u "negativeZeroDoubleBits"), (24, u "min"), (43, u "$assertionsDisabled"), (0, u "Z"), (88, u "(II)I"), (2, u "twoToTheDoubleScaleDown"), (0, u "D"), (4, u "twoToTheDoubleScaleUp"), (9, u "E"), (3, u "PI"), (2, u "TAU"), (2, u "DEGREES_TO_RADIANS"), (0, u "RADIANS_TO_DEGREES")] 94

def k28m0 : Method := { name := "<init>", desc := "()V", sig := { parameters := [], returnType := none }, accessFlags := 2, code := none }
def k28c1 : Code := { maxStack := 2, maxLocals := 2, code := jdk_29_method_69_code, exceptionTable := #[], attributes := #[] }
def k28m1 : Method := { name := "min", desc := "(II)I", sig := { parameters := [.int, .int], returnType := some .int }, accessFlags := 9, code := some k28c1 }
/-- java/lang/Math -/
def k28 : Class := { plain "java/lang/Math" (some 0) with
  accessFlags := 49
  interfaces := #[]
  cf := some (fileOf pool28 1 #[.nestMembers #[98]] #[{ accessFlags := 2, nameIndex := 7, descriptorIndex := 8, attributes := #[] }, { accessFlags := 9, nameIndex := 201, descriptorIndex := 335, attributes := #[] }] 49 4 #[] #[{ accessFlags := 25, nameIndex := 354, descriptorIndex := 339, attributes := #[] }, { accessFlags := 25, nameIndex := 358, descriptorIndex := 339, attributes := #[] }, { accessFlags := 25, nameIndex := 361, descriptorIndex := 339, attributes := #[] }, { accessFlags := 26, nameIndex := 364, descriptorIndex := 339, attributes := #[] }, { accessFlags := 26, nameIndex := 365, descriptorIndex := 339, attributes := #[] }, { accessFlags := 26, nameIndex := 172, descriptorIndex := 173, attributes := #[] }, { accessFlags := 26, nameIndex := 176, descriptorIndex := 173, attributes := #[] }, { accessFlags := 8, nameIndex := 344, descriptorIndex := 339, attributes := #[] }, { accessFlags := 8, nameIndex := 338, descriptorIndex := 339, attributes := #[] }, { accessFlags := 4120, nameIndex := 245, descriptorIndex := 246, attributes := #[] }])
  fields := #[{ name := "E", type := .double, accessFlags := 25, slot := 0, constantValue := 0 }, { name := "PI", type := .double, accessFlags := 25, slot := 1, constantValue := 0 }, { name := "TAU", type := .double, accessFlags := 25, slot := 2, constantValue := 0 }, { name := "DEGREES_TO_RADIANS", type := .double, accessFlags := 26, slot := 3, constantValue := 0 }, { name := "RADIANS_TO_DEGREES", type := .double, accessFlags := 26, slot := 4, constantValue := 0 }, { name := "negativeZeroFloatBits", type := .long, accessFlags := 26, slot := 5, constantValue := 0 }, { name := "negativeZeroDoubleBits", type := .long, accessFlags := 26, slot := 6, constantValue := 0 }, { name := "twoToTheDoubleScaleUp", type := .double, accessFlags := 8, slot := 7, constantValue := 0 }, { name := "twoToTheDoubleScaleDown", type := .double, accessFlags := 8, slot := 8, constantValue := 0 }, { name := "$assertionsDisabled", type := .boolean, accessFlags := 4120, slot := 9, constantValue := 0 }]
  methods := #[k28m0, k28m1]
  instanceTypes := #[]
  staticTypes := #[.double, .double, .double, .double, .double, .long, .long, .double, .double, .boolean]
  resolved := Array.replicate 460 none
  statics := none }

def pool29 : Array CpInfo := pool [(1, .class_ 2), (0, u "java/lang/String"), (1, .class_ 6), (1, u "java/lang/Object"), (0, u "<init>"), (0, u "()V"), (0, .methodref 1 10), (0, .nameAndType 11 12), (0, u "checkIndex"), (0, u "(II)V"), (1, .class_ 16), (1, u "java/lang/StringLatin1"), (36, u "([BI)C"), (67, u "$assertionsDisabled"), (0, u "Z"), (98, .class_ 223), (1, u "java/lang/StringLatin1$LinesSpliterator"), (28, u "charAt"), (28, u "equals"), (0, u "([B[B)Z"), (107, .class_ 391), (0, u "java/lang/StringLatin1$CharsSpliterator")] 3

def k29m0 : Method := { name := "<init>", desc := "()V", sig := { parameters := [], returnType := none }, accessFlags := 0, code := none }
def k29c1 : Code := { maxStack := 2, maxLocals := 2, code := jdk_43_method_2_code, exceptionTable := #[], attributes := #[] }
def k29m1 : Method := { name := "charAt", desc := "([BI)C", sig := { parameters := [(.array .byte), .int], returnType := some .char }, accessFlags := 9, code := some k29c1 }
def k29c2 : Code := { maxStack := 3, maxLocals := 3, code := jdk_43_method_13_code, exceptionTable := #[], attributes := #[] }
def k29m2 : Method := { name := "equals", desc := "([B[B)Z", sig := { parameters := [(.array .byte), (.array .byte)], returnType := some .boolean }, accessFlags := 9, code := some k29c2 }
/-- java/lang/StringLatin1 -/
def k29 : Class := { plain "java/lang/StringLatin1" (some 0) with
  accessFlags := 48
  interfaces := #[]
  cf := some (fileOf pool29 14 #[.nestMembers #[390, 221]] #[{ accessFlags := 0, nameIndex := 7, descriptorIndex := 8, attributes := #[] }, { accessFlags := 9, nameIndex := 252, descriptorIndex := 53, attributes := #[] }, { accessFlags := 9, nameIndex := 281, descriptorIndex := 282, attributes := #[] }] 48 4 #[] #[{ accessFlags := 4120, nameIndex := 121, descriptorIndex := 122, attributes := #[] }])
  fields := #[{ name := "$assertionsDisabled", type := .boolean, accessFlags := 4120, slot := 0, constantValue := 0 }]
  methods := #[k29m0, k29m1, k29m2]
  instanceTypes := #[]
  staticTypes := #[.boolean]
  resolved := Array.replicate 395 none
  statics := none }

def pool30 : Array CpInfo := pool [(2, .class_ 4), (1, u "java/lang/Object"), (0, u "<init>"), (0, u "()V"), (17, .class_ 26), (1, u "jdk/internal/util/Preconditions"), (6, u "checkIndex"), (21, .class_ 56), (0, u "jdk/internal/util/Preconditions$4"), (57, .class_ 115), (0, u "jdk/internal/util/Preconditions$1"), (7, u "SIOOBE_FORMATTER"), (0, u "Ljava/util/function/BiFunction;"), (0, .class_ 126), (0, u "jdk/internal/util/Preconditions$2"), (3, u "AIOOBE_FORMATTER"), (0, .class_ 132), (0, u "jdk/internal/util/Preconditions$3"), (3, u "IOOBE_FORMATTER"), (41, u "(IILjava/util/function/BiFunction;)I")] 15

def k30m0 : Method := { name := "<init>", desc := "()V", sig := { parameters := [], returnType := none }, accessFlags := 1, code := none }
def k30c1 : Code := { maxStack := 3, maxLocals := 3, code := jdk_41_method_11_code, exceptionTable := #[], attributes := #[] }
def k30m1 : Method := { name := "checkIndex", desc := "(IILjava/util/function/BiFunction;)I", sig := { parameters := [.int, .int, (.object "java/util/function/BiFunction")], returnType := some .int }, accessFlags := 9, code := some k30c1 }
/-- jdk/internal/util/Preconditions -/
def k30 : Class := { plain "jdk/internal/util/Preconditions" (some 0) with
  accessFlags := 33
  interfaces := #[]
  cf := some (fileOf pool30 24 #[.nestMembers #[55, 131, 125, 114]] #[{ accessFlags := 1, nameIndex := 5, descriptorIndex := 6, attributes := #[] }, { accessFlags := 9, nameIndex := 33, descriptorIndex := 178, attributes := #[] }] 33 2 #[] #[{ accessFlags := 25, nameIndex := 123, descriptorIndex := 124, attributes := #[] }, { accessFlags := 25, nameIndex := 130, descriptorIndex := 124, attributes := #[] }, { accessFlags := 25, nameIndex := 136, descriptorIndex := 124, attributes := #[] }])
  fields := #[{ name := "SIOOBE_FORMATTER", type := (.object "java/util/function/BiFunction"), accessFlags := 25, slot := 0, constantValue := 0 }, { name := "AIOOBE_FORMATTER", type := (.object "java/util/function/BiFunction"), accessFlags := 25, slot := 1, constantValue := 0 }, { name := "IOOBE_FORMATTER", type := (.object "java/util/function/BiFunction"), accessFlags := 25, slot := 2, constantValue := 0 }]
  methods := #[k30m0, k30m1]
  instanceTypes := #[]
  staticTypes := #[(.object "java/util/function/BiFunction"), (.object "java/util/function/BiFunction"), (.object "java/util/function/BiFunction")]
  resolved := Array.replicate 194 none
  statics := some 2 }

def pool31 : Array CpInfo := pool [(9, u "<init>"), (6, .class_ 18), (1, u "java/lang/Object"), (0, u "()V"), (1, .class_ 23), (1, u "jdk/internal/util/ArraysSupport"), (0, u "LOG2_ARRAY_LONG_INDEX_SCALE"), (0, u "I"), (2, u "U"), (0, u "Ljdk/internal/misc/Unsafe;"), (8, u "BIG_ENDIAN"), (0, u "Z"), (8, u "LOG2_BYTE_BIT_SIZE"), (4, u "LOG2_ARRAY_INT_INDEX_SCALE"), (54, u "JLA"), (0, u "Ljdk/internal/access/JavaLangAccess;"), (11, u "LOG2_ARRAY_BOOLEAN_INDEX_SCALE"), (9, u "LOG2_ARRAY_BYTE_INDEX_SCALE"), (5, u "LOG2_ARRAY_CHAR_INDEX_SCALE"), (5, u "LOG2_ARRAY_SHORT_INDEX_SCALE"), (18, u "LOG2_ARRAY_FLOAT_INDEX_SCALE"), (24, u "LOG2_ARRAY_DOUBLE_INDEX_SCALE"), (89, u "T_BOOLEAN"), (2, u "T_CHAR"), (1, u "T_FLOAT"), (1, u "T_DOUBLE"), (1, u "T_BYTE"), (1, u "T_SHORT"), (1, u "T_INT"), (1, u "T_LONG"), (1, u "SOFT_MAX_ARRAY_LENGTH")] 83

def k31m0 : Method := { name := "<init>", desc := "()V", sig := { parameters := [], returnType := none }, accessFlags := 2, code := none }
/-- jdk/internal/util/ArraysSupport -/
def k31 : Class := { plain "jdk/internal/util/ArraysSupport" (some 0) with
  accessFlags := 33
  interfaces := #[]
  cf := some (fileOf pool31 21 #[] #[{ accessFlags := 2, nameIndex := 9, descriptorIndex := 19, attributes := #[] }] 33 16 #[] #[{ accessFlags := 24, nameIndex := 28, descriptorIndex := 29, attributes := #[] }, { accessFlags := 26, nameIndex := 38, descriptorIndex := 39, attributes := #[] }, { accessFlags := 25, nameIndex := 121, descriptorIndex := 25, attributes := #[] }, { accessFlags := 25, nameIndex := 131, descriptorIndex := 25, attributes := #[] }, { accessFlags := 25, nameIndex := 137, descriptorIndex := 25, attributes := #[] }, { accessFlags := 25, nameIndex := 143, descriptorIndex := 25, attributes := #[] }, { accessFlags := 25, nameIndex := 53, descriptorIndex := 25, attributes := #[] }, { accessFlags := 25, nameIndex := 24, descriptorIndex := 25, attributes := #[] }, { accessFlags := 25, nameIndex := 162, descriptorIndex := 25, attributes := #[] }, { accessFlags := 25, nameIndex := 187, descriptorIndex := 25, attributes := #[] }, { accessFlags := 26, nameIndex := 48, descriptorIndex := 25, attributes := #[] }, { accessFlags := 25, nameIndex := 277, descriptorIndex := 25, attributes := #[] }, { accessFlags := 25, nameIndex := 280, descriptorIndex := 25, attributes := #[] }, { accessFlags := 25, nameIndex := 282, descriptorIndex := 25, attributes := #[] }, { accessFlags := 25, nameIndex := 284, descriptorIndex := 25, attributes := #[] }, { accessFlags := 25, nameIndex := 286, descriptorIndex := 25, attributes := #[] }, { accessFlags := 25, nameIndex := 288, descriptorIndex := 25, attributes := #[] }, { accessFlags := 25, nameIndex := 290, descriptorIndex := 25, attributes := #[] }, { accessFlags := 25, nameIndex := 292, descriptorIndex := 25, attributes := #[] }, { accessFlags := 26, nameIndex := 108, descriptorIndex := 109, attributes := #[] }, { accessFlags := 25, nameIndex := 294, descriptorIndex := 25, attributes := #[] }])
  fields := #[{ name := "U", type := (.object "jdk/internal/misc/Unsafe"), accessFlags := 24, slot := 0, constantValue := 0 }, { name := "BIG_ENDIAN", type := .boolean, accessFlags := 26, slot := 1, constantValue := 0 }, { name := "LOG2_ARRAY_BOOLEAN_INDEX_SCALE", type := .int, accessFlags := 25, slot := 2, constantValue := 0 }, { name := "LOG2_ARRAY_BYTE_INDEX_SCALE", type := .int, accessFlags := 25, slot := 3, constantValue := 0 }, { name := "LOG2_ARRAY_CHAR_INDEX_SCALE", type := .int, accessFlags := 25, slot := 4, constantValue := 0 }, { name := "LOG2_ARRAY_SHORT_INDEX_SCALE", type := .int, accessFlags := 25, slot := 5, constantValue := 0 }, { name := "LOG2_ARRAY_INT_INDEX_SCALE", type := .int, accessFlags := 25, slot := 6, constantValue := 0 }, { name := "LOG2_ARRAY_LONG_INDEX_SCALE", type := .int, accessFlags := 25, slot := 7, constantValue := 0 }, { name := "LOG2_ARRAY_FLOAT_INDEX_SCALE", type := .int, accessFlags := 25, slot := 8, constantValue := 0 }, { name := "LOG2_ARRAY_DOUBLE_INDEX_SCALE", type := .int, accessFlags := 25, slot := 9, constantValue := 0 }, { name := "LOG2_BYTE_BIT_SIZE", type := .int, accessFlags := 26, slot := 10, constantValue := 0 }, { name := "T_BOOLEAN", type := .int, accessFlags := 25, slot := 11, constantValue := 0 }, { name := "T_CHAR", type := .int, accessFlags := 25, slot := 12, constantValue := 0 }, { name := "T_FLOAT", type := .int, accessFlags := 25, slot := 13, constantValue := 0 }, { name := "T_DOUBLE", type := .int, accessFlags := 25, slot := 14, constantValue := 0 }, { name := "T_BYTE", type := .int, accessFlags := 25, slot := 15, constantValue := 0 }, { name := "T_SHORT", type := .int, accessFlags := 25, slot := 16, constantValue := 0 }, { name := "T_INT", type := .int, accessFlags := 25, slot := 17, constantValue := 0 }, { name := "T_LONG", type := .int, accessFlags := 25, slot := 18, constantValue := 0 }, { name := "JLA", type := (.object "jdk/internal/access/JavaLangAccess"), accessFlags := 26, slot := 19, constantValue := 0 }, { name := "SOFT_MAX_ARRAY_LENGTH", type := .int, accessFlags := 25, slot := 20, constantValue := 0 }]
  methods := #[k31m0]
  instanceTypes := #[]
  staticTypes := #[(.object "jdk/internal/misc/Unsafe"), .boolean, .int, .int, .int, .int, .int, .int, .int, .int, .int, .int, .int, .int, .int, .int, .int, .int, .int, (.object "jdk/internal/access/JavaLangAccess"), .int]
  resolved := Array.replicate 378 none
  statics := none }

/-- the primitive byte -/
def k32 : Class := { plain "byte" none with kind := .primitive 'B', accessFlags := 0x411 }
/-- [B -/
def k33 : Class := { plain "[B" (some 0) with kind := .array 32 .byte, interfaces := #[21, 2], accessFlags := 1041 }

/-- the primitive char -/
def k34 : Class := { plain "char" none with kind := .primitive 'C', accessFlags := 0x411 }
/-- [C -/
def k35 : Class := { plain "[C" (some 0) with kind := .array 34 .char, interfaces := #[21, 2], accessFlags := 1041 }

/-- the primitive int -/
def k36 : Class := { plain "int" none with kind := .primitive 'I', accessFlags := 0x411 }
/-- [I -/
def k37 : Class := { plain "[I" (some 0) with kind := .array 36 .int, interfaces := #[21, 2], accessFlags := 1041 }

/-- [Ljava/lang/Object; -/
def k38 : Class := { plain "[Ljava/lang/Object;" (some 0) with kind := .array 0 (.object "java/lang/Object"), interfaces := #[21, 2], accessFlags := 1041 }

/-- [Ljava/lang/String; -/
def k39 : Class := { plain "[Ljava/lang/String;" (some 0) with kind := .array 7 (.object "java/lang/String"), interfaces := #[21, 2], accessFlags := 1041 }

def heap : Heap := #[{ cls := 7, slots := #[.long 0, .int 1, .null, .int 0, .null, .int 0, .int 0], vm := .statics 7 },
  { cls := 22, slots := #[.long 0, .int 0, .ref 3, .ref 4], vm := .statics 22 },
  { cls := 30, slots := #[.null, .null, .null], vm := .statics 30 },
  { cls := 38, slots := #[], vm := .none },
  { cls := 38, slots := #[], vm := .none }]
def classes : Array Class := #[k0, k1, k2, k3, k4, k5, k6, k7, k8, k9, k10, k11, k12, k13, k14, k15, k16, k17, k18, k19, k20, k21, k22, k23, k24, k25, k26, k27, k28, k29, k30, k31, k32, k33, k34, k35, k36, k37, k38, k39]
def interned : List (Array UInt16 × Addr) := []
def slotsUsed : Nat := 14
def theMethod : MethodId := ⟨1, 3⟩
def args0 : Array Value := #[.int 5, .int 7, .int 9, .int 3]
def aboutOver (below : List Frame) : State where
  vm := { classes := classes, interned := interned.toArray }
  heap := heap
  slotsUsed := slotsUsed
  threads := #[{ frames := .invoking theMethod args0 :: below }]
def below0 : List Frame := [.native { method := ⟨0, 0⟩, args := #[] }]
def about1 : State := aboutOver below0
def p0 : Program := .bare "" "" ""
def e0 : Env := launch0.env 0 0 0
theorem w_frames : about1.frames = Frame.invoking theMethod args0 :: below0 := rfl
set_option maxRecDepth 65536 in
theorem w_args : argsFit about1.vm theMethod args0 = true := by decide +kernel
set_option maxRecDepth 65536 in
theorem w_heap : heapFits about1 = true := by decide +kernel
set_option maxRecDepth 65536 in
theorem w_runnable : about1.curStatus? = some .runnable := by decide +kernel
set_option maxRecDepth 65536 in
theorem w_alone : about1.alone = true := by decide +kernel
set_option maxRecDepth 65536 in
theorem w_named : about1.methodNamed? x = some theMethod := by decide +kernel
set_option maxRecDepth 65536 in
theorem w_hears : about1.hears theMethod below0 = true := by decide +kernel
set_option maxRecDepth 65536 in
theorem w_ripe : about1.ripe theMethod args0 below0 = true := by decide +kernel
theorem w_running : about1.status = .running := rfl
set_option maxRecDepth 65536 in
theorem w_room : about1.hasRoom e0.platform room_1 = true :=
  launch0.hasRoom_least _ room_1 (by decide +kernel) (by decide +kernel) (by decide +kernel) (by decide +kernel) (by decide +kernel) (by decide +kernel)
theorem allAtoms_all (ts : List Jvm.Cond) (a : Array Jvm.Value) (st : Jvm.State) : (allAtoms ts).before a st = ts.all (fun c => c.before a st) := by
  induction ts with
  | nil => rfl
  | cons c t ih =>
    show (Jvm.Cond.and c (allAtoms t)).before a st = _
    rw [Jvm.Cond.before_and, ih, List.all_cons]
def words1 : List Jvm.Cond := Jvm.Cond.code x code maxLocals ret :: tables_1
/-- a 'code' word, met by the world's own term for the bytes: nothing is compared byte by byte -/
theorem code_word {y : MethodName} {bytes : ByteArray} {mx : Nat} {rt : Option FieldType} {a : Array Value} {s : State} {m : MethodId} {meth : Method} {c : Code} (h1 : s.methodNamed? y = some m) (h2 : s.vm.method? m = some meth) (h3 : meth.code = some c) (h4 : c.code = bytes)
    (h5 : (c.maxLocals == mx && c.exceptionTable.isEmpty && decide (c.maxStack ≤ mostOperands) && decide (meth.sig.returnType = rt) && !meth.locks && decide (parseMethodDescriptor y.desc = some meth.sig)) = true) : (Jvm.Cond.code y bytes mx rt).before a s = true := by
  simp only [Bool.and_eq_true, beq_iff_eq, Bool.not_eq_true', decide_eq_true_eq] at h5
  obtain ⟨⟨⟨⟨⟨g1, g2⟩, g3⟩, g4⟩, g5⟩, g6⟩ := h5
  simp [Cond.before, Cond.holds, Cond.value, h1, h2, h3, h4, g1, g2, g3, g4, g5, g6]
def isCode : Jvm.Cond → Bool
  | .code _ _ _ _ => true
  | _ => false
theorem all_split {L : List Jvm.Cond} {P : Jvm.Cond → Bool} (h1 : L.all (fun c => isCode c || P c) = true) (h2 : ∀ c ∈ L.filter isCode, P c = true) : L.all P = true := by
  refine List.all_eq_true.mpr fun c hc => ?_
  have h := List.all_eq_true.mp h1 c hc
  rcases Bool.eq_false_or_eq_true (isCode c) with hi | hi
  · exact h2 c (List.mem_filter.mpr ⟨hc, hi⟩)
  · simpa [hi] using h
set_option maxRecDepth 65536 in
theorem w_c0 : (Jvm.Cond.code x code maxLocals ret).before args0 about1 = true := code_word (m := ⟨1, 3⟩) (meth := k1m3) (c := k1c3) (by decide +kernel) rfl rfl rfl (by decide +kernel)
set_option maxRecDepth 65536 in
theorem w_c1 : (Jvm.Cond.code ({ cls := "com/example/loomwire/loomwire/soap/XmlWriterWriteStartDocument304PinLaw", name := "version", desc := "(ICCC)Ljava/lang/String;" } : Jvm.MethodName) method_2_code (4 : Nat) (Option.some (Jvm.ClassFile.FieldType.object "java/lang/String"))).before args0 about1 = true := code_word (m := ⟨1, 1⟩) (meth := k1m1) (c := k1c1) (by decide +kernel) rfl rfl rfl (by decide +kernel)
set_option maxRecDepth 65536 in
theorem w_c2 : (Jvm.Cond.code ({ cls := "java/lang/String", name := "<init>", desc := "([C)V" } : Jvm.MethodName) jdk_42_method_3_code (2 : Nat) (Option.none : Option Jvm.ClassFile.FieldType)).before args0 about1 = true := code_word (m := ⟨7, 1⟩) (meth := k7m1) (c := k7c1) (by decide +kernel) rfl rfl rfl (by decide +kernel)
set_option maxRecDepth 65536 in
theorem w_c3 : (Jvm.Cond.code ({ cls := "java/lang/String", name := "<init>", desc := "([CIILjava/lang/Void;)V" } : Jvm.MethodName) jdk_42_method_149_code (6 : Nat) (Option.none : Option Jvm.ClassFile.FieldType)).before args0 about1 = true := code_word (m := ⟨7, 7⟩) (meth := k7m7) (c := k7c7) (by decide +kernel) rfl rfl rfl (by decide +kernel)
set_option maxRecDepth 65536 in
theorem w_c4 : (Jvm.Cond.code ({ cls := "java/lang/Object", name := "<init>", desc := "()V" } : Jvm.MethodName) object_method_1_code (1 : Nat) (Option.none : Option Jvm.ClassFile.FieldType)).before args0 about1 = true := code_word (m := ⟨0, 0⟩) (meth := k0m0) (c := k0c0) (by decide +kernel) rfl rfl rfl (by decide +kernel)
set_option maxRecDepth 65536 in
theorem w_c5 : (Jvm.Cond.code ({ cls := "com/example/loomwire/loomwire/soap/XmlWriterWriteStartDocument304PinLaw", name := "expected", desc := "(ICCC)Ljava/lang/String;" } : Jvm.MethodName) method_3_code (4 : Nat) (Option.some (Jvm.ClassFile.FieldType.object "java/lang/String"))).before args0 about1 = true := code_word (m := ⟨1, 2⟩) (meth := k1m2) (c := k1c2) (by decide +kernel) rfl rfl rfl (by decide +kernel)
set_option maxRecDepth 65536 in
theorem w_c6 : (Jvm.Cond.code ({ cls := "java/lang/StringUTF16", name := "compress", desc := "([CII)[B" } : Jvm.MethodName) jdk_52_method_16_code (6 : Nat) (Option.some (Jvm.ClassFile.FieldType.array Jvm.ClassFile.FieldType.byte))).before args0 about1 = true := code_word (m := ⟨8, 2⟩) (meth := k8m2) (c := k8c2) (by decide +kernel) rfl rfl rfl (by decide +kernel)
set_option maxRecDepth 65536 in
theorem w_c7 : (Jvm.Cond.code ({ cls := "java/lang/StringUTF16", name := "compress", desc := "([CI[BII)I" } : Jvm.MethodName) jdk_52_method_21_code (7 : Nat) (Option.some Jvm.ClassFile.FieldType.int)).before args0 about1 = true := code_word (m := ⟨8, 3⟩) (meth := k8m3) (c := k8c3) (by decide +kernel) rfl rfl rfl (by decide +kernel)
set_option maxRecDepth 65536 in
theorem w_c8 : (Jvm.Cond.code ({ cls := "java/lang/StringUTF16", name := "coderFromArrayLen", desc := "([BI)B" } : Jvm.MethodName) jdk_52_method_15_code (2 : Nat) (Option.some Jvm.ClassFile.FieldType.byte)).before args0 about1 = true := code_word (m := ⟨8, 1⟩) (meth := k8m1) (c := k8c1) (by decide +kernel) rfl rfl rfl (by decide +kernel)
set_option maxRecDepth 65536 in
theorem w_c9 : (Jvm.Cond.code ({ cls := "com/example/loomwire/loomwire/soap/XmlWriter", name := "<init>", desc := "()V" } : Jvm.MethodName) prog_33_method_1_code (1 : Nat) (Option.none : Option Jvm.ClassFile.FieldType)).before args0 about1 = true := code_word (m := ⟨10, 0⟩) (meth := k10m0) (c := k10c0) (by decide +kernel) rfl rfl rfl (by decide +kernel)
set_option maxRecDepth 65536 in
theorem w_c10 : (Jvm.Cond.code ({ cls := "java/lang/StringBuilder", name := "<init>", desc := "(I)V" } : Jvm.MethodName) jdk_67_method_2_code (2 : Nat) (Option.none : Option Jvm.ClassFile.FieldType)).before args0 about1 = true := code_word (m := ⟨13, 1⟩) (meth := k13m1) (c := k13c1) (by decide +kernel) rfl rfl rfl (by decide +kernel)
set_option maxRecDepth 65536 in
theorem w_c11 : (Jvm.Cond.code ({ cls := "java/lang/AbstractStringBuilder", name := "<init>", desc := "(I)V" } : Jvm.MethodName) jdk_68_method_2_code (2 : Nat) (Option.none : Option Jvm.ClassFile.FieldType)).before args0 about1 = true := code_word (m := ⟨12, 1⟩) (meth := k12m1) (c := k12c1) (by decide +kernel) rfl rfl rfl (by decide +kernel)
set_option maxRecDepth 65536 in
theorem w_c12 : (Jvm.Cond.code ({ cls := "java/util/ArrayList", name := "<init>", desc := "()V" } : Jvm.MethodName) jdk_38_method_2_code (1 : Nat) (Option.none : Option Jvm.ClassFile.FieldType)).before args0 about1 = true := code_word (m := ⟨22, 0⟩) (meth := k22m0) (c := k22c0) (by decide +kernel) rfl rfl rfl (by decide +kernel)
set_option maxRecDepth 65536 in
theorem w_c13 : (Jvm.Cond.code ({ cls := "java/util/AbstractList", name := "<init>", desc := "()V" } : Jvm.MethodName) jdk_39_method_1_code (1 : Nat) (Option.none : Option Jvm.ClassFile.FieldType)).before args0 about1 = true := code_word (m := ⟨19, 0⟩) (meth := k19m0) (c := k19c0) (by decide +kernel) rfl rfl rfl (by decide +kernel)
set_option maxRecDepth 65536 in
theorem w_c14 : (Jvm.Cond.code ({ cls := "java/util/AbstractCollection", name := "<init>", desc := "()V" } : Jvm.MethodName) jdk_22_method_1_code (1 : Nat) (Option.none : Option Jvm.ClassFile.FieldType)).before args0 about1 = true := code_word (m := ⟨16, 0⟩) (meth := k16m0) (c := k16c0) (by decide +kernel) rfl rfl rfl (by decide +kernel)
set_option maxRecDepth 65536 in
theorem w_c15 : (Jvm.Cond.code ({ cls := "java/util/HashMap", name := "<init>", desc := "()V" } : Jvm.MethodName) jdk_69_method_7_code (1 : Nat) (Option.none : Option Jvm.ClassFile.FieldType)).before args0 about1 = true := code_word (m := ⟨25, 0⟩) (meth := k25m0) (c := k25c0) (by decide +kernel) rfl rfl rfl (by decide +kernel)
set_option maxRecDepth 65536 in
theorem w_c16 : (Jvm.Cond.code ({ cls := "java/util/AbstractMap", name := "<init>", desc := "()V" } : Jvm.MethodName) jdk_71_method_1_code (1 : Nat) (Option.none : Option Jvm.ClassFile.FieldType)).before args0 about1 = true := code_word (m := ⟨24, 0⟩) (meth := k24m0) (c := k24c0) (by decide +kernel) rfl rfl rfl (by decide +kernel)
set_option maxRecDepth 65536 in
theorem w_c17 : (Jvm.Cond.code ({ cls := "com/example/loomwire/loomwire/soap/XmlWriter", name := "writeStartDocument", desc := "(Ljava/lang/String;)V" } : Jvm.MethodName) prog_33_method_4_code (2 : Nat) (Option.none : Option Jvm.ClassFile.FieldType)).before args0 about1 = true := code_word (m := ⟨10, 2⟩) (meth := k10m2) (c := k10c2) (by decide +kernel) rfl rfl rfl (by decide +kernel)
set_option maxRecDepth 65536 in
theorem w_c18 : (Jvm.Cond.code ({ cls := "java/lang/StringBuilder", name := "append", desc := "(Ljava/lang/String;)Ljava/lang/StringBuilder;" } : Jvm.MethodName) jdk_67_method_7_code (2 : Nat) (Option.some (Jvm.ClassFile.FieldType.object "java/lang/StringBuilder"))).before args0 about1 = true := code_word (m := ⟨13, 2⟩) (meth := k13m2) (c := k13c2) (by decide +kernel) rfl rfl rfl (by decide +kernel)
set_option maxRecDepth 65536 in
theorem w_c19 : (Jvm.Cond.code ({ cls := "java/lang/AbstractStringBuilder", name := "append", desc := "(Ljava/lang/String;)Ljava/lang/AbstractStringBuilder;" } : Jvm.MethodName) jdk_68_method_22_code (3 : Nat) (Option.some (Jvm.ClassFile.FieldType.object "java/lang/AbstractStringBuilder"))).before args0 about1 = true := code_word (m := ⟨12, 4⟩) (meth := k12m4) (c := k12c4) (by decide +kernel) rfl rfl rfl (by decide +kernel)
set_option maxRecDepth 65536 in
theorem w_c20 : (Jvm.Cond.code ({ cls := "java/lang/String", name := "length", desc := "()I" } : Jvm.MethodName) jdk_42_method_54_code (1 : Nat) (Option.some Jvm.ClassFile.FieldType.int)).before args0 about1 = true := code_word (m := ⟨7, 3⟩) (meth := k7m3) (c := k7c3) (by decide +kernel) rfl rfl rfl (by decide +kernel)
set_option maxRecDepth 65536 in
theorem w_c21 : (Jvm.Cond.code ({ cls := "java/lang/String", name := "coder", desc := "()B" } : Jvm.MethodName) jdk_42_method_152_code (1 : Nat) (Option.some Jvm.ClassFile.FieldType.byte)).before args0 about1 = true := code_word (m := ⟨7, 9⟩) (meth := k7m9) (c := k7c9) (by decide +kernel) rfl rfl rfl (by decide +kernel)
set_option maxRecDepth 65536 in
theorem w_c22 : (Jvm.Cond.code ({ cls := "java/lang/AbstractStringBuilder", name := "ensureCapacityInternal", desc := "(I)V" } : Jvm.MethodName) jdk_68_method_9_code (3 : Nat) (Option.none : Option Jvm.ClassFile.FieldType)).before args0 about1 = true := code_word (m := ⟨12, 3⟩) (meth := k12m3) (c := k12c3) (by decide +kernel) rfl rfl rfl (by decide +kernel)
set_option maxRecDepth 65536 in
theorem w_c23 : (Jvm.Cond.code ({ cls := "java/lang/AbstractStringBuilder", name := "putStringAt", desc := "(ILjava/lang/String;)V" } : Jvm.MethodName) jdk_68_method_73_code (3 : Nat) (Option.none : Option Jvm.ClassFile.FieldType)).before args0 about1 = true := code_word (m := ⟨12, 8⟩) (meth := k12m8) (c := k12c8) (by decide +kernel) rfl rfl rfl (by decide +kernel)
set_option maxRecDepth 65536 in
theorem w_c24 : (Jvm.Cond.code ({ cls := "java/lang/AbstractStringBuilder", name := "inflateIfNeededFor", desc := "(Ljava/lang/String;)V" } : Jvm.MethodName) jdk_68_method_71_code (2 : Nat) (Option.none : Option Jvm.ClassFile.FieldType)).before args0 about1 = true := code_word (m := ⟨12, 7⟩) (meth := k12m7) (c := k12c7) (by decide +kernel) rfl rfl rfl (by decide +kernel)
set_option maxRecDepth 65536 in
theorem w_c25 : (Jvm.Cond.code ({ cls := "java/lang/String", name := "getBytes", desc := "([BIB)V" } : Jvm.MethodName) jdk_42_method_147_code (4 : Nat) (Option.none : Option Jvm.ClassFile.FieldType)).before args0 about1 = true := code_word (m := ⟨7, 6⟩) (meth := k7m6) (c := k7c6) (by decide +kernel) rfl rfl rfl (by decide +kernel)
set_option maxRecDepth 65536 in
theorem w_c26 : (Jvm.Cond.code ({ cls := "com/example/loomwire/loomwire/soap/XmlWriter", name := "text", desc := "()Ljava/lang/String;" } : Jvm.MethodName) prog_33_method_2_code (1 : Nat) (Option.some (Jvm.ClassFile.FieldType.object "java/lang/String"))).before args0 about1 = true := code_word (m := ⟨10, 1⟩) (meth := k10m1) (c := k10c1) (by decide +kernel) rfl rfl rfl (by decide +kernel)
set_option maxRecDepth 65536 in
theorem w_c27 : (Jvm.Cond.code ({ cls := "java/lang/StringBuilder", name := "toString", desc := "()Ljava/lang/String;" } : Jvm.MethodName) jdk_67_method_42_code (1 : Nat) (Option.some (Jvm.ClassFile.FieldType.object "java/lang/String"))).before args0 about1 = true := code_word (m := ⟨13, 3⟩) (meth := k13m3) (c := k13c3) (by decide +kernel) rfl rfl rfl (by decide +kernel)
set_option maxRecDepth 65536 in
theorem w_c28 : (Jvm.Cond.code ({ cls := "java/lang/String", name := "<init>", desc := "(Ljava/lang/StringBuilder;)V" } : Jvm.MethodName) jdk_42_method_53_code (2 : Nat) (Option.none : Option Jvm.ClassFile.FieldType)).before args0 about1 = true := code_word (m := ⟨7, 2⟩) (meth := k7m2) (c := k7c2) (by decide +kernel) rfl rfl rfl (by decide +kernel)
set_option maxRecDepth 65536 in
theorem w_c29 : (Jvm.Cond.code ({ cls := "java/lang/String", name := "<init>", desc := "(Ljava/lang/AbstractStringBuilder;Ljava/lang/Void;)V" } : Jvm.MethodName) jdk_42_method_150_code (5 : Nat) (Option.none : Option Jvm.ClassFile.FieldType)).before args0 about1 = true := code_word (m := ⟨7, 8⟩) (meth := k7m8) (c := k7c8) (by decide +kernel) rfl rfl rfl (by decide +kernel)
set_option maxRecDepth 65536 in
theorem w_c30 : (Jvm.Cond.code ({ cls := "java/lang/AbstractStringBuilder", name := "getValue", desc := "()[B" } : Jvm.MethodName) jdk_68_method_64_code (1 : Nat) (Option.some (Jvm.ClassFile.FieldType.array Jvm.ClassFile.FieldType.byte))).before args0 about1 = true := code_word (m := ⟨12, 5⟩) (meth := k12m5) (c := k12c5) (by decide +kernel) rfl rfl rfl (by decide +kernel)
set_option maxRecDepth 65536 in
theorem w_c31 : (Jvm.Cond.code ({ cls := "java/lang/StringBuilder", name := "length", desc := "()I" } : Jvm.MethodName) jdk_67_method_93_code (1 : Nat) (Option.some Jvm.ClassFile.FieldType.int)).before args0 about1 = true := code_word (m := ⟨13, 4⟩) (meth := k13m4) (c := k13c4) (by decide +kernel) rfl rfl rfl (by decide +kernel)
set_option maxRecDepth 65536 in
theorem w_c32 : (Jvm.Cond.code ({ cls := "java/lang/AbstractStringBuilder", name := "length", desc := "()I" } : Jvm.MethodName) jdk_68_method_6_code (1 : Nat) (Option.some Jvm.ClassFile.FieldType.int)).before args0 about1 = true := code_word (m := ⟨12, 2⟩) (meth := k12m2) (c := k12c2) (by decide +kernel) rfl rfl rfl (by decide +kernel)
set_option maxRecDepth 65536 in
theorem w_c33 : (Jvm.Cond.code ({ cls := "java/lang/AbstractStringBuilder", name := "isLatin1", desc := "()Z" } : Jvm.MethodName) jdk_68_method_68_code (1 : Nat) (Option.some Jvm.ClassFile.FieldType.boolean)).before args0 about1 = true := code_word (m := ⟨12, 6⟩) (meth := k12m6) (c := k12c6) (by decide +kernel) rfl rfl rfl (by decide +kernel)
set_option maxRecDepth 65536 in
theorem w_c34 : (Jvm.Cond.code ({ cls := "java/util/Arrays", name := "copyOfRange", desc := "([BII)[B" } : Jvm.MethodName) jdk_65_method_132_code (3 : Nat) (Option.some (Jvm.ClassFile.FieldType.array Jvm.ClassFile.FieldType.byte))).before args0 about1 = true := code_word (m := ⟨27, 2⟩) (meth := k27m2) (c := k27c2) (by decide +kernel) rfl rfl rfl (by decide +kernel)
set_option maxRecDepth 65536 in
theorem w_c35 : (Jvm.Cond.code ({ cls := "java/util/Arrays", name := "copyOfRangeByte", desc := "([BII)[B" } : Jvm.MethodName) jdk_65_method_133_code (5 : Nat) (Option.some (Jvm.ClassFile.FieldType.array Jvm.ClassFile.FieldType.byte))).before args0 about1 = true := code_word (m := ⟨27, 3⟩) (meth := k27m3) (c := k27c3) (by decide +kernel) rfl rfl rfl (by decide +kernel)
set_option maxRecDepth 65536 in
theorem w_c36 : (Jvm.Cond.code ({ cls := "java/util/Arrays", name := "checkLength", desc := "(II)V" } : Jvm.MethodName) jdk_65_method_131_code (2 : Nat) (Option.none : Option Jvm.ClassFile.FieldType)).before args0 about1 = true := code_word (m := ⟨27, 1⟩) (meth := k27m1) (c := k27c1) (by decide +kernel) rfl rfl rfl (by decide +kernel)
set_option maxRecDepth 65536 in
theorem w_c37 : (Jvm.Cond.code ({ cls := "java/lang/Math", name := "min", desc := "(II)I" } : Jvm.MethodName) jdk_29_method_69_code (2 : Nat) (Option.some Jvm.ClassFile.FieldType.int)).before args0 about1 = true := code_word (m := ⟨28, 1⟩) (meth := k28m1) (c := k28c1) (by decide +kernel) rfl rfl rfl (by decide +kernel)
set_option maxRecDepth 65536 in
theorem w_c38 : (Jvm.Cond.code ({ cls := "java/lang/String", name := "equals", desc := "(Ljava/lang/Object;)Z" } : Jvm.MethodName) jdk_42_method_66_code (3 : Nat) (Option.some Jvm.ClassFile.FieldType.boolean)).before args0 about1 = true := code_word (m := ⟨7, 5⟩) (meth := k7m5) (c := k7c5) (by decide +kernel) rfl rfl rfl (by decide +kernel)
set_option maxRecDepth 65536 in
theorem w_c39 : (Jvm.Cond.code ({ cls := "java/lang/StringLatin1", name := "equals", desc := "([B[B)Z" } : Jvm.MethodName) jdk_43_method_13_code (3 : Nat) (Option.some Jvm.ClassFile.FieldType.boolean)).before args0 about1 = true := code_word (m := ⟨29, 2⟩) (meth := k29m2) (c := k29c2) (by decide +kernel) rfl rfl rfl (by decide +kernel)
set_option maxRecDepth 65536 in
theorem w_c40 : (Jvm.Cond.code ({ cls := "java/lang/String", name := "charAt", desc := "(I)C" } : Jvm.MethodName) jdk_42_method_56_code (2 : Nat) (Option.some Jvm.ClassFile.FieldType.char)).before args0 about1 = true := code_word (m := ⟨7, 4⟩) (meth := k7m4) (c := k7c4) (by decide +kernel) rfl rfl rfl (by decide +kernel)
set_option maxRecDepth 65536 in
theorem w_c41 : (Jvm.Cond.code ({ cls := "java/lang/String", name := "isLatin1", desc := "()Z" } : Jvm.MethodName) jdk_42_method_154_code (1 : Nat) (Option.some Jvm.ClassFile.FieldType.boolean)).before args0 about1 = true := code_word (m := ⟨7, 10⟩) (meth := k7m10) (c := k7c10) (by decide +kernel) rfl rfl rfl (by decide +kernel)
set_option maxRecDepth 65536 in
theorem w_c42 : (Jvm.Cond.code ({ cls := "java/lang/StringLatin1", name := "charAt", desc := "([BI)C" } : Jvm.MethodName) jdk_43_method_2_code (2 : Nat) (Option.some Jvm.ClassFile.FieldType.char)).before args0 about1 = true := code_word (m := ⟨29, 1⟩) (meth := k29m1) (c := k29c1) (by decide +kernel) rfl rfl rfl (by decide +kernel)
set_option maxRecDepth 65536 in
theorem w_c43 : (Jvm.Cond.code ({ cls := "java/lang/String", name := "checkIndex", desc := "(II)V" } : Jvm.MethodName) jdk_42_method_155_code (2 : Nat) (Option.none : Option Jvm.ClassFile.FieldType)).before args0 about1 = true := code_word (m := ⟨7, 11⟩) (meth := k7m11) (c := k7c11) (by decide +kernel) rfl rfl rfl (by decide +kernel)
set_option maxRecDepth 65536 in
theorem w_c44 : (Jvm.Cond.code ({ cls := "jdk/internal/util/Preconditions", name := "checkIndex", desc := "(IILjava/util/function/BiFunction;)I" } : Jvm.MethodName) jdk_41_method_11_code (3 : Nat) (Option.some Jvm.ClassFile.FieldType.int)).before args0 about1 = true := code_word (m := ⟨30, 1⟩) (meth := k30m1) (c := k30c1) (by decide +kernel) rfl rfl rfl (by decide +kernel)
def codes1 : List Jvm.Cond := [Jvm.Cond.code x code maxLocals ret, Jvm.Cond.code ({ cls := "com/example/loomwire/loomwire/soap/XmlWriterWriteStartDocument304PinLaw", name := "version", desc := "(ICCC)Ljava/lang/String;" } : Jvm.MethodName) method_2_code (4 : Nat) (Option.some (Jvm.ClassFile.FieldType.object "java/lang/String")), Jvm.Cond.code ({ cls := "java/lang/String", name := "<init>", desc := "([C)V" } : Jvm.MethodName) jdk_42_method_3_code (2 : Nat) (Option.none : Option Jvm.ClassFile.FieldType), Jvm.Cond.code ({ cls := "java/lang/String", name := "<init>", desc := "([CIILjava/lang/Void;)V" } : Jvm.MethodName) jdk_42_method_149_code (6 : Nat) (Option.none : Option Jvm.ClassFile.FieldType), Jvm.Cond.code ({ cls := "java/lang/Object", name := "<init>", desc := "()V" } : Jvm.MethodName) object_method_1_code (1 : Nat) (Option.none : Option Jvm.ClassFile.FieldType), Jvm.Cond.code ({ cls := "com/example/loomwire/loomwire/soap/XmlWriterWriteStartDocument304PinLaw", name := "expected", desc := "(ICCC)Ljava/lang/String;" } : Jvm.MethodName) method_3_code (4 : Nat) (Option.some (Jvm.ClassFile.FieldType.object "java/lang/String")), Jvm.Cond.code ({ cls := "java/lang/StringUTF16", name := "compress", desc := "([CII)[B" } : Jvm.MethodName) jdk_52_method_16_code (6 : Nat) (Option.some (Jvm.ClassFile.FieldType.array Jvm.ClassFile.FieldType.byte)), Jvm.Cond.code ({ cls := "java/lang/StringUTF16", name := "compress", desc := "([CI[BII)I" } : Jvm.MethodName) jdk_52_method_21_code (7 : Nat) (Option.some Jvm.ClassFile.FieldType.int), Jvm.Cond.code ({ cls := "java/lang/StringUTF16", name := "coderFromArrayLen", desc := "([BI)B" } : Jvm.MethodName) jdk_52_method_15_code (2 : Nat) (Option.some Jvm.ClassFile.FieldType.byte), Jvm.Cond.code ({ cls := "com/example/loomwire/loomwire/soap/XmlWriter", name := "<init>", desc := "()V" } : Jvm.MethodName) prog_33_method_1_code (1 : Nat) (Option.none : Option Jvm.ClassFile.FieldType), Jvm.Cond.code ({ cls := "java/lang/StringBuilder", name := "<init>", desc := "(I)V" } : Jvm.MethodName) jdk_67_method_2_code (2 : Nat) (Option.none : Option Jvm.ClassFile.FieldType), Jvm.Cond.code ({ cls := "java/lang/AbstractStringBuilder", name := "<init>", desc := "(I)V" } : Jvm.MethodName) jdk_68_method_2_code (2 : Nat) (Option.none : Option Jvm.ClassFile.FieldType), Jvm.Cond.code ({ cls := "java/util/ArrayList", name := "<init>", desc := "()V" } : Jvm.MethodName) jdk_38_method_2_code (1 : Nat) (Option.none : Option Jvm.ClassFile.FieldType), Jvm.Cond.code ({ cls := "java/util/AbstractList", name := "<init>", desc := "()V" } : Jvm.MethodName) jdk_39_method_1_code (1 : Nat) (Option.none : Option Jvm.ClassFile.FieldType), Jvm.Cond.code ({ cls := "java/util/AbstractCollection", name := "<init>", desc := "()V" } : Jvm.MethodName) jdk_22_method_1_code (1 : Nat) (Option.none : Option Jvm.ClassFile.FieldType), Jvm.Cond.code ({ cls := "java/util/HashMap", name := "<init>", desc := "()V" } : Jvm.MethodName) jdk_69_method_7_code (1 : Nat) (Option.none : Option Jvm.ClassFile.FieldType), Jvm.Cond.code ({ cls := "java/util/AbstractMap", name := "<init>", desc := "()V" } : Jvm.MethodName) jdk_71_method_1_code (1 : Nat) (Option.none : Option Jvm.ClassFile.FieldType), Jvm.Cond.code ({ cls := "com/example/loomwire/loomwire/soap/XmlWriter", name := "writeStartDocument", desc := "(Ljava/lang/String;)V" } : Jvm.MethodName) prog_33_method_4_code (2 : Nat) (Option.none : Option Jvm.ClassFile.FieldType), Jvm.Cond.code ({ cls := "java/lang/StringBuilder", name := "append", desc := "(Ljava/lang/String;)Ljava/lang/StringBuilder;" } : Jvm.MethodName) jdk_67_method_7_code (2 : Nat) (Option.some (Jvm.ClassFile.FieldType.object "java/lang/StringBuilder")), Jvm.Cond.code ({ cls := "java/lang/AbstractStringBuilder", name := "append", desc := "(Ljava/lang/String;)Ljava/lang/AbstractStringBuilder;" } : Jvm.MethodName) jdk_68_method_22_code (3 : Nat) (Option.some (Jvm.ClassFile.FieldType.object "java/lang/AbstractStringBuilder")), Jvm.Cond.code ({ cls := "java/lang/String", name := "length", desc := "()I" } : Jvm.MethodName) jdk_42_method_54_code (1 : Nat) (Option.some Jvm.ClassFile.FieldType.int), Jvm.Cond.code ({ cls := "java/lang/String", name := "coder", desc := "()B" } : Jvm.MethodName) jdk_42_method_152_code (1 : Nat) (Option.some Jvm.ClassFile.FieldType.byte), Jvm.Cond.code ({ cls := "java/lang/AbstractStringBuilder", name := "ensureCapacityInternal", desc := "(I)V" } : Jvm.MethodName) jdk_68_method_9_code (3 : Nat) (Option.none : Option Jvm.ClassFile.FieldType), Jvm.Cond.code ({ cls := "java/lang/AbstractStringBuilder", name := "putStringAt", desc := "(ILjava/lang/String;)V" } : Jvm.MethodName) jdk_68_method_73_code (3 : Nat) (Option.none : Option Jvm.ClassFile.FieldType), Jvm.Cond.code ({ cls := "java/lang/AbstractStringBuilder", name := "inflateIfNeededFor", desc := "(Ljava/lang/String;)V" } : Jvm.MethodName) jdk_68_method_71_code (2 : Nat) (Option.none : Option Jvm.ClassFile.FieldType), Jvm.Cond.code ({ cls := "java/lang/String", name := "getBytes", desc := "([BIB)V" } : Jvm.MethodName) jdk_42_method_147_code (4 : Nat) (Option.none : Option Jvm.ClassFile.FieldType), Jvm.Cond.code ({ cls := "com/example/loomwire/loomwire/soap/XmlWriter", name := "text", desc := "()Ljava/lang/String;" } : Jvm.MethodName) prog_33_method_2_code (1 : Nat) (Option.some (Jvm.ClassFile.FieldType.object "java/lang/String")), Jvm.Cond.code ({ cls := "java/lang/StringBuilder", name := "toString", desc := "()Ljava/lang/String;" } : Jvm.MethodName) jdk_67_method_42_code (1 : Nat) (Option.some (Jvm.ClassFile.FieldType.object "java/lang/String")), Jvm.Cond.code ({ cls := "java/lang/String", name := "<init>", desc := "(Ljava/lang/StringBuilder;)V" } : Jvm.MethodName) jdk_42_method_53_code (2 : Nat) (Option.none : Option Jvm.ClassFile.FieldType), Jvm.Cond.code ({ cls := "java/lang/String", name := "<init>", desc := "(Ljava/lang/AbstractStringBuilder;Ljava/lang/Void;)V" } : Jvm.MethodName) jdk_42_method_150_code (5 : Nat) (Option.none : Option Jvm.ClassFile.FieldType), Jvm.Cond.code ({ cls := "java/lang/AbstractStringBuilder", name := "getValue", desc := "()[B" } : Jvm.MethodName) jdk_68_method_64_code (1 : Nat) (Option.some (Jvm.ClassFile.FieldType.array Jvm.ClassFile.FieldType.byte)), Jvm.Cond.code ({ cls := "java/lang/StringBuilder", name := "length", desc := "()I" } : Jvm.MethodName) jdk_67_method_93_code (1 : Nat) (Option.some Jvm.ClassFile.FieldType.int), Jvm.Cond.code ({ cls := "java/lang/AbstractStringBuilder", name := "length", desc := "()I" } : Jvm.MethodName) jdk_68_method_6_code (1 : Nat) (Option.some Jvm.ClassFile.FieldType.int), Jvm.Cond.code ({ cls := "java/lang/AbstractStringBuilder", name := "isLatin1", desc := "()Z" } : Jvm.MethodName) jdk_68_method_68_code (1 : Nat) (Option.some Jvm.ClassFile.FieldType.boolean), Jvm.Cond.code ({ cls := "java/util/Arrays", name := "copyOfRange", desc := "([BII)[B" } : Jvm.MethodName) jdk_65_method_132_code (3 : Nat) (Option.some (Jvm.ClassFile.FieldType.array Jvm.ClassFile.FieldType.byte)), Jvm.Cond.code ({ cls := "java/util/Arrays", name := "copyOfRangeByte", desc := "([BII)[B" } : Jvm.MethodName) jdk_65_method_133_code (5 : Nat) (Option.some (Jvm.ClassFile.FieldType.array Jvm.ClassFile.FieldType.byte)), Jvm.Cond.code ({ cls := "java/util/Arrays", name := "checkLength", desc := "(II)V" } : Jvm.MethodName) jdk_65_method_131_code (2 : Nat) (Option.none : Option Jvm.ClassFile.FieldType), Jvm.Cond.code ({ cls := "java/lang/Math", name := "min", desc := "(II)I" } : Jvm.MethodName) jdk_29_method_69_code (2 : Nat) (Option.some Jvm.ClassFile.FieldType.int), Jvm.Cond.code ({ cls := "java/lang/String", name := "equals", desc := "(Ljava/lang/Object;)Z" } : Jvm.MethodName) jdk_42_method_66_code (3 : Nat) (Option.some Jvm.ClassFile.FieldType.boolean), Jvm.Cond.code ({ cls := "java/lang/StringLatin1", name := "equals", desc := "([B[B)Z" } : Jvm.MethodName) jdk_43_method_13_code (3 : Nat) (Option.some Jvm.ClassFile.FieldType.boolean), Jvm.Cond.code ({ cls := "java/lang/String", name := "charAt", desc := "(I)C" } : Jvm.MethodName) jdk_42_method_56_code (2 : Nat) (Option.some Jvm.ClassFile.FieldType.char), Jvm.Cond.code ({ cls := "java/lang/String", name := "isLatin1", desc := "()Z" } : Jvm.MethodName) jdk_42_method_154_code (1 : Nat) (Option.some Jvm.ClassFile.FieldType.boolean), Jvm.Cond.code ({ cls := "java/lang/StringLatin1", name := "charAt", desc := "([BI)C" } : Jvm.MethodName) jdk_43_method_2_code (2 : Nat) (Option.some Jvm.ClassFile.FieldType.char), Jvm.Cond.code ({ cls := "java/lang/String", name := "checkIndex", desc := "(II)V" } : Jvm.MethodName) jdk_42_method_155_code (2 : Nat) (Option.none : Option Jvm.ClassFile.FieldType), Jvm.Cond.code ({ cls := "jdk/internal/util/Preconditions", name := "checkIndex", desc := "(IILjava/util/function/BiFunction;)I" } : Jvm.MethodName) jdk_41_method_11_code (3 : Nat) (Option.some Jvm.ClassFile.FieldType.int)]
set_option maxRecDepth 65536 in
theorem codes_eq : words1.filter isCode = codes1 := rfl
theorem w_codes : ∀ c ∈ words1.filter isCode, c.before args0 about1 = true := by
  rw [codes_eq]
  intro c hc
  simp only [codes1, List.mem_cons, List.not_mem_nil, or_false] at hc
  rcases hc with rfl | rfl | rfl | rfl | rfl | rfl | rfl | rfl | rfl | rfl | rfl | rfl | rfl | rfl | rfl | rfl | rfl | rfl | rfl | rfl | rfl | rfl | rfl | rfl | rfl | rfl | rfl | rfl | rfl | rfl | rfl | rfl | rfl | rfl | rfl | rfl | rfl | rfl | rfl | rfl | rfl | rfl | rfl | rfl | rfl
  · exact w_c0
  · exact w_c1
  · exact w_c2
  · exact w_c3
  · exact w_c4
  · exact w_c5
  · exact w_c6
  · exact w_c7
  · exact w_c8
  · exact w_c9
  · exact w_c10
  · exact w_c11
  · exact w_c12
  · exact w_c13
  · exact w_c14
  · exact w_c15
  · exact w_c16
  · exact w_c17
  · exact w_c18
  · exact w_c19
  · exact w_c20
  · exact w_c21
  · exact w_c22
  · exact w_c23
  · exact w_c24
  · exact w_c25
  · exact w_c26
  · exact w_c27
  · exact w_c28
  · exact w_c29
  · exact w_c30
  · exact w_c31
  · exact w_c32
  · exact w_c33
  · exact w_c34
  · exact w_c35
  · exact w_c36
  · exact w_c37
  · exact w_c38
  · exact w_c39
  · exact w_c40
  · exact w_c41
  · exact w_c42
  · exact w_c43
  · exact w_c44
set_option maxRecDepth 65536 in
theorem w_t1 : (words1.take 24).all (fun c => isCode c || c.before args0 about1) = true := by decide +kernel
set_option maxRecDepth 65536 in
theorem w_t2 : ((words1.drop 24).take 24).all (fun c => isCode c || c.before args0 about1) = true := by decide +kernel
set_option maxRecDepth 65536 in
theorem w_t3 : (((words1.drop 24).drop 24).take 24).all (fun c => isCode c || c.before args0 about1) = true := by decide +kernel
set_option maxRecDepth 65536 in
theorem w_t4 : ((((words1.drop 24).drop 24).drop 24).take 24).all (fun c => isCode c || c.before args0 about1) = true := by decide +kernel
set_option maxRecDepth 65536 in
theorem w_t5 : (((((words1.drop 24).drop 24).drop 24).drop 24).take 24).all (fun c => isCode c || c.before args0 about1) = true := by decide +kernel
set_option maxRecDepth 65536 in
theorem w_t6 : ((((((words1.drop 24).drop 24).drop 24).drop 24).drop 24).take 24).all (fun c => isCode c || c.before args0 about1) = true := by decide +kernel
set_option maxRecDepth 65536 in
theorem w_t7 : (((((((words1.drop 24).drop 24).drop 24).drop 24).drop 24).drop 24).take 24).all (fun c => isCode c || c.before args0 about1) = true := by decide +kernel
set_option maxRecDepth 65536 in
theorem w_t8 : ((((((((words1.drop 24).drop 24).drop 24).drop 24).drop 24).drop 24).drop 24).take 24).all (fun c => isCode c || c.before args0 about1) = true := by decide +kernel
set_option maxRecDepth 65536 in
theorem w_t9 : (((((((((words1.drop 24).drop 24).drop 24).drop 24).drop 24).drop 24).drop 24).drop 24).take 24).all (fun c => isCode c || c.before args0 about1) = true := by decide +kernel
set_option maxRecDepth 65536 in
theorem w_t10 : ((((((((((words1.drop 24).drop 24).drop 24).drop 24).drop 24).drop 24).drop 24).drop 24).drop 24).take 24).all (fun c => isCode c || c.before args0 about1) = true := by decide +kernel
set_option maxRecDepth 65536 in
theorem w_t11 : ((((((((((words1.drop 24).drop 24).drop 24).drop 24).drop 24).drop 24).drop 24).drop 24).drop 24).drop 24).all (fun c => isCode c || c.before args0 about1) = true := by decide +kernel
theorem w_tables : (allAtoms (Jvm.Cond.code x code maxLocals ret :: tables_1)).before args0 about1 = true := by
  rw [allAtoms_all]
  show words1.all (fun c => c.before args0 about1) = true
  refine all_split ?_ w_codes
  rw [← List.take_append_drop 24 words1, List.all_append, w_t1, ← List.take_append_drop 24 (words1.drop 24), List.all_append, w_t2, ← List.take_append_drop 24 ((words1.drop 24).drop 24), List.all_append, w_t3, ← List.take_append_drop 24 (((words1.drop 24).drop 24).drop 24), List.all_append, w_t4, ← List.take_append_drop 24 ((((words1.drop 24).drop 24).drop 24).drop 24), List.all_append, w_t5, ← List.take_append_drop 24 (((((words1.drop 24).drop 24).drop 24).drop 24).drop 24), List.all_append, w_t6, ← List.take_append_drop 24 ((((((words1.drop 24).drop 24).drop 24).drop 24).drop 24).drop 24), List.all_append, w_t7, ← List.take_append_drop 24 (((((((words1.drop 24).drop 24).drop 24).drop 24).drop 24).drop 24).drop 24), List.all_append, w_t8, ← List.take_append_drop 24 ((((((((words1.drop 24).drop 24).drop 24).drop 24).drop 24).drop 24).drop 24).drop 24), List.all_append, w_t9, ← List.take_append_drop 24 (((((((((words1.drop 24).drop 24).drop 24).drop 24).drop 24).drop 24).drop 24).drop 24).drop 24), List.all_append, w_t10, w_t11]
  rfl
set_option maxRecDepth 65536 in
theorem w_rest : rest_1_c.before args0 about1 = true := by decide +kernel
set_option maxRecDepth 65536 in
theorem w_case : (Jvm.Cond.and given_1 narrow_1).before args0 about1 = true := by decide +kernel
set_option maxRecDepth 65536 in
theorem w_consts : constsHeld consts_1 about1 := Jvm.Lit.constsHeldB_iff.mp (by decide +kernel)
theorem w_applies : (headSpec (Jvm.Cond.code x code maxLocals ret :: tables_1) room_1).applies x e0.platform about1 = true :=
  (Spec.applies_iff w_frames).mpr ⟨w_running, w_runnable, w_alone, w_named, w_hears, w_ripe, w_room, w_tables⟩
theorem atStart : AtStart classFile x code maxLocals ret World_1 tables_1 room_1 Calls_1 rest_1 Pre_1 launch0 p0 e0 about1 theMethod args0 below0 :=
  ⟨lists_1, trivial, launch0.admits_env _ _ _, launch0.least_env, fairChoices_fair.cas, fairChoices_fair.clock, w_frames, w_args, w_heap, w_applies, ⟨w_consts, trivial⟩, w_rest, w_case⟩
end start1
theorem witness_1 : WitnessClaimed_1 := ⟨start1.p0, start1.e0, start1.about1, start1.theMethod, start1.args0, start1.below0, start1.atStart⟩
end Jvm.Pilot.@@N@@
