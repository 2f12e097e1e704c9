import JvmDerived
import JvmDerived.Pilot.@@N@@Statement
import JvmDerived.Pilot.@@N@@Code
set_option linter.unusedVariables false
set_option linter.unusedSimpArgs false
namespace Jvm.RoadKit
open Sem ClassFile Op Lib Jvm.Stand Jvm.Free Jvm.LawKit
section OwnGo
variable {p : Program} {l : Launch} {e : Env} {R : Room} {s : State} {m : MethodId} {args : Array Value} {below : List Frame} {meth : Method} {c : Code} {T : State} {locs : List Loc} {cells slots : Nat} {Z : State} {a0 : Array Value} {h : Heap} {kc ks : Nat} {Q : Option Value → Heap → List Loc → Prop} {G : Outcome → State → Prop} {U U' : State}
/-- from U the walk ends, and G says how -/
def OGo (p : Program) (e : Env) (below : List Frame) (G : Outcome → State → Prop) (U : State) : Prop :=
  ∃ s₂ o, Steps p.tables e below U s₂ ∧ s₂.status = .running ∧ Ended s₂ below o ∧ G o s₂
/-- it returned, Q says what, and the frame is kept -/
def OEnd (s : State) (kc ks : Nat) (Q : Option Value → Heap → List Loc → Prop) (o : Outcome) (t : State) : Prop := ∃ v L, o = .returned v ∧ Q v t.heap L ∧ FrameEnd s o t L kc ks
/-- the same where a String constant may have come to be interned -/
def OEndW (s : State) (kc ks : Nat) (Q : Option Value → Heap → List Loc → Prop) (o : Outcome) (t : State) : Prop := ∃ v L, o = .returned v ∧ Q v t.heap L ∧ ReturnedEndW s o t L kc ks
theorem OGo.go (f : ∀ t, Steps p.tables e below U' t → Steps p.tables e below U t) (k : OGo p e below G U') : OGo p e below G U := by
  obtain ⟨s₂, o, h1, h2⟩ := k
  exact ⟨s₂, o, f _ h1, h2⟩
theorem OGo.trans (f : Steps p.tables e below U U') (k : OGo p e below G U') : OGo p e below G U := OGo.go (fun _ r => f.trans r) k
/-- two roads that meet again, in a state that differs in one value -/
theorem OGo.ite1 {α : Type} {P : Prop} [Decidable P] (f : α → State) {x y : α} (h1 : P → OGo p e below G (f x) → OGo p e below G U) (h2 : ¬ P → OGo p e below G (f y) → OGo p e below G U) (k : ∀ z, z = (if P then x else y) → OGo p e below G (f z)) : OGo p e below G U := by
  by_cases q : P
  · exact h1 q (k _ (if_pos q).symm)
  · exact h2 q (k _ (if_neg q).symm)
theorem OGo.ite2 {α β : Type} {P : Prop} [Decidable P] (f : α → β → State) {x y : α} {x' y' : β} (h1 : P → OGo p e below G (f x x') → OGo p e below G U) (h2 : ¬ P → OGo p e below G (f y y') → OGo p e below G U) (k : ∀ z z', z = (if P then x else y) → z' = (if P then x' else y') → OGo p e below G (f z z')) : OGo p e below G U := by
  by_cases q : P
  · exact h1 q (k _ _ (if_pos q).symm (if_pos q).symm)
  · exact h2 q (k _ _ (if_neg q).symm (if_neg q).symm)
theorem OGo.cut {H : Prop} (V : State) (k1 : (H → OGo p e below G V) → OGo p e below G U) (k2 : H → OGo p e below G V) : OGo p e below G U := k1 k2
theorem OGo.cut2 {α : Type} {H : α → Prop} (V : α → State) (k1 : (∀ a, H a → OGo p e below G (V a)) → OGo p e below G U) (k2 : ∀ a, H a → OGo p e below G (V a)) : OGo p e below G U := k1 k2
theorem OGo.nm {α : Type} (f : α → State) {x : α} (k : ∀ z, z = x → OGo p e below G (f z)) : OGo p e below G (f x) := k x rfl
/-- the end of the walk -/
theorem OGo.ret (X : Stand p l e R s m args below meth c T locs cells slots) {v : Option Value} {g : JFrame} (hv : meth.sig.returnType = none → v = none) (hlk : meth.locks = false)
    (hs : ∀ fs, (∀ (f : JFrame) (acts : List Action), f.method = m → f.locked = none → f.entered = [] → (doReturn e (T.setTop f) acts v).1 = T.setFrames fs) → Steps p.tables e below (T.setTop g) (T.setFrames fs))
    (hQ : Q v T.heap locs) (hc : cells ≤ kc) (hl : slots ≤ ks) : OGo p e below (OEnd s kc ks Q) (T.setTop g) := by
  obtain ⟨fs, hr, hrun, hended, hW, hsame⟩ := X.leave (v := v) hv hlk
  exact ⟨_, _, hs fs hr, hrun, hended, v, locs, rfl, hQ, ⟨_, rfl⟩, hW, hsame.mono hc hl⟩
/-- return of a boolean, byte, char, short -/
theorem OGo.retN (X : Stand p l e R s m args below meth c T locs cells slots) (hx : p.tables.exec = Jvm.exec) {pc : Nat} {Ls : Array Slot} {z : Int32} {t : FieldType} {rest : List Value} (hret : meth.sig.returnType = some t) (hlk : meth.locks = false) (ht : t = .boolean ∨ t = .byte ∨ t = .char ∨ t = .short)
    (hd : decode c.code pc = .ok (.ireturn, 1)) (hQ : Q (some (.int (nar t z))) T.heap locs) (hc : cells ≤ kc) (hl : slots ≤ ks) : OGo p e below (OEnd s kc ks Q) (T.setTop (mkF m pc Ls (.int z :: rest))) :=
  OGo.ret X (fun q => by rw [hret] at q; cases q) hlk (fun fs hr => Jvm.RoadKit.retN X hx hret ht hd hr) hQ hc hl
/-- return of an int, a long, a double, a reference -/
theorem OGo.retV (X : Stand p l e R s m args below meth c T locs cells slots) (hx : p.tables.exec = Jvm.exec) {pc : Nat} {Ls : Array Slot} {w : Value} {t : FieldType} {i : Instr} {rest : List Value} (hret : meth.sig.returnType = some t) (hlk : meth.locks = false) (hn : narrow t w = w)
    (hi : (i = .ireturn ∧ (t = .int ∨ t = .boolean ∨ t = .byte ∨ t = .char ∨ t = .short) ∧ ∃ z, w = .int z) ∨ (i = .lreturn ∧ t = .long ∧ ∃ z, w = .long z) ∨ (i = .dreturn ∧ t = .double ∧ ∃ z, w = .double z) ∨ (i = .freturn ∧ t = .float ∧ ∃ z, w = .float z) ∨ (i = .areturn ∧ t.isReference = true ∧ w.isRef = true))
    (hd : decode c.code pc = .ok (i, 1)) (hQ : Q (some w) T.heap locs) (hc : cells ≤ kc) (hl : slots ≤ ks) : OGo p e below (OEnd s kc ks Q) (T.setTop (mkF m pc Ls (w :: rest))) :=
  OGo.ret X (fun q => by rw [hret] at q; cases q) hlk (fun fs hr => Jvm.RoadKit.retOut X hx hret hn hi hd hr) hQ hc hl
theorem OGo.retI (X : Stand p l e R s m args below meth c T locs cells slots) (hx : p.tables.exec = Jvm.exec) {pc : Nat} {Ls : Array Slot} {z : Int32} {rest : List Value} (hret : meth.sig.returnType = some .int) (hlk : meth.locks = false)
    (hd : decode c.code pc = .ok (.ireturn, 1)) (hQ : Q (some (.int z)) T.heap locs) (hc : cells ≤ kc) (hl : slots ≤ ks) : OGo p e below (OEnd s kc ks Q) (T.setTop (mkF m pc Ls (.int z :: rest))) :=
  OGo.retV X hx hret hlk rfl (Or.inl ⟨rfl, Or.inl rfl, z, rfl⟩) hd hQ hc hl
theorem OGo.retJ (X : Stand p l e R s m args below meth c T locs cells slots) (hx : p.tables.exec = Jvm.exec) {pc : Nat} {Ls : Array Slot} {z : Int64} {rest : List Value} (hret : meth.sig.returnType = some .long) (hlk : meth.locks = false)
    (hd : decode c.code pc = .ok (.lreturn, 1)) (hQ : Q (some (.long z)) T.heap locs) (hc : cells ≤ kc) (hl : slots ≤ ks) : OGo p e below (OEnd s kc ks Q) (T.setTop (mkF m pc Ls (.long z :: rest))) :=
  OGo.retV X hx hret hlk rfl (Or.inr (Or.inl ⟨rfl, rfl, z, rfl⟩)) hd hQ hc hl
theorem OGo.retD (X : Stand p l e R s m args below meth c T locs cells slots) (hx : p.tables.exec = Jvm.exec) {pc : Nat} {Ls : Array Slot} {z : UInt64} {rest : List Value} (hret : meth.sig.returnType = some .double) (hlk : meth.locks = false)
    (hd : decode c.code pc = .ok (.dreturn, 1)) (hQ : Q (some (.double z)) T.heap locs) (hc : cells ≤ kc) (hl : slots ≤ ks) : OGo p e below (OEnd s kc ks Q) (T.setTop (mkF m pc Ls (.double z :: rest))) :=
  OGo.retV X hx hret hlk rfl (Or.inr (Or.inr (Or.inl ⟨rfl, rfl, z, rfl⟩))) hd hQ hc hl
theorem OGo.retA (X : Stand p l e R s m args below meth c T locs cells slots) (hx : p.tables.exec = Jvm.exec) {pc : Nat} {Ls : Array Slot} {w : Value} {t : FieldType} {rest : List Value} (hret : meth.sig.returnType = some t) (hlk : meth.locks = false) (ht : t.isReference = true) (hw : w.isRef = true)
    (hd : decode c.code pc = .ok (.areturn, 1)) (hQ : Q (some w) T.heap locs) (hc : cells ≤ kc) (hl : slots ≤ ks) : OGo p e below (OEnd s kc ks Q) (T.setTop (mkF m pc Ls (w :: rest))) :=
  OGo.retV X hx hret hlk (by cases t <;> first | (cases ht; done) | (cases w <;> first | rfl | (cases hw; done))) (Or.inr (Or.inr (Or.inr (Or.inr ⟨rfl, ht, hw⟩)))) hd hQ hc hl
theorem OGo.ret0 (X : Stand p l e R s m args below meth c T locs cells slots) (hx : p.tables.exec = Jvm.exec) {pc : Nat} {Ls : Array Slot} (hret : meth.sig.returnType = none) (hlk : meth.locks = false)
    (hd : decode c.code pc = .ok (.return_, 1)) (hQ : Q none T.heap locs) (hc : cells ≤ kc) (hl : slots ≤ ks) : OGo p e below (OEnd s kc ks Q) (T.setTop (mkF m pc Ls [])) :=
  OGo.ret X (fun _ => rfl) hlk (fun fs hr => X.returnOut hx hret hd hr) hQ hc hl
/-- the end of the walk where a String constant may have come to be interned -/
theorem OGo.retW {vm₁ : Vm} {n : Nat} (X : Stand p l e R (s.setVm vm₁) m args below meth c T locs cells slots) (hS : s.Since vm₁ n) (hn : n ≤ T.heap.size) {v : Option Value} {g : JFrame} (hv : meth.sig.returnType = none → v = none) (hlk : meth.locks = false)
    (hs : ∀ fs, (∀ (f : JFrame) (acts : List Action), f.method = m → f.locked = none → f.entered = [] → (doReturn e (T.setTop f) acts v).1 = T.setFrames fs) → Steps p.tables e below (T.setTop g) (T.setFrames fs))
    (hQ : Q v T.heap locs) (hc : cells ≤ kc) (hl : slots ≤ ks) : OGo p e below (OEndW s kc ks Q) (T.setTop g) := by
  obtain ⟨fs, hr, hrun, hended, h1, h2, h3, h4⟩ := X.leaveW hS hn (v := v) hv hlk
  exact ⟨_, _, hs fs hr, hrun, hended, v, locs, rfl, hQ, h1, h2, h3, h4.mono hc hl⟩
theorem OGo.retNW {vm₁ : Vm} {n : Nat} (X : Stand p l e R (s.setVm vm₁) m args below meth c T locs cells slots) (hS : s.Since vm₁ n) (hn : n ≤ T.heap.size) (hx : p.tables.exec = Jvm.exec) {pc : Nat} {Ls : Array Slot} {z : Int32} {t : FieldType} {rest : List Value} (hret : meth.sig.returnType = some t) (hlk : meth.locks = false) (ht : t = .boolean ∨ t = .byte ∨ t = .char ∨ t = .short)
    (hd : decode c.code pc = .ok (.ireturn, 1)) (hQ : Q (some (.int (nar t z))) T.heap locs) (hc : cells ≤ kc) (hl : slots ≤ ks) : OGo p e below (OEndW s kc ks Q) (T.setTop (mkF m pc Ls (.int z :: rest))) :=
  OGo.retW X hS hn (fun q => by rw [hret] at q; cases q) hlk (fun fs hr => Jvm.RoadKit.retN X hx hret ht hd hr) hQ hc hl
/-- a body's contract: called with 'as' at a heap h0, it returns, and Q says what it left -/
def OMet (l : Launch) (Z : State) (y : MethodName) (bytes : ByteArray) (maxL : Nat) (ret : Option FieldType) (ws : List Jvm.Cond) (rm : Room) (as : Array Value) (h0 : Heap) (Q : Option Value → Heap → List Loc → Prop) : Prop :=
  MetFree l y (head1 (Jvm.Cond.code y bytes maxL ret :: ws) rm) (fun a U => a = as ∧ Z.Warmed39 U.vm ∧ U.heap = h0) (fun _ _ _ _ _ => True) (fun _ U o U' => ∃ v L, o = .returned v ∧ Q v U'.heap L ∧ FrameEnd U o U' L rm.cells rm.slots)
theorem OMet.of {y : MethodName} {bytes : ByteArray} {maxL : Nat} {ret : Option FieldType} {ws : List Jvm.Cond} {rm : Room} {as : Array Value} {h0 : Heap} (hpn : plainFor y = true)
    (H : ∀ (p : Program) (e : Env) (s : State) (m : MethodId) (below : List Frame) (meth : Method) (c : Code) (T0 : State), Stand p l e rm s m as below meth c T0 [] 0 0 → p.tables.exec = Jvm.exec → c.code = bytes → c.maxLocals = maxL → s.vm.findClass y.cls = some m.cls → meth.name = y.name → meth.sig.returnType = ret → meth.locks = false → Z.Warmed39 s.vm → T0.heap = h0 →
      OGo p e below (OEnd s rm.cells rm.slots Q) (T0.setTop (entryFrame m as maxL))) : OMet l Z y bytes maxL ret ws rm as h0 Q := by
  refine MetFree.of_bodySF hpn hisR ?_
  intro p e s m args below meth c s₁ Bd hml0 hP hK
  obtain ⟨rfl, hZ, hh⟩ := hP
  exact H p e s m below meth c s₁ (Stand.of_body Bd) Bd.exec Bd.bytes hml0 (findClass_of_methodNamed Bd.named) (name_of_methodNamed Bd.named Bd.method).1 Bd.returns Bd.notSynchronized hZ (by rw [← hh, Bd.state]; rfl)
def OMetW (l : Launch) (Z : State) (y : MethodName) (bytes : ByteArray) (maxL : Nat) (ret : Option FieldType) (ws : List Jvm.Cond) (rm : Room) (as : Array Value) (h0 : Heap) (Q : Option Value → Heap → List Loc → Prop) : Prop :=
  MetFree l y (head1 (Jvm.Cond.code y bytes maxL ret :: ws) rm) (fun a U => a = as ∧ Z.Warmed39 U.vm ∧ U.heap = h0) (fun _ _ _ _ _ => True) (fun _ U o U' => ∃ v L, o = .returned v ∧ Q v U'.heap L ∧ ReturnedEndW U o U' L rm.cells rm.slots)
theorem OMetW.of {y : MethodName} {bytes : ByteArray} {maxL : Nat} {ret : Option FieldType} {ws : List Jvm.Cond} {rm : Room} {as : Array Value} {h0 : Heap} (hpn : plainFor y = true)
    (H : ∀ (p : Program) (e : Env) (s : State) (m : MethodId) (below : List Frame) (meth : Method) (c : Code) (T0 : State), Stand p l e rm s m as below meth c T0 [] 0 0 → p.tables.exec = Jvm.exec → c.code = bytes → c.maxLocals = maxL → s.vm.findClass y.cls = some m.cls → meth.name = y.name → meth.sig.returnType = ret → meth.locks = false → Z.Warmed39 s.vm → T0.heap = h0 →
      OGo p e below (OEndW s rm.cells rm.slots Q) (T0.setTop (entryFrame m as maxL))) : OMetW l Z y bytes maxL ret ws rm as h0 Q := by
  refine MetFree.of_bodySF hpn hisR ?_
  intro p e s m args below meth c s₁ Bd hml0 hP hK
  obtain ⟨rfl, hZ, hh⟩ := hP
  exact H p e s m below meth c s₁ (Stand.of_body Bd) Bd.exec Bd.bytes hml0 (findClass_of_methodNamed Bd.named) (name_of_methodNamed Bd.named Bd.method).1 Bd.returns Bd.notSynchronized hZ (by rw [← hh, Bd.state]; rfl)
/-- a call of a static method -/
theorem OGo.callS (X : Stand p l e R s m args below meth c T locs cells slots) (hx : p.tables.exec = Jvm.exec) (hZ : Z.Warmed39 s.vm) {own : String} {index : Nat} {y : MethodName} {bytes : ByteArray} {maxL : Nat} {ret : Option FieldType}
    (hown : s.vm.findClass own = some m.cls) (w1 : (Jvm.Cond.methodLink own index y).before a0 Z = true) (w2 : (Jvm.Cond.static y).before a0 Z = true) (w3 : (Jvm.Cond.initialized y.cls).before a0 Z = true) (w4 : (Jvm.Cond.code y bytes maxL ret).before a0 Z = true)
    (hy : y.cls ≠ "java/lang/invoke/MethodHandle" ∧ y.cls ≠ "java/lang/invoke/VarHandle") {g : JFrame} {argsL rest : List Value} {rm : Room} {Q' : Option Value → Heap → List Loc → Prop} (eT : T.heap = h) (hM : OMet l Z y bytes maxL ret [] rm argsL.toArray h Q')
    (hg : g.method = m) (hsize : g.locals.size = c.maxLocals) (hlen : ∀ sig, parseMethodDescriptor y.desc = some sig → argsL.length = sig.parameters.length) (hstack : g.stack = argsL.reverse ++ rest) {W : Nat} (hW : 2 * g.monitorRoom + (rest.map fun v => v.category).sum ≤ W) (hd : decode c.code g.pc = .ok (.invokestatic index, 3))
    (hf : rm.frames + 1 ≤ R.frames) (hl : W + (maxL + 11) + rm.locals ≤ R.locals) (hc : cells + rm.cells ≤ R.cells) (hs : slots + rm.slots ≤ R.slots)
    (k : ∀ (v : Option Value) (T' : State) (L' : List Loc), Stand p l e R s m args below meth c T' (locs ++ L') (cells + rm.cells) (slots + rm.slots) → Q' v T'.heap L' → OGo p e below G (T'.setTop { g with pc := g.pc + 3, stack := v.toList ++ rest })) : OGo p e below G (T.setTop g) := by
  obtain ⟨v, vm₁, B, hW₁, X', ⟨L, hQ, e1, e2, e3⟩, st⟩ := Jvm.LawKit.callS X hx (y := y) hown (mvT hZ w1) (mvT hZ w2) (mvT hZ w3) (mvT hZ w4) hy (backOf (W := W) hM hZ w4 w3 hf hl) (g := g) hg hsize (argsL := argsL) (rest := rest) hlen hstack hW hd (fun _ _ => ⟨rfl, eT, hc, hs⟩)
  rw [e1, e2, e3] at X'
  exact OGo.go st (k v B.U L X' hQ)
/-- a call of a constructor -/
theorem OGo.callI (X : Stand p l e R s m args below meth c T locs cells slots) (hx : p.tables.exec = Jvm.exec) (hZ : Z.Warmed39 s.vm) {own : String} {index : Nat} {y : MethodName} {bytes : ByteArray} {maxL : Nat} (hy1 : y.name = "<init>")
    (hown : s.vm.findClass own = some m.cls) (w1 : (Jvm.Cond.methodLink own index y).before a0 Z = true) (w2 : (Jvm.Cond.instanceMethod y).before a0 Z = true) (w3 : (Jvm.Cond.initialized y.cls).before a0 Z = true) (w4 : (Jvm.Cond.code y bytes maxL none).before a0 Z = true)
    (hy : y.cls ≠ "java/lang/invoke/MethodHandle" ∧ y.cls ≠ "java/lang/invoke/VarHandle") {g : JFrame} {a : Addr} {argsL rest : List Value} {rm : Room} {Q' : Option Value → Heap → List Loc → Prop} (eT : T.heap = h) (hM : OMet l Z y bytes maxL none [] rm (.ref a :: argsL).toArray h Q')
    (hg : g.method = m) (hsize : g.locals.size = c.maxLocals) (hlen : ∀ sig, parseMethodDescriptor y.desc = some sig → argsL.length = sig.parameters.length) (hstack : g.stack = argsL.reverse ++ .ref a :: rest) {W : Nat} (hW : 2 * g.monitorRoom + (rest.map fun v => v.category).sum ≤ W) (hd : decode c.code g.pc = .ok (.invokespecial index, 3))
    (hf : rm.frames + 1 ≤ R.frames) (hl : W + (maxL + 11) + rm.locals ≤ R.locals) (hc : cells + rm.cells ≤ R.cells) (hs : slots + rm.slots ≤ R.slots)
    (k : ∀ (v : Option Value) (T' : State) (L' : List Loc), Stand p l e R s m args below meth c T' (locs ++ L') (cells + rm.cells) (slots + rm.slots) → Q' v T'.heap L' → OGo p e below G (T'.setTop { g with pc := g.pc + 3, stack := v.toList ++ rest })) : OGo p e below G (T.setTop g) := by
  obtain ⟨v, vm₁, B, hW₁, X', ⟨L, hQ, e1, e2, e3⟩, st⟩ := X.specialBack hx (y := y) hy1 hown (mvT hZ w1) (mvT hZ w2) (mvT hZ w4) hy (backOf (W := W) hM hZ w4 w3 hf hl) (g := g) hg hsize (Steps.refl _) (a := a) (argsL := argsL) (rest := rest) hlen hstack hW hd (fun _ _ => ⟨rfl, eT, hc, hs⟩)
  rw [e1, e2, e3] at X'
  exact OGo.trans st (k v B.U L X' hQ)
/-- a call of an instance method -/
theorem OGo.callV (X : Stand p l e R s m args below meth c T locs cells slots) (hx : p.tables.exec = Jvm.exec) (hZ : Z.Warmed39 s.vm) {own C : String} {index : Nat} {y : MethodName} {bytes : ByteArray} {maxL : Nat} {ret : Option FieldType}
    (hown : s.vm.findClass own = some m.cls) (w1 : (Jvm.Cond.methodLink own index y).before a0 Z = true) (w5 : (Jvm.Cond.declares y).before a0 Z = true) (w6 : (Jvm.Cond.selects C y y).before a0 Z = true) (w2 : (Jvm.Cond.instanceMethod y).before a0 Z = true) (w3 : (Jvm.Cond.initialized y.cls).before a0 Z = true) (w4 : (Jvm.Cond.code y bytes maxL ret).before a0 Z = true)
    (hy : y.cls ≠ "java/lang/invoke/MethodHandle" ∧ y.cls ≠ "java/lang/invoke/VarHandle") {g : JFrame} {a : Addr} {argsL rest : List Value} {rm : Room} {Q' : Option Value → Heap → List Loc → Prop} (eT : T.heap = h) (E : Exa Z h a C) (hM : OMet l Z y bytes maxL ret [] rm (.ref a :: argsL).toArray h Q')
    (hg : g.method = m) (hsize : g.locals.size = c.maxLocals) (hlen : ∀ sig, parseMethodDescriptor y.desc = some sig → argsL.length = sig.parameters.length) (hstack : g.stack = argsL.reverse ++ .ref a :: rest) {W : Nat} (hW : 2 * g.monitorRoom + (rest.map fun v => v.category).sum ≤ W) (hd : decode c.code g.pc = .ok (.invokevirtual index, 3))
    (hf : rm.frames + 1 ≤ R.frames) (hl : W + (maxL + 11) + rm.locals ≤ R.locals) (hc : cells + rm.cells ≤ R.cells) (hs : slots + rm.slots ≤ R.slots)
    (k : ∀ (v : Option Value) (T' : State) (L' : List Loc), Stand p l e R s m args below meth c T' (locs ++ L') (cells + rm.cells) (slots + rm.slots) → Q' v T'.heap L' → OGo p e below G (T'.setTop { g with pc := g.pc + 3, stack := v.toList ++ rest })) : OGo p e below G (T.setTop g) := by
  obtain ⟨cB, kB, q1, q2, q3⟩ := isOf hZ eT E
  obtain ⟨v, vm₁, B, hW₁, X', ⟨L, hQ, e1, e2, e3⟩, st⟩ := X.virtualBack hx (y := y) (z := y) hown (mvT hZ w1) (mvT hZ w5) (notFace_of_selects (args := #[]) (mvT hZ w6)) (mvT hZ w6) (mvT hZ w2) hy (backOf (W := W) hM hZ w4 w3 hf hl) q1 q3 (g := g) hg hsize (Steps.refl _) (argsL := argsL) (rest := rest) hlen hstack hW hd (fun _ _ => ⟨rfl, eT, hc, hs⟩)
  rw [e1, e2, e3] at X'
  exact OGo.trans st (k v B.U L X' hQ)
/-- what a contract says that leaves the heap as it was -/
def OPure (w : Option Value) (h0 : Heap) (v : Option Value) (h : Heap) (L : List Loc) : Prop := v = w ∧ h = h0 ∧ L = []
/-- a static that a sheet says to hold an object of just this class -/
theorem own_enum {s : State} {args : Array Value} {C n d K : String} (hx : (Jvm.Cond.exactly (.static C n d) K).value args s none s [] = some true) (w1 : (Jvm.Cond.initialized C).before args s = true) (w2 : (Jvm.Cond.laysStatic C n d).before args s = true) :
    ∃ a, (Term.static C n d).eval args s none [] s = some (.ref a) ∧ Sta s s.heap C n d (.ref a) ∧ Exa s s.heap a K := by
  obtain ⟨a, ev⟩ := exa_v hx
  exact ⟨a, ev, Sta.start ev (Or.inr ⟨w1, w2⟩), Exa.start ev hx⟩
theorem own_efld {s : State} {args : Array Value} {t : Term} {C n d : String} {a : Addr} {k : Int32} (ev : t.eval args s none [] s = some (.ref a)) (h : (Jvm.Cond.eq (.field t C n d) (.int k)).value args s none s [] = some true) : Fld s s.heap a C n d (.int k) := by
  obtain ⟨x, y, h1, h2, h3, h4⟩ := cmp_v (Or.inl h)
  have h2' : y = .int k := (Option.some.inj h2).symm
  subst h2'
  obtain ⟨z, rfl⟩ := h4
  have q : (Jvm.Cond.eq (.field t C n d) (.int k)).value args s none s [] = some (decide (z = k)) := by simp [Cond.value, h1, h2]
  have e := gotT q h
  subst e
  exact Fld.start ((fld_at ev).symm.trans h1)
theorem own_sta_keep {h' : Heap} {C n d : String} {v : Value} {ws : List Addr} (F : Sta Z h C n d v) (K : Keep h h' ws) (q : ∀ x ∈ ws, ∀ cell : Cell, h[x]? = some cell → cell.vm.isStatics = false) : Sta Z h' C n d v := by
  obtain ⟨cf, i, k, f, st, cell, h1, h2, h3, h4, h5, h6, h7⟩ := F
  exact ⟨cf, i, k, f, st, cell, h1, h2, h3, h4, K.2.1 _ _ h5 (fun r => by rw [q _ r _ h5] at h6; cases h6), h6, h7⟩
theorem own_plain {a : Addr} {C : String} (F : Exa Z h a C) : ∀ cell : Cell, h[a]? = some cell → cell.vm.isStatics = false := fun cell hc => by
  obtain ⟨c', k, h1, h2, h3, h4, h5⟩ := F
  cases h1.symm.trans hc
  exact h4
theorem nar_b0 : nar .boolean 0 = 0 := by decide
theorem nar_b1 : nar .boolean 1 = 1 := by decide
theorem nar_bite {P : Prop} [Decidable P] {x y : Int32} : nar .boolean (if P then x else y) = if P then nar .boolean x else nar .boolean y := by split <;> rfl
end OwnGo
end Jvm.RoadKit
namespace Jvm.Pilot.@@N@@
open Jvm Jvm.ClassFile Sem Op Lib Jvm.Free Jvm.Stand Jvm.LawKit Jvm.RoadKit Bundle Jvm.Pilot.@@N@@.Jvm.D
theorem pd_0 : parseMethodDescriptor "(I)Lcom/example/farcall/farcall/model/ReplyStatus;" = some ⟨[.int], some (.object "com/example/farcall/farcall/model/ReplyStatus")⟩ := by decide +kernel
theorem pd_1 : parseMethodDescriptor "()Z" = some ⟨[], some .boolean⟩ := by decide +kernel
theorem pd_2 : parseMethodDescriptor "()I" = some ⟨[], some .int⟩ := by decide +kernel
def OEnum (Z : State) (h : Heap) (r0 r1 r2 r3 r4 r5 r6 r7 : Addr) : Prop :=
  Sta Z h "com/example/farcall/farcall/model/ReplyStatus" "SUCCESS" "Lcom/example/farcall/farcall/model/ReplyStatus;" (.ref r0) ∧
  Exa Z h r0 "com/example/farcall/farcall/model/ReplyStatus" ∧
  Fld Z h r0 "com/example/farcall/farcall/model/ReplyStatus" "code" "I" (.int 0) ∧
  Fld Z h r0 "com/example/farcall/farcall/model/ReplyStatus" "accepted" "Z" (.int 1) ∧
  Sta Z h "com/example/farcall/farcall/model/ReplyStatus" "PROG_UNAVAIL" "Lcom/example/farcall/farcall/model/ReplyStatus;" (.ref r1) ∧
  Exa Z h r1 "com/example/farcall/farcall/model/ReplyStatus" ∧
  Fld Z h r1 "com/example/farcall/farcall/model/ReplyStatus" "code" "I" (.int 1) ∧
  Fld Z h r1 "com/example/farcall/farcall/model/ReplyStatus" "accepted" "Z" (.int 1) ∧
  Sta Z h "com/example/farcall/farcall/model/ReplyStatus" "PROG_MISMATCH" "Lcom/example/farcall/farcall/model/ReplyStatus;" (.ref r2) ∧
  Exa Z h r2 "com/example/farcall/farcall/model/ReplyStatus" ∧
  Fld Z h r2 "com/example/farcall/farcall/model/ReplyStatus" "code" "I" (.int 2) ∧
  Fld Z h r2 "com/example/farcall/farcall/model/ReplyStatus" "accepted" "Z" (.int 1) ∧
  Sta Z h "com/example/farcall/farcall/model/ReplyStatus" "PROC_UNAVAIL" "Lcom/example/farcall/farcall/model/ReplyStatus;" (.ref r3) ∧
  Exa Z h r3 "com/example/farcall/farcall/model/ReplyStatus" ∧
  Fld Z h r3 "com/example/farcall/farcall/model/ReplyStatus" "code" "I" (.int 3) ∧
  Fld Z h r3 "com/example/farcall/farcall/model/ReplyStatus" "accepted" "Z" (.int 1) ∧
  Sta Z h "com/example/farcall/farcall/model/ReplyStatus" "GARBAGE_ARGS" "Lcom/example/farcall/farcall/model/ReplyStatus;" (.ref r4) ∧
  Exa Z h r4 "com/example/farcall/farcall/model/ReplyStatus" ∧
  Fld Z h r4 "com/example/farcall/farcall/model/ReplyStatus" "code" "I" (.int 4) ∧
  Fld Z h r4 "com/example/farcall/farcall/model/ReplyStatus" "accepted" "Z" (.int 1) ∧
  Sta Z h "com/example/farcall/farcall/model/ReplyStatus" "SYSTEM_ERR" "Lcom/example/farcall/farcall/model/ReplyStatus;" (.ref r5) ∧
  Exa Z h r5 "com/example/farcall/farcall/model/ReplyStatus" ∧
  Fld Z h r5 "com/example/farcall/farcall/model/ReplyStatus" "code" "I" (.int 5) ∧
  Fld Z h r5 "com/example/farcall/farcall/model/ReplyStatus" "accepted" "Z" (.int 1) ∧
  Sta Z h "com/example/farcall/farcall/model/ReplyStatus" "RPC_MISMATCH" "Lcom/example/farcall/farcall/model/ReplyStatus;" (.ref r6) ∧
  Exa Z h r6 "com/example/farcall/farcall/model/ReplyStatus" ∧
  Fld Z h r6 "com/example/farcall/farcall/model/ReplyStatus" "code" "I" (.int 0) ∧
  Fld Z h r6 "com/example/farcall/farcall/model/ReplyStatus" "accepted" "Z" (.int 0) ∧
  Sta Z h "com/example/farcall/farcall/model/ReplyStatus" "AUTH_ERROR" "Lcom/example/farcall/farcall/model/ReplyStatus;" (.ref r7) ∧
  Exa Z h r7 "com/example/farcall/farcall/model/ReplyStatus" ∧
  Fld Z h r7 "com/example/farcall/farcall/model/ReplyStatus" "code" "I" (.int 1) ∧
  Fld Z h r7 "com/example/farcall/farcall/model/ReplyStatus" "accepted" "Z" (.int 0) ∧
  r0 ≠ r2 ∧
  r1 ≠ r2 ∧
  r3 ≠ r2 ∧
  r4 ≠ r2 ∧
  r5 ≠ r2 ∧
  r6 ≠ r2 ∧
  r7 ≠ r2 ∧
  r0 ≠ r6 ∧
  r1 ≠ r6 ∧
  r2 ≠ r6 ∧
  r3 ≠ r6 ∧
  r4 ≠ r6 ∧
  r5 ≠ r6 ∧
  r7 ≠ r6
def CD (i : Int32) : Int32 := if i = 0 then 0 else if i = 1 then 1 else if i = 2 then 2 else if i = 3 then 3 else if i = 4 then 4 else if i = 5 then 5 else if i = 6 then 0 else 1
def AC (i : Int32) : Int32 := if i = 0 then 1 else if i = 1 then 1 else if i = 2 then 1 else if i = 3 then 1 else if i = 4 then 1 else if i = 5 then 1 else if i = 6 then 0 else 0
theorem d_pick_0 : decode method_2_code 0 = .ok (.iload_n 0, 1) := by decide +kernel
theorem d_pick_1 : decode method_2_code 1 = .ok (.ifCond .ne 7, 3) := by decide +kernel
theorem d_pick_4 : decode method_2_code 4 = .ok (.getstatic 7, 3) := by decide +kernel
theorem d_pick_7 : decode method_2_code 7 = .ok (.areturn, 1) := by decide +kernel
theorem d_pick_8 : decode method_2_code 8 = .ok (.iload_n 0, 1) := by decide +kernel
theorem d_pick_9 : decode method_2_code 9 = .ok (.iconst 1, 1) := by decide +kernel
theorem d_pick_10 : decode method_2_code 10 = .ok (.if_icmp .ne 7, 3) := by decide +kernel
theorem d_pick_13 : decode method_2_code 13 = .ok (.getstatic 13, 3) := by decide +kernel
theorem d_pick_16 : decode method_2_code 16 = .ok (.areturn, 1) := by decide +kernel
theorem d_pick_17 : decode method_2_code 17 = .ok (.iload_n 0, 1) := by decide +kernel
theorem d_pick_18 : decode method_2_code 18 = .ok (.iconst 2, 1) := by decide +kernel
theorem d_pick_19 : decode method_2_code 19 = .ok (.if_icmp .ne 7, 3) := by decide +kernel
theorem d_pick_22 : decode method_2_code 22 = .ok (.getstatic 16, 3) := by decide +kernel
theorem d_pick_25 : decode method_2_code 25 = .ok (.areturn, 1) := by decide +kernel
theorem d_pick_26 : decode method_2_code 26 = .ok (.iload_n 0, 1) := by decide +kernel
theorem d_pick_27 : decode method_2_code 27 = .ok (.iconst 3, 1) := by decide +kernel
theorem d_pick_28 : decode method_2_code 28 = .ok (.if_icmp .ne 7, 3) := by decide +kernel
theorem d_pick_31 : decode method_2_code 31 = .ok (.getstatic 19, 3) := by decide +kernel
theorem d_pick_34 : decode method_2_code 34 = .ok (.areturn, 1) := by decide +kernel
theorem d_pick_35 : decode method_2_code 35 = .ok (.iload_n 0, 1) := by decide +kernel
theorem d_pick_36 : decode method_2_code 36 = .ok (.iconst 4, 1) := by decide +kernel
theorem d_pick_37 : decode method_2_code 37 = .ok (.if_icmp .ne 7, 3) := by decide +kernel
theorem d_pick_40 : decode method_2_code 40 = .ok (.getstatic 22, 3) := by decide +kernel
theorem d_pick_43 : decode method_2_code 43 = .ok (.areturn, 1) := by decide +kernel
theorem d_pick_44 : decode method_2_code 44 = .ok (.iload_n 0, 1) := by decide +kernel
theorem d_pick_45 : decode method_2_code 45 = .ok (.iconst 5, 1) := by decide +kernel
theorem d_pick_46 : decode method_2_code 46 = .ok (.if_icmp .ne 7, 3) := by decide +kernel
theorem d_pick_49 : decode method_2_code 49 = .ok (.getstatic 25, 3) := by decide +kernel
theorem d_pick_52 : decode method_2_code 52 = .ok (.areturn, 1) := by decide +kernel
theorem d_pick_53 : decode method_2_code 53 = .ok (.iload_n 0, 1) := by decide +kernel
theorem d_pick_54 : decode method_2_code 54 = .ok (.bipush 6, 2) := by decide +kernel
theorem d_pick_56 : decode method_2_code 56 = .ok (.if_icmp .ne 7, 3) := by decide +kernel
theorem d_pick_59 : decode method_2_code 59 = .ok (.getstatic 28, 3) := by decide +kernel
theorem d_pick_62 : decode method_2_code 62 = .ok (.areturn, 1) := by decide +kernel
theorem d_pick_63 : decode method_2_code 63 = .ok (.getstatic 31, 3) := by decide +kernel
theorem d_pick_66 : decode method_2_code 66 = .ok (.areturn, 1) := by decide +kernel
theorem ef_pick (m : MethodId) (x0 : Int32) : entryFrame m #[(.int x0)] 1 = mkF m 0 #[.val (.int x0)] [] := by first | (simp [entryFrame, mkF, argsToLocals, Value.category]; done) | rfl
theorem pn_pick : plainFor (⟨"com/example/farcall/farcall/model/ReplyStatusCarriesVersionsPinLaw", "pick", "(I)Lcom/example/farcall/farcall/model/ReplyStatus;"⟩ : MethodName) = true := by first | exact plainFor_of_name (by first | (simp [plainName, overriddenIn]; done) | decide +kernel) | decide +kernel
set_option maxRecDepth 65536 in
set_option maxHeartbeats 40000000 in
theorem rm_pick (l : Launch) (Z : State) (a0 : Array Value) (hw : ∀ d ∈ tables_1, d.before a0 Z = true) (x0 : Int32) (r0 r1 r2 r3 r4 r5 r6 r7 : Addr) (h0 : Heap) (HE : OEnum Z h0 r0 r1 r2 r3 r4 r5 r6 r7) :
    OMet l Z (⟨"com/example/farcall/farcall/model/ReplyStatusCarriesVersionsPinLaw", "pick", "(I)Lcom/example/farcall/farcall/model/ReplyStatus;"⟩ : MethodName) method_2_code 1 (some (.object "com/example/farcall/farcall/model/ReplyStatus")) [] ({ frames := 0, cells := 0, slots := 0, locals := 0 } : Room) #[(.int x0)] h0 (fun v h L => h = h0 ∧ L = [] ∧ ∃ a : Addr, v = some (.ref a) ∧ Exa Z h0 a "com/example/farcall/farcall/model/ReplyStatus" ∧ Fld Z h0 a "com/example/farcall/farcall/model/ReplyStatus" "code" "I" (.int (CD x0)) ∧ Fld Z h0 a "com/example/farcall/farcall/model/ReplyStatus" "accepted" "Z" (.int (AC x0)) ∧ (a = r2 ↔ x0 = 2) ∧ (a = r6 ↔ x0 = 6)) := by
  refine OMet.of pn_pick ?_
  intro p e s m below meth c T0 X0 hx hby hml hown0 hnm hret hlk hZ e0
  have hown : s.vm.findClass "com/example/farcall/farcall/model/ReplyStatusCarriesVersionsPinLaw" = some m.cls := hown0
  refine OGo.go (fun t k => castTop (ef_pick m x0) k) ?_
  obtain ⟨S0, E0, Fc0, Fa0, S1, E1, Fc1, Fa1, S2, E2, Fc2, Fa2, S3, E3, Fc3, Fa3, S4, E4, Fc4, Fa4, S5, E5, Fc5, Fa5, S6, E6, Fc6, Fa6, S7, E7, Fc7, Fa7, ne0_2, ne1_2, ne3_2, ne4_2, ne5_2, ne6_2, ne7_2, ne0_6, ne1_6, ne2_6, ne3_6, ne4_6, ne5_6, ne7_6⟩ := HE
  refine OGo.go (U' := T0.setTop (mkF m 1 #[.val (.int x0)] [(.int x0)])) (fun _ k => XS.iloadN X0.here hx rfl (hb hby d_pick_0) rfl k) ?_
  by_cases hc1 : x0 = (0 : Int32)
  · skip
    refine OGo.go (U' := T0.setTop (mkF m 4 #[.val (.int x0)] [])) (fun _ k => XS.ifNo X0.here hx rfl (hb hby d_pick_1) rfl ((if0 _ _).trans (teq hc1).2) k) ?_
    obtain ⟨T2, X2, e2, st2⟩ := getS2 X0 hx hZ hown (host := "") (Or.inl (hw _ (List.mem_of_getElem? (i := 4) rfl))) Via.refl e0 S0 (g := (mkF m 4 #[.val (.int x0)] [])) rfl (hb hby d_pick_4)
    refine OGo.go (U' := T2.setTop (mkF m 7 #[.val (.int x0)] [(.ref r0)])) st2 ?_
    refine OGo.retA X2 hx hret hlk rfl rfl (hb hby d_pick_7) ?_ (by decide) (by decide)
    refine ⟨e2, rfl, r0, rfl, E0, ?_, ?_, ?_, ?_⟩
    · rw [hc1]; exact Fc0
    · rw [hc1]; exact Fa0
    · exact iff_of_false ne0_2 (by rw [hc1]; decide)
    · exact iff_of_false ne0_6 (by rw [hc1]; decide)
  · skip
    refine OGo.go (U' := T0.setTop (mkF m 8 #[.val (.int x0)] [])) (fun _ k => XS.ifYes X0.here hx rfl (pc0 := 1) (pc' := 8) rfl (hb hby d_pick_1) rfl ((if0 _ _).trans (feq hc1).2) (by decide) (by decide) k) ?_
    refine OGo.go (U' := T0.setTop (mkF m 9 #[.val (.int x0)] [(.int x0)])) (fun _ k => XS.iloadN X0.here hx rfl (hb hby d_pick_8) rfl k) ?_
    refine OGo.go (U' := T0.setTop (mkF m 10 #[.val (.int x0)] [(.int (1 : Int32)), (.int x0)])) (fun _ k => XS.iconst X0.here hx rfl (hb hby d_pick_9) k) ?_
    by_cases hc3 : x0 = (1 : Int32)
    · skip
      refine OGo.go (U' := T0.setTop (mkF m 13 #[.val (.int x0)] [])) (fun _ k => XS.icmpNo X0.here hx rfl (hb hby d_pick_10) rfl (teq hc3).2 k) ?_
      obtain ⟨T4, X4, e4, st4⟩ := getS2 X0 hx hZ hown (host := "") (Or.inl (hw _ (List.mem_of_getElem? (i := 36) rfl))) Via.refl e0 S1 (g := (mkF m 13 #[.val (.int x0)] [])) rfl (hb hby d_pick_13)
      refine OGo.go (U' := T4.setTop (mkF m 16 #[.val (.int x0)] [(.ref r1)])) st4 ?_
      refine OGo.retA X4 hx hret hlk rfl rfl (hb hby d_pick_16) ?_ (by decide) (by decide)
      refine ⟨e4, rfl, r1, rfl, E1, ?_, ?_, ?_, ?_⟩
      · rw [hc3]; exact Fc1
      · rw [hc3]; exact Fa1
      · exact iff_of_false ne1_2 (by rw [hc3]; decide)
      · exact iff_of_false ne1_6 (by rw [hc3]; decide)
    · skip
      refine OGo.go (U' := T0.setTop (mkF m 17 #[.val (.int x0)] [])) (fun _ k => XS.icmpYes X0.here hx rfl (pc0 := 10) (pc' := 17) rfl (hb hby d_pick_10) rfl (feq hc3).2 (by decide) (by decide) k) ?_
      refine OGo.go (U' := T0.setTop (mkF m 18 #[.val (.int x0)] [(.int x0)])) (fun _ k => XS.iloadN X0.here hx rfl (hb hby d_pick_17) rfl k) ?_
      refine OGo.go (U' := T0.setTop (mkF m 19 #[.val (.int x0)] [(.int (2 : Int32)), (.int x0)])) (fun _ k => XS.iconst X0.here hx rfl (hb hby d_pick_18) k) ?_
      by_cases hc5 : x0 = (2 : Int32)
      · skip
        refine OGo.go (U' := T0.setTop (mkF m 22 #[.val (.int x0)] [])) (fun _ k => XS.icmpNo X0.here hx rfl (hb hby d_pick_19) rfl (teq hc5).2 k) ?_
        obtain ⟨T6, X6, e6, st6⟩ := getS2 X0 hx hZ hown (host := "") (Or.inl (hw _ (List.mem_of_getElem? (i := 35) rfl))) Via.refl e0 S2 (g := (mkF m 22 #[.val (.int x0)] [])) rfl (hb hby d_pick_22)
        refine OGo.go (U' := T6.setTop (mkF m 25 #[.val (.int x0)] [(.ref r2)])) st6 ?_
        refine OGo.retA X6 hx hret hlk rfl rfl (hb hby d_pick_25) ?_ (by decide) (by decide)
        refine ⟨e6, rfl, r2, rfl, E2, ?_, ?_, ?_, ?_⟩
        · rw [hc5]; exact Fc2
        · rw [hc5]; exact Fa2
        · exact iff_of_true rfl hc5
        · exact iff_of_false ne2_6 (by rw [hc5]; decide)
      · skip
        refine OGo.go (U' := T0.setTop (mkF m 26 #[.val (.int x0)] [])) (fun _ k => XS.icmpYes X0.here hx rfl (pc0 := 19) (pc' := 26) rfl (hb hby d_pick_19) rfl (feq hc5).2 (by decide) (by decide) k) ?_
        refine OGo.go (U' := T0.setTop (mkF m 27 #[.val (.int x0)] [(.int x0)])) (fun _ k => XS.iloadN X0.here hx rfl (hb hby d_pick_26) rfl k) ?_
        refine OGo.go (U' := T0.setTop (mkF m 28 #[.val (.int x0)] [(.int (3 : Int32)), (.int x0)])) (fun _ k => XS.iconst X0.here hx rfl (hb hby d_pick_27) k) ?_
        by_cases hc7 : x0 = (3 : Int32)
        · skip
          refine OGo.go (U' := T0.setTop (mkF m 31 #[.val (.int x0)] [])) (fun _ k => XS.icmpNo X0.here hx rfl (hb hby d_pick_28) rfl (teq hc7).2 k) ?_
          obtain ⟨T8, X8, e8, st8⟩ := getS2 X0 hx hZ hown (host := "") (Or.inl (hw _ (List.mem_of_getElem? (i := 30) rfl))) Via.refl e0 S3 (g := (mkF m 31 #[.val (.int x0)] [])) rfl (hb hby d_pick_31)
          refine OGo.go (U' := T8.setTop (mkF m 34 #[.val (.int x0)] [(.ref r3)])) st8 ?_
          refine OGo.retA X8 hx hret hlk rfl rfl (hb hby d_pick_34) ?_ (by decide) (by decide)
          refine ⟨e8, rfl, r3, rfl, E3, ?_, ?_, ?_, ?_⟩
          · rw [hc7]; exact Fc3
          · rw [hc7]; exact Fa3
          · exact iff_of_false ne3_2 (by rw [hc7]; decide)
          · exact iff_of_false ne3_6 (by rw [hc7]; decide)
        · skip
          refine OGo.go (U' := T0.setTop (mkF m 35 #[.val (.int x0)] [])) (fun _ k => XS.icmpYes X0.here hx rfl (pc0 := 28) (pc' := 35) rfl (hb hby d_pick_28) rfl (feq hc7).2 (by decide) (by decide) k) ?_
          refine OGo.go (U' := T0.setTop (mkF m 36 #[.val (.int x0)] [(.int x0)])) (fun _ k => XS.iloadN X0.here hx rfl (hb hby d_pick_35) rfl k) ?_
          refine OGo.go (U' := T0.setTop (mkF m 37 #[.val (.int x0)] [(.int (4 : Int32)), (.int x0)])) (fun _ k => XS.iconst X0.here hx rfl (hb hby d_pick_36) k) ?_
          by_cases hc9 : x0 = (4 : Int32)
          · skip
            refine OGo.go (U' := T0.setTop (mkF m 40 #[.val (.int x0)] [])) (fun _ k => XS.icmpNo X0.here hx rfl (hb hby d_pick_37) rfl (teq hc9).2 k) ?_
            obtain ⟨T10, X10, e10, st10⟩ := getS2 X0 hx hZ hown (host := "") (Or.inl (hw _ (List.mem_of_getElem? (i := 38) rfl))) Via.refl e0 S4 (g := (mkF m 40 #[.val (.int x0)] [])) rfl (hb hby d_pick_40)
            refine OGo.go (U' := T10.setTop (mkF m 43 #[.val (.int x0)] [(.ref r4)])) st10 ?_
            refine OGo.retA X10 hx hret hlk rfl rfl (hb hby d_pick_43) ?_ (by decide) (by decide)
            refine ⟨e10, rfl, r4, rfl, E4, ?_, ?_, ?_, ?_⟩
            · rw [hc9]; exact Fc4
            · rw [hc9]; exact Fa4
            · exact iff_of_false ne4_2 (by rw [hc9]; decide)
            · exact iff_of_false ne4_6 (by rw [hc9]; decide)
          · skip
            refine OGo.go (U' := T0.setTop (mkF m 44 #[.val (.int x0)] [])) (fun _ k => XS.icmpYes X0.here hx rfl (pc0 := 37) (pc' := 44) rfl (hb hby d_pick_37) rfl (feq hc9).2 (by decide) (by decide) k) ?_
            refine OGo.go (U' := T0.setTop (mkF m 45 #[.val (.int x0)] [(.int x0)])) (fun _ k => XS.iloadN X0.here hx rfl (hb hby d_pick_44) rfl k) ?_
            refine OGo.go (U' := T0.setTop (mkF m 46 #[.val (.int x0)] [(.int (5 : Int32)), (.int x0)])) (fun _ k => XS.iconst X0.here hx rfl (hb hby d_pick_45) k) ?_
            by_cases hc11 : x0 = (5 : Int32)
            · skip
              refine OGo.go (U' := T0.setTop (mkF m 49 #[.val (.int x0)] [])) (fun _ k => XS.icmpNo X0.here hx rfl (hb hby d_pick_46) rfl (teq hc11).2 k) ?_
              obtain ⟨T12, X12, e12, st12⟩ := getS2 X0 hx hZ hown (host := "") (Or.inl (hw _ (List.mem_of_getElem? (i := 40) rfl))) Via.refl e0 S5 (g := (mkF m 49 #[.val (.int x0)] [])) rfl (hb hby d_pick_49)
              refine OGo.go (U' := T12.setTop (mkF m 52 #[.val (.int x0)] [(.ref r5)])) st12 ?_
              refine OGo.retA X12 hx hret hlk rfl rfl (hb hby d_pick_52) ?_ (by decide) (by decide)
              refine ⟨e12, rfl, r5, rfl, E5, ?_, ?_, ?_, ?_⟩
              · rw [hc11]; exact Fc5
              · rw [hc11]; exact Fa5
              · exact iff_of_false ne5_2 (by rw [hc11]; decide)
              · exact iff_of_false ne5_6 (by rw [hc11]; decide)
            · skip
              refine OGo.go (U' := T0.setTop (mkF m 53 #[.val (.int x0)] [])) (fun _ k => XS.icmpYes X0.here hx rfl (pc0 := 46) (pc' := 53) rfl (hb hby d_pick_46) rfl (feq hc11).2 (by decide) (by decide) k) ?_
              refine OGo.go (U' := T0.setTop (mkF m 54 #[.val (.int x0)] [(.int x0)])) (fun _ k => XS.iloadN X0.here hx rfl (hb hby d_pick_53) rfl k) ?_
              refine OGo.go (U' := T0.setTop (mkF m 56 #[.val (.int x0)] [(.int (6 : Int32)), (.int x0)])) (fun _ k => XS.bipush X0.here hx rfl (hb hby d_pick_54) k) ?_
              by_cases hc13 : x0 = (6 : Int32)
              · skip
                refine OGo.go (U' := T0.setTop (mkF m 59 #[.val (.int x0)] [])) (fun _ k => XS.icmpNo X0.here hx rfl (hb hby d_pick_56) rfl (teq hc13).2 k) ?_
                obtain ⟨T14, X14, e14, st14⟩ := getS2 X0 hx hZ hown (host := "") (Or.inl (hw _ (List.mem_of_getElem? (i := 32) rfl))) Via.refl e0 S6 (g := (mkF m 59 #[.val (.int x0)] [])) rfl (hb hby d_pick_59)
                refine OGo.go (U' := T14.setTop (mkF m 62 #[.val (.int x0)] [(.ref r6)])) st14 ?_
                refine OGo.retA X14 hx hret hlk rfl rfl (hb hby d_pick_62) ?_ (by decide) (by decide)
                refine ⟨e14, rfl, r6, rfl, E6, ?_, ?_, ?_, ?_⟩
                · rw [hc13]; exact Fc6
                · rw [hc13]; exact Fa6
                · exact iff_of_false ne6_2 (by rw [hc13]; decide)
                · exact iff_of_true rfl hc13
              · skip
                refine OGo.go (U' := T0.setTop (mkF m 63 #[.val (.int x0)] [])) (fun _ k => XS.icmpYes X0.here hx rfl (pc0 := 56) (pc' := 63) rfl (hb hby d_pick_56) rfl (feq hc13).2 (by decide) (by decide) k) ?_
                obtain ⟨T15, X15, e15, st15⟩ := getS2 X0 hx hZ hown (host := "") (Or.inl (hw _ (List.mem_of_getElem? (i := 33) rfl))) Via.refl e0 S7 (g := (mkF m 63 #[.val (.int x0)] [])) rfl (hb hby d_pick_63)
                refine OGo.go (U' := T15.setTop (mkF m 66 #[.val (.int x0)] [(.ref r7)])) st15 ?_
                refine OGo.retA X15 hx hret hlk rfl rfl (hb hby d_pick_66) ?_ (by decide) (by decide)
                refine ⟨e15, rfl, r7, rfl, E7, ?_, ?_, ?_, ?_⟩
                · rw [CD, if_neg hc1, if_neg hc3, if_neg hc5, if_neg hc7, if_neg hc9, if_neg hc11, if_neg hc13]; exact Fc7
                · rw [AC, if_neg hc1, if_neg hc3, if_neg hc5, if_neg hc7, if_neg hc9, if_neg hc11, if_neg hc13]; exact Fa7
                · exact iff_of_false ne7_2 hc5
                · exact iff_of_false ne7_6 hc13
def F_car (a1 r2 r6 : Addr) : Int32 := (if a1 = r2 then (nar .boolean (1 : Int32)) else (nar .boolean (if a1 = r6 then (1 : Int32) else (0 : Int32))))
theorem d_car_0 : decode prog_51_method_7_code 0 = .ok (.aload_n 0, 1) := by decide +kernel
theorem d_car_1 : decode prog_51_method_7_code 1 = .ok (.getstatic 10, 3) := by decide +kernel
theorem d_car_4 : decode prog_51_method_7_code 4 = .ok (.if_acmp .eq 10, 3) := by decide +kernel
theorem d_car_7 : decode prog_51_method_7_code 7 = .ok (.aload_n 0, 1) := by decide +kernel
theorem d_car_8 : decode prog_51_method_7_code 8 = .ok (.getstatic 22, 3) := by decide +kernel
theorem d_car_11 : decode prog_51_method_7_code 11 = .ok (.if_acmp .ne 7, 3) := by decide +kernel
theorem d_car_14 : decode prog_51_method_7_code 14 = .ok (.iconst 1, 1) := by decide +kernel
theorem d_car_15 : decode prog_51_method_7_code 15 = .ok (.goto 4, 3) := by decide +kernel
theorem d_car_18 : decode prog_51_method_7_code 18 = .ok (.iconst 0, 1) := by decide +kernel
theorem d_car_19 : decode prog_51_method_7_code 19 = .ok (.ireturn, 1) := by decide +kernel
theorem ef_car (m : MethodId) (a1 : Addr) : entryFrame m #[(.ref a1)] 1 = mkF m 0 #[.val (.ref a1)] [] := by first | (simp [entryFrame, mkF, argsToLocals, Value.category]; done) | rfl
theorem pn_car : plainFor (⟨"com/example/farcall/farcall/model/ReplyStatus", "carriesVersions", "()Z"⟩ : MethodName) = true := by first | exact plainFor_of_name (by first | (simp [plainName, overriddenIn]; done) | decide +kernel) | decide +kernel
set_option maxRecDepth 65536 in
set_option maxHeartbeats 40000000 in
theorem rm_car (l : Launch) (Z : State) (a0 : Array Value) (hw : ∀ d ∈ tables_1, d.before a0 Z = true) (a1 : Addr) (r0 r1 r2 r3 r4 r5 r6 r7 : Addr) (h0 : Heap) (HE : OEnum Z h0 r0 r1 r2 r3 r4 r5 r6 r7) :
    OMet l Z (⟨"com/example/farcall/farcall/model/ReplyStatus", "carriesVersions", "()Z"⟩ : MethodName) prog_51_method_7_code 1 (some .boolean) [] ({ frames := 0, cells := 0, slots := 0, locals := 0 } : Room) #[(.ref a1)] h0 (OPure (some (.int (F_car a1 r2 r6))) h0) := by
  refine OMet.of pn_car ?_
  intro p e s m below meth c T0 X0 hx hby hml hown0 hnm hret hlk hZ e0
  have hown : s.vm.findClass "com/example/farcall/farcall/model/ReplyStatus" = some m.cls := hown0
  refine OGo.go (fun t k => castTop (ef_car m a1) k) ?_
  obtain ⟨S0, E0, Fc0, Fa0, S1, E1, Fc1, Fa1, S2, E2, Fc2, Fa2, S3, E3, Fc3, Fa3, S4, E4, Fc4, Fa4, S5, E5, Fc5, Fa5, S6, E6, Fc6, Fa6, S7, E7, Fc7, Fa7, ne0_2, ne1_2, ne3_2, ne4_2, ne5_2, ne6_2, ne7_2, ne0_6, ne1_6, ne2_6, ne3_6, ne4_6, ne5_6, ne7_6⟩ := HE
  refine OGo.go (U' := T0.setTop (mkF m 1 #[.val (.ref a1)] [(.ref a1)])) (fun _ k => XS.aloadN X0.here hx rfl (hb hby d_car_0) rfl rfl k) ?_
  obtain ⟨T1, X1, e1, st1⟩ := getS2 X0 hx hZ hown (host := "") (Or.inl (hw _ (List.mem_of_getElem? (i := 12) rfl))) Via.refl e0 S2 (g := (mkF m 1 #[.val (.ref a1)] [(.ref a1)])) rfl (hb hby d_car_1)
  refine OGo.go (U' := T1.setTop (mkF m 4 #[.val (.ref a1)] [(.ref r2), (.ref a1)])) st1 ?_
  by_cases hc2 : a1 = r2
  · skip
    refine OGo.go (U' := T1.setTop (mkF m 14 #[.val (.ref a1)] [])) (fun _ k => Jvm.RoadKit.acmp (g := (mkF m 4 #[.val (.ref a1)] [(.ref r2), (.ref a1)])) X1 hx rfl rfl rfl (pc0 := 4) (pc' := 14) (same := true) rfl (hb hby d_car_4) rfl (decide_eq_true (congrArg Value.ref hc2)) (by decide) (by decide) k) ?_
    refine OGo.go (U' := T1.setTop (mkF m 15 #[.val (.ref a1)] [(.int (1 : Int32))])) (fun _ k => XS.iconst X1.here hx rfl (hb hby d_car_14) k) ?_
    refine OGo.go (U' := T1.setTop (mkF m 19 #[.val (.ref a1)] [(.int (1 : Int32))])) (fun _ k => XS.goto X1.here hx rfl (pc0 := 15) (pc' := 19) rfl (hb hby d_car_15) (by decide) (by decide) k) ?_
    refine OGo.retN X1 hx (t := .boolean) hret hlk (by simp) (hb hby d_car_19) ?_ (by decide) (by decide)
    refine ⟨?_, e1, rfl⟩
    rw [F_car]
    rw [if_pos hc2]
  · skip
    refine OGo.go (U' := T1.setTop (mkF m 7 #[.val (.ref a1)] [])) (fun _ k => Jvm.RoadKit.acmp (g := (mkF m 4 #[.val (.ref a1)] [(.ref r2), (.ref a1)])) X1 hx rfl rfl rfl (pc0 := 4) (pc' := 7) (same := false) rfl (hb hby d_car_4) rfl (decide_eq_false fun q => hc2 (Value.ref.inj q)) (by decide) (by decide) k) ?_
    refine OGo.go (U' := T1.setTop (mkF m 8 #[.val (.ref a1)] [(.ref a1)])) (fun _ k => XS.aloadN X1.here hx rfl (hb hby d_car_7) rfl rfl k) ?_
    obtain ⟨T3, X3, e3, st3⟩ := getS2 X1 hx hZ hown (host := "") (Or.inl (hw _ (List.mem_of_getElem? (i := 14) rfl))) Via.refl e1 S6 (g := (mkF m 8 #[.val (.ref a1)] [(.ref a1)])) rfl (hb hby d_car_8)
    refine OGo.go (U' := T3.setTop (mkF m 11 #[.val (.ref a1)] [(.ref r6), (.ref a1)])) st3 ?_
    refine OGo.ite1 (P := a1 = r6) (fun (z5 : Int32) => T3.setTop (mkF m 19 #[.val (.ref a1)] [(.int z5)])) (x := (1 : Int32)) (y := (0 : Int32)) (fun hc4 k6 => ?_) (fun hc4 k6 => ?_) ?_
    · skip
      refine OGo.go (U' := T3.setTop (mkF m 14 #[.val (.ref a1)] [])) (fun _ k => Jvm.RoadKit.acmp (g := (mkF m 11 #[.val (.ref a1)] [(.ref r6), (.ref a1)])) X3 hx rfl rfl rfl (pc0 := 11) (pc' := 14) (same := true) rfl (hb hby d_car_11) rfl (decide_eq_true (congrArg Value.ref hc4)) (by decide) (by decide) k) ?_
      refine OGo.go (U' := T3.setTop (mkF m 15 #[.val (.ref a1)] [(.int (1 : Int32))])) (fun _ k => XS.iconst X3.here hx rfl (hb hby d_car_14) k) ?_
      refine OGo.go (U' := T3.setTop (mkF m 19 #[.val (.ref a1)] [(.int (1 : Int32))])) (fun _ k => XS.goto X3.here hx rfl (pc0 := 15) (pc' := 19) rfl (hb hby d_car_15) (by decide) (by decide) k) ?_
      exact k6
    · skip
      refine OGo.go (U' := T3.setTop (mkF m 18 #[.val (.ref a1)] [])) (fun _ k => Jvm.RoadKit.acmp (g := (mkF m 11 #[.val (.ref a1)] [(.ref r6), (.ref a1)])) X3 hx rfl rfl rfl (pc0 := 11) (pc' := 18) (same := false) rfl (hb hby d_car_11) rfl (decide_eq_false fun q => hc4 (Value.ref.inj q)) (by decide) (by decide) k) ?_
      refine OGo.go (U' := T3.setTop (mkF m 19 #[.val (.ref a1)] [(.int (0 : Int32))])) (fun _ k => XS.iconst X3.here hx rfl (hb hby d_car_18) k) ?_
      exact k6
    intro z5 hz5
    refine OGo.retN X3 hx (t := .boolean) hret hlk (by simp) (hb hby d_car_19) ?_ (by decide) (by decide)
    refine ⟨?_, e3, rfl⟩
    subst hz5
    rw [F_car]
    rw [if_neg hc2]
theorem d_gc_0 : decode prog_51_method_6_code 0 = .ok (.aload_n 0, 1) := by decide +kernel
theorem d_gc_1 : decode prog_51_method_6_code 1 = .ok (.getfield 51, 3) := by decide +kernel
theorem d_gc_4 : decode prog_51_method_6_code 4 = .ok (.ireturn, 1) := by decide +kernel
theorem ef_gc (m : MethodId) (a1 : Addr) : entryFrame m #[(.ref a1)] 1 = mkF m 0 #[.val (.ref a1)] [] := by first | (simp [entryFrame, mkF, argsToLocals, Value.category]; done) | rfl
theorem pn_gc : plainFor (⟨"com/example/farcall/farcall/model/ReplyStatus", "getCode", "()I"⟩ : MethodName) = true := by first | exact plainFor_of_name (by first | (simp [plainName, overriddenIn]; done) | decide +kernel) | decide +kernel
set_option maxRecDepth 65536 in
set_option maxHeartbeats 40000000 in
theorem rm_gc (l : Launch) (Z : State) (a0 : Array Value) (hw : ∀ d ∈ tables_1, d.before a0 Z = true) (a1 : Addr) (u : Int32) (h0 : Heap) (f1 : Fld Z h0 a1 "com/example/farcall/farcall/model/ReplyStatus" "code" "I" (.int u)) :
    OMet l Z (⟨"com/example/farcall/farcall/model/ReplyStatus", "getCode", "()I"⟩ : MethodName) prog_51_method_6_code 1 (some .int) [] ({ frames := 0, cells := 0, slots := 0, locals := 0 } : Room) #[(.ref a1)] h0 (OPure (some (.int u)) h0) := by
  refine OMet.of pn_gc ?_
  intro p e s m below meth c T0 X0 hx hby hml hown0 hnm hret hlk hZ e0
  have hown : s.vm.findClass "com/example/farcall/farcall/model/ReplyStatus" = some m.cls := hown0
  refine OGo.go (fun t k => castTop (ef_gc m a1) k) ?_
  refine OGo.go (U' := T0.setTop (mkF m 1 #[.val (.ref a1)] [(.ref a1)])) (fun _ k => XS.aloadN X0.here hx rfl (hb hby d_gc_0) rfl rfl k) ?_
  obtain ⟨T1, X1, e1, st1⟩ := getF X0 hx hZ hown (host := "") (Or.inl (hw _ (List.mem_of_getElem? (i := 21) rfl))) Via.refl e0 f1 (g := (mkF m 1 #[.val (.ref a1)] [(.ref a1)])) rfl rfl (hb hby d_gc_1)
  refine OGo.go (U' := T1.setTop (mkF m 4 #[.val (.ref a1)] [(.int u)])) st1 ?_
  refine OGo.retI X1 hx hret hlk (hb hby d_gc_4) ?_ (by decide) (by decide)
  refine ⟨?_, e1, rfl⟩
  
  rfl
theorem d_ia_0 : decode prog_51_method_5_code 0 = .ok (.aload_n 0, 1) := by decide +kernel
theorem d_ia_1 : decode prog_51_method_5_code 1 = .ok (.getfield 47, 3) := by decide +kernel
theorem d_ia_4 : decode prog_51_method_5_code 4 = .ok (.ireturn, 1) := by decide +kernel
theorem ef_ia (m : MethodId) (a1 : Addr) : entryFrame m #[(.ref a1)] 1 = mkF m 0 #[.val (.ref a1)] [] := by first | (simp [entryFrame, mkF, argsToLocals, Value.category]; done) | rfl
theorem pn_ia : plainFor (⟨"com/example/farcall/farcall/model/ReplyStatus", "isAccepted", "()Z"⟩ : MethodName) = true := by first | exact plainFor_of_name (by first | (simp [plainName, overriddenIn]; done) | decide +kernel) | decide +kernel
set_option maxRecDepth 65536 in
set_option maxHeartbeats 40000000 in
theorem rm_ia (l : Launch) (Z : State) (a0 : Array Value) (hw : ∀ d ∈ tables_1, d.before a0 Z = true) (a1 : Addr) (u : Int32) (h0 : Heap) (f1 : Fld Z h0 a1 "com/example/farcall/farcall/model/ReplyStatus" "accepted" "Z" (.int u)) :
    OMet l Z (⟨"com/example/farcall/farcall/model/ReplyStatus", "isAccepted", "()Z"⟩ : MethodName) prog_51_method_5_code 1 (some .boolean) [] ({ frames := 0, cells := 0, slots := 0, locals := 0 } : Room) #[(.ref a1)] h0 (OPure (some (.int (nar .boolean u))) h0) := by
  refine OMet.of pn_ia ?_
  intro p e s m below meth c T0 X0 hx hby hml hown0 hnm hret hlk hZ e0
  have hown : s.vm.findClass "com/example/farcall/farcall/model/ReplyStatus" = some m.cls := hown0
  refine OGo.go (fun t k => castTop (ef_ia m a1) k) ?_
  refine OGo.go (U' := T0.setTop (mkF m 1 #[.val (.ref a1)] [(.ref a1)])) (fun _ k => XS.aloadN X0.here hx rfl (hb hby d_ia_0) rfl rfl k) ?_
  obtain ⟨T1, X1, e1, st1⟩ := getF X0 hx hZ hown (host := "") (Or.inl (hw _ (List.mem_of_getElem? (i := 28) rfl))) Via.refl e0 f1 (g := (mkF m 1 #[.val (.ref a1)] [(.ref a1)])) rfl rfl (hb hby d_ia_1)
  refine OGo.go (U' := T1.setTop (mkF m 4 #[.val (.ref a1)] [(.int u)])) st1 ?_
  refine OGo.retN X1 hx (t := .boolean) hret hlk (by simp) (hb hby d_ia_4) ?_ (by decide) (by decide)
  refine ⟨?_, e1, rfl⟩
  
  rfl
theorem own_ret_0 {x0 : Int32} {b : Addr} {r2 : Addr} {r6 : Addr} {z3 : Int32} {y9 : Int32} {y11 : Int32} {y13 : Int32} {z15 : Int32} {z24 : Int32} (i2 : b = r2 ↔ (x0 &&& (7 : Int32)) = 2) (i6 : b = r6 ↔ (x0 &&& (7 : Int32)) = 6) (hz3 : z3 = (if (x0 &&& (7 : Int32)) = (2 : Int32) then (1 : Int32) else (if (x0 &&& (7 : Int32)) = (6 : Int32) then (1 : Int32) else (0 : Int32)))) (hy9 : y9 = (F_car b r2 r6)) (hy11 : y11 = (CD (x0 &&& (7 : Int32)))) (hy13 : y13 = (nar .boolean (AC (x0 &&& (7 : Int32))))) (hz15 : z15 = (if y13 = (0 : Int32) then (if y11 = (0 : Int32) then (1 : Int32) else (0 : Int32)) else (if y11 = (2 : Int32) then (1 : Int32) else (0 : Int32)))) (hz24 : z24 = (if y9 = z3 then (if y9 = z15 then (1 : Int32) else (0 : Int32)) else (0 : Int32))) : some (Value.int (nar .boolean z24)) = some (Value.int 1) := by
  have hb := c_and x0 7 (by decide)
  rw [show (7 : Int32).toInt = 7 by decide] at hb
  generalize x0 &&& (7 : Int32) = i at *
  have hi : i = 0 ∨ i = 1 ∨ i = 2 ∨ i = 3 ∨ i = 4 ∨ i = 5 ∨ i = 6 ∨ i = 7 := by
    have h8 : i.toInt = 0 ∨ i.toInt = 1 ∨ i.toInt = 2 ∨ i.toInt = 3 ∨ i.toInt = 4 ∨ i.toInt = 5 ∨ i.toInt = 6 ∨ i.toInt = 7 := by omega
    rcases h8 with h | h | h | h | h | h | h | h
    · exact Or.inl (Int32.toInt_inj.mp h)
    · exact Or.inr (Or.inl (Int32.toInt_inj.mp h))
    · exact Or.inr (Or.inr (Or.inl (Int32.toInt_inj.mp h)))
    · exact Or.inr (Or.inr (Or.inr (Or.inl (Int32.toInt_inj.mp h))))
    · exact Or.inr (Or.inr (Or.inr (Or.inr (Or.inl (Int32.toInt_inj.mp h)))))
    · exact Or.inr (Or.inr (Or.inr (Or.inr (Or.inr (Or.inl (Int32.toInt_inj.mp h))))))
    · exact Or.inr (Or.inr (Or.inr (Or.inr (Or.inr (Or.inr (Or.inl (Int32.toInt_inj.mp h)))))))
    · exact Or.inr (Or.inr (Or.inr (Or.inr (Or.inr (Or.inr (Or.inr (Int32.toInt_inj.mp h)))))))
  rcases hi with rfl | rfl | rfl | rfl | rfl | rfl | rfl | rfl
  all_goals first
    | (have n2 : ¬ b = r2 := fun q => absurd (i2.mp q) (by decide)
       have n6 : ¬ b = r6 := fun q => absurd (i6.mp q) (by decide)
       rw [F_car, if_neg n2, if_neg n6] at hy9
       subst hy9 hy11 hy13 hz3 hz15 hz24
       decide)
    | (have n2 : b = r2 := i2.mpr rfl
       rw [F_car, if_pos n2] at hy9
       subst hy9 hy11 hy13 hz3 hz15 hz24
       decide)
    | (have n2 : ¬ b = r2 := fun q => absurd (i2.mp q) (by decide)
       have n6 : b = r6 := i6.mpr rfl
       rw [F_car, if_neg n2, if_pos n6] at hy9
       subst hy9 hy11 hy13 hz3 hz15 hz24
       decide)
theorem ef_law (m : MethodId) (x0 : Int32) : entryFrame m #[(.int x0)] maxLocals = mkF m 0 #[.val (.int x0), .unset, .unset, .unset, .unset, .unset, .unset] [] := by first | (simp [entryFrame, mkF, argsToLocals, Value.category, maxLocals]; done) | rfl
theorem pn_law : plainFor x = true := by first | exact plainFor_of_name (by first | (simp [plainName, overriddenIn]; done) | decide +kernel) | decide +kernel
set_option maxRecDepth 65536 in
set_option maxHeartbeats 40000000 in
theorem rm_law (l : Launch) (Z : State) (a0 : Array Value) (hw : ∀ d ∈ tables_1, d.before a0 Z = true) (x0 : Int32) (r0 r1 r2 r3 r4 r5 r6 r7 : Addr) (n0 : Nat) (h0 : Heap) (HE : OEnum Z h0 r0 r1 r2 r3 r4 r5 r6 r7) :
    OMet l Z x code maxLocals ret tables_1 room_1 #[(.int x0)] h0 (fun v h L => v = some (.int 1) ∧ Fr n0 L) := by
  refine OMet.of pn_law ?_
  intro p e s m below meth c T0 X0 hx hby hml hown0 hnm hret hlk hZ e0
  have hown : s.vm.findClass "com/example/farcall/farcall/model/ReplyStatusCarriesVersionsPinLaw" = some m.cls := hown0
  refine OGo.go (fun t k => castTop (ef_law m x0) k) ?_
  refine OGo.go (U' := T0.setTop (mkF m 1 #[.val (.int x0), .unset, .unset, .unset, .unset, .unset, .unset] [(.int x0)])) (fun _ k => XS.iloadN X0.here hx rfl (hb hby at_0) rfl k) ?_
  refine OGo.go (U' := T0.setTop (mkF m 3 #[.val (.int x0), .unset, .unset, .unset, .unset, .unset, .unset] [(.int (7 : Int32)), (.int x0)])) (fun _ k => XS.bipush X0.here hx rfl (hb hby at_1) k) ?_
  refine OGo.go (U' := T0.setTop (mkF m 4 #[.val (.int x0), .unset, .unset, .unset, .unset, .unset, .unset] [(.int (x0 &&& (7 : Int32)))])) (fun _ k => XS.iand X0.here hx rfl (hb hby at_3) rfl k) ?_
  refine OGo.go (U' := T0.setTop (mkF m 5 #[.val (.int x0), .val (.int (x0 &&& (7 : Int32))), .unset, .unset, .unset, .unset, .unset] [])) (fun _ k => XS.istoreN X0.here hx rfl (hb hby at_4) rfl (l' := #[.val (.int x0), .val (.int (x0 &&& (7 : Int32))), .unset, .unset, .unset, .unset, .unset]) rfl k) ?_
  refine OGo.go (U' := T0.setTop (mkF m 6 #[.val (.int x0), .val (.int (x0 &&& (7 : Int32))), .unset, .unset, .unset, .unset, .unset] [(.int (x0 &&& (7 : Int32)))])) (fun _ k => XS.iloadN X0.here hx rfl (hb hby at_5) rfl k) ?_
  refine OGo.callS X0 hx hZ (y := (⟨"com/example/farcall/farcall/model/ReplyStatusCarriesVersionsPinLaw", "pick", "(I)Lcom/example/farcall/farcall/model/ReplyStatus;"⟩ : MethodName)) hown (hw _ (List.mem_of_getElem? (i := 0) rfl)) (hw _ (List.mem_of_getElem? (i := 1) rfl)) (hw _ (List.mem_of_getElem? (i := 2) rfl)) (hw _ (List.mem_of_getElem? (i := 3) rfl)) (by decide) (g := (mkF m 6 #[.val (.int x0), .val (.int (x0 &&& (7 : Int32))), .unset, .unset, .unset, .unset, .unset] [(.int (x0 &&& (7 : Int32)))])) (argsL := [(.int (x0 &&& (7 : Int32)))]) (rest := []) e0 (rm_pick l Z a0 hw (x0 &&& (7 : Int32)) r0 r1 r2 r3 r4 r5 r6 r7 h0 HE) rfl (by rw [hml]; rfl) (lenOf pd_0 rfl) rfl (W := 0) (by show 2 * 0 + _ ≤ _; exact Nat.le_of_eq rfl) (hb hby at_6) (by decide) (by decide) (by decide) (by decide) ?_
  rintro _ T1 _ X1 ⟨e1, rfl, b, rfl, Eb, Fcb, Fab, i2, i6⟩
  rw [List.append_nil] at X1
  refine OGo.go (U' := T1.setTop (mkF m 10 #[.val (.int x0), .val (.int (x0 &&& (7 : Int32))), .val (.ref b), .unset, .unset, .unset, .unset] [])) (fun _ k => XS.astoreN X1.here hx rfl (hb hby at_9) rfl rfl (l' := #[.val (.int x0), .val (.int (x0 &&& (7 : Int32))), .val (.ref b), .unset, .unset, .unset, .unset]) rfl k) ?_
  refine OGo.go (U' := T1.setTop (mkF m 11 #[.val (.int x0), .val (.int (x0 &&& (7 : Int32))), .val (.ref b), .unset, .unset, .unset, .unset] [(.int (x0 &&& (7 : Int32)))])) (fun _ k => XS.iloadN X1.here hx rfl (hb hby at_10) rfl k) ?_
  refine OGo.go (U' := T1.setTop (mkF m 12 #[.val (.int x0), .val (.int (x0 &&& (7 : Int32))), .val (.ref b), .unset, .unset, .unset, .unset] [(.int (2 : Int32)), (.int (x0 &&& (7 : Int32)))])) (fun _ k => XS.iconst X1.here hx rfl (hb hby at_11) k) ?_
  refine OGo.ite1 (P := (x0 &&& (7 : Int32)) = (2 : Int32)) (fun (z3 : Int32) => T1.setTop (mkF m 26 #[.val (.int x0), .val (.int (x0 &&& (7 : Int32))), .val (.ref b), .unset, .unset, .unset, .unset] [(.int z3)])) (x := (1 : Int32)) (y := (if (x0 &&& (7 : Int32)) = (6 : Int32) then (1 : Int32) else (0 : Int32))) (fun hc2 k4 => ?_) (fun hc2 k4 => ?_) ?_
  · skip
    refine OGo.go (U' := T1.setTop (mkF m 21 #[.val (.int x0), .val (.int (x0 &&& (7 : Int32))), .val (.ref b), .unset, .unset, .unset, .unset] [])) (fun _ k => XS.icmpYes X1.here hx rfl (pc0 := 12) (pc' := 21) rfl (hb hby at_12) rfl (teq hc2).1 (by decide) (by decide) k) ?_
    refine OGo.go (U' := T1.setTop (mkF m 22 #[.val (.int x0), .val (.int (x0 &&& (7 : Int32))), .val (.ref b), .unset, .unset, .unset, .unset] [(.int (1 : Int32))])) (fun _ k => XS.iconst X1.here hx rfl (hb hby at_21) k) ?_
    refine OGo.go (U' := T1.setTop (mkF m 26 #[.val (.int x0), .val (.int (x0 &&& (7 : Int32))), .val (.ref b), .unset, .unset, .unset, .unset] [(.int (1 : Int32))])) (fun _ k => XS.goto X1.here hx rfl (pc0 := 22) (pc' := 26) rfl (hb hby at_22) (by decide) (by decide) k) ?_
    exact k4
  · skip
    refine OGo.go (U' := T1.setTop (mkF m 15 #[.val (.int x0), .val (.int (x0 &&& (7 : Int32))), .val (.ref b), .unset, .unset, .unset, .unset] [])) (fun _ k => XS.icmpNo X1.here hx rfl (hb hby at_12) rfl (feq hc2).1 k) ?_
    refine OGo.go (U' := T1.setTop (mkF m 16 #[.val (.int x0), .val (.int (x0 &&& (7 : Int32))), .val (.ref b), .unset, .unset, .unset, .unset] [(.int (x0 &&& (7 : Int32)))])) (fun _ k => XS.iloadN X1.here hx rfl (hb hby at_15) rfl k) ?_
    refine OGo.go (U' := T1.setTop (mkF m 18 #[.val (.int x0), .val (.int (x0 &&& (7 : Int32))), .val (.ref b), .unset, .unset, .unset, .unset] [(.int (6 : Int32)), (.int (x0 &&& (7 : Int32)))])) (fun _ k => XS.bipush X1.here hx rfl (hb hby at_16) k) ?_
    refine OGo.ite1 (P := (x0 &&& (7 : Int32)) = (6 : Int32)) (fun (z6 : Int32) => T1.setTop (mkF m 26 #[.val (.int x0), .val (.int (x0 &&& (7 : Int32))), .val (.ref b), .unset, .unset, .unset, .unset] [(.int z6)])) (x := (1 : Int32)) (y := (0 : Int32)) (fun hc5 k7 => ?_) (fun hc5 k7 => ?_) (fun z6 hz6 => by subst hz6; exact k4)
    · skip
      refine OGo.go (U' := T1.setTop (mkF m 21 #[.val (.int x0), .val (.int (x0 &&& (7 : Int32))), .val (.ref b), .unset, .unset, .unset, .unset] [])) (fun _ k => XS.icmpNo X1.here hx rfl (hb hby at_18) rfl (teq hc5).2 k) ?_
      refine OGo.go (U' := T1.setTop (mkF m 22 #[.val (.int x0), .val (.int (x0 &&& (7 : Int32))), .val (.ref b), .unset, .unset, .unset, .unset] [(.int (1 : Int32))])) (fun _ k => XS.iconst X1.here hx rfl (hb hby at_21) k) ?_
      refine OGo.go (U' := T1.setTop (mkF m 26 #[.val (.int x0), .val (.int (x0 &&& (7 : Int32))), .val (.ref b), .unset, .unset, .unset, .unset] [(.int (1 : Int32))])) (fun _ k => XS.goto X1.here hx rfl (pc0 := 22) (pc' := 26) rfl (hb hby at_22) (by decide) (by decide) k) ?_
      exact k7
    · skip
      refine OGo.go (U' := T1.setTop (mkF m 25 #[.val (.int x0), .val (.int (x0 &&& (7 : Int32))), .val (.ref b), .unset, .unset, .unset, .unset] [])) (fun _ k => XS.icmpYes X1.here hx rfl (pc0 := 18) (pc' := 25) rfl (hb hby at_18) rfl (feq hc5).2 (by decide) (by decide) k) ?_
      refine OGo.go (U' := T1.setTop (mkF m 26 #[.val (.int x0), .val (.int (x0 &&& (7 : Int32))), .val (.ref b), .unset, .unset, .unset, .unset] [(.int (0 : Int32))])) (fun _ k => XS.iconst X1.here hx rfl (hb hby at_25) k) ?_
      exact k7
  intro z3 hz3
  refine OGo.go (U' := T1.setTop (mkF m 27 #[.val (.int x0), .val (.int (x0 &&& (7 : Int32))), .val (.ref b), .val (.int z3), .unset, .unset, .unset] [])) (fun _ k => XS.istoreN X1.here hx rfl (hb hby at_26) rfl (l' := #[.val (.int x0), .val (.int (x0 &&& (7 : Int32))), .val (.ref b), .val (.int z3), .unset, .unset, .unset]) rfl k) ?_
  refine OGo.go (U' := T1.setTop (mkF m 28 #[.val (.int x0), .val (.int (x0 &&& (7 : Int32))), .val (.ref b), .val (.int z3), .unset, .unset, .unset] [(.ref b)])) (fun _ k => XS.aloadN X1.here hx rfl (hb hby at_27) rfl rfl k) ?_
  refine OGo.callV X1 hx hZ (y := (⟨"com/example/farcall/farcall/model/ReplyStatus", "carriesVersions", "()Z"⟩ : MethodName)) (C := "com/example/farcall/farcall/model/ReplyStatus") hown (hw _ (List.mem_of_getElem? (i := 7) rfl)) (hw _ (List.mem_of_getElem? (i := 8) rfl)) (hw _ (List.mem_of_getElem? (i := 10) rfl)) (hw _ (List.mem_of_getElem? (i := 9) rfl)) (hw _ (List.mem_of_getElem? (i := 5) rfl)) (hw _ (List.mem_of_getElem? (i := 11) rfl)) (by decide) (g := (mkF m 28 #[.val (.int x0), .val (.int (x0 &&& (7 : Int32))), .val (.ref b), .val (.int z3), .unset, .unset, .unset] [(.ref b)])) (a := b) (argsL := []) (rest := []) e1 Eb (rm_car l Z a0 hw b r0 r1 r2 r3 r4 r5 r6 r7 h0 HE) rfl (by rw [hml]; rfl) (lenOf pd_1 rfl) rfl (W := 0) (by show 2 * 0 + _ ≤ _; exact Nat.le_of_eq rfl) (hb hby at_28) (by decide) (by decide) (by decide) (by decide) ?_
  rintro _ T8 _ X8 ⟨rfl, e8, rfl⟩
  rw [List.append_nil] at X8
  refine OGo.nm (fun (y9 : Int32) => T8.setTop (mkF m 31 #[.val (.int x0), .val (.int (x0 &&& (7 : Int32))), .val (.ref b), .val (.int z3), .unset, .unset, .unset] [(.int y9)])) (x := (F_car b r2 r6)) (fun y9 hy9 => ?_)
  refine OGo.go (U' := T8.setTop (mkF m 33 #[.val (.int x0), .val (.int (x0 &&& (7 : Int32))), .val (.ref b), .val (.int z3), .val (.int y9), .unset, .unset] [])) (fun _ k => XS.istore X8.here hx rfl (hb hby at_31) rfl (l' := #[.val (.int x0), .val (.int (x0 &&& (7 : Int32))), .val (.ref b), .val (.int z3), .val (.int y9), .unset, .unset]) rfl k) ?_
  refine OGo.go (U' := T8.setTop (mkF m 34 #[.val (.int x0), .val (.int (x0 &&& (7 : Int32))), .val (.ref b), .val (.int z3), .val (.int y9), .unset, .unset] [(.ref b)])) (fun _ k => XS.aloadN X8.here hx rfl (hb hby at_33) rfl rfl k) ?_
  refine OGo.callV X8 hx hZ (y := (⟨"com/example/farcall/farcall/model/ReplyStatus", "getCode", "()I"⟩ : MethodName)) (C := "com/example/farcall/farcall/model/ReplyStatus") hown (hw _ (List.mem_of_getElem? (i := 16) rfl)) (hw _ (List.mem_of_getElem? (i := 17) rfl)) (hw _ (List.mem_of_getElem? (i := 19) rfl)) (hw _ (List.mem_of_getElem? (i := 18) rfl)) (hw _ (List.mem_of_getElem? (i := 5) rfl)) (hw _ (List.mem_of_getElem? (i := 20) rfl)) (by decide) (g := (mkF m 34 #[.val (.int x0), .val (.int (x0 &&& (7 : Int32))), .val (.ref b), .val (.int z3), .val (.int y9), .unset, .unset] [(.ref b)])) (a := b) (argsL := []) (rest := []) e8 Eb (rm_gc l Z a0 hw b (CD (x0 &&& (7 : Int32))) h0 Fcb) rfl (by rw [hml]; rfl) (lenOf pd_2 rfl) rfl (W := 0) (by show 2 * 0 + _ ≤ _; exact Nat.le_of_eq rfl) (hb hby at_34) (by decide) (by decide) (by decide) (by decide) ?_
  rintro _ T10 _ X10 ⟨rfl, e10, rfl⟩
  rw [List.append_nil] at X10
  refine OGo.nm (fun (y11 : Int32) => T10.setTop (mkF m 37 #[.val (.int x0), .val (.int (x0 &&& (7 : Int32))), .val (.ref b), .val (.int z3), .val (.int y9), .unset, .unset] [(.int y11)])) (x := (CD (x0 &&& (7 : Int32)))) (fun y11 hy11 => ?_)
  refine OGo.go (U' := T10.setTop (mkF m 39 #[.val (.int x0), .val (.int (x0 &&& (7 : Int32))), .val (.ref b), .val (.int z3), .val (.int y9), .val (.int y11), .unset] [])) (fun _ k => XS.istore X10.here hx rfl (hb hby at_37) rfl (l' := #[.val (.int x0), .val (.int (x0 &&& (7 : Int32))), .val (.ref b), .val (.int z3), .val (.int y9), .val (.int y11), .unset]) rfl k) ?_
  refine OGo.go (U' := T10.setTop (mkF m 40 #[.val (.int x0), .val (.int (x0 &&& (7 : Int32))), .val (.ref b), .val (.int z3), .val (.int y9), .val (.int y11), .unset] [(.ref b)])) (fun _ k => XS.aloadN X10.here hx rfl (hb hby at_39) rfl rfl k) ?_
  refine OGo.callV X10 hx hZ (y := (⟨"com/example/farcall/farcall/model/ReplyStatus", "isAccepted", "()Z"⟩ : MethodName)) (C := "com/example/farcall/farcall/model/ReplyStatus") hown (hw _ (List.mem_of_getElem? (i := 23) rfl)) (hw _ (List.mem_of_getElem? (i := 24) rfl)) (hw _ (List.mem_of_getElem? (i := 26) rfl)) (hw _ (List.mem_of_getElem? (i := 25) rfl)) (hw _ (List.mem_of_getElem? (i := 5) rfl)) (hw _ (List.mem_of_getElem? (i := 27) rfl)) (by decide) (g := (mkF m 40 #[.val (.int x0), .val (.int (x0 &&& (7 : Int32))), .val (.ref b), .val (.int z3), .val (.int y9), .val (.int y11), .unset] [(.ref b)])) (a := b) (argsL := []) (rest := []) e10 Eb (rm_ia l Z a0 hw b (AC (x0 &&& (7 : Int32))) h0 Fab) rfl (by rw [hml]; rfl) (lenOf pd_1 rfl) rfl (W := 0) (by show 2 * 0 + _ ≤ _; exact Nat.le_of_eq rfl) (hb hby at_40) (by decide) (by decide) (by decide) (by decide) ?_
  rintro _ T12 _ X12 ⟨rfl, e12, rfl⟩
  rw [List.append_nil] at X12
  refine OGo.nm (fun (y13 : Int32) => T12.setTop (mkF m 43 #[.val (.int x0), .val (.int (x0 &&& (7 : Int32))), .val (.ref b), .val (.int z3), .val (.int y9), .val (.int y11), .unset] [(.int y13)])) (x := (nar .boolean (AC (x0 &&& (7 : Int32))))) (fun y13 hy13 => ?_)
  refine OGo.ite1 (P := y13 = (0 : Int32)) (fun (z15 : Int32) => T12.setTop (mkF m 70 #[.val (.int x0), .val (.int (x0 &&& (7 : Int32))), .val (.ref b), .val (.int z3), .val (.int y9), .val (.int y11), .unset] [(.int z15)])) (x := (if y11 = (0 : Int32) then (1 : Int32) else (0 : Int32))) (y := (if y11 = (2 : Int32) then (1 : Int32) else (0 : Int32))) (fun hc14 k16 => ?_) (fun hc14 k16 => ?_) ?_
  · skip
    refine OGo.go (U' := T12.setTop (mkF m 60 #[.val (.int x0), .val (.int (x0 &&& (7 : Int32))), .val (.ref b), .val (.int z3), .val (.int y9), .val (.int y11), .unset] [])) (fun _ k => XS.ifYes X12.here hx rfl (pc0 := 43) (pc' := 60) rfl (hb hby at_43) rfl ((if0 _ _).trans (teq hc14).1) (by decide) (by decide) k) ?_
    refine OGo.go (U' := T12.setTop (mkF m 62 #[.val (.int x0), .val (.int (x0 &&& (7 : Int32))), .val (.ref b), .val (.int z3), .val (.int y9), .val (.int y11), .unset] [(.int y11)])) (fun _ k => XS.iload X12.here hx rfl (hb hby at_60) rfl k) ?_
    refine OGo.ite1 (P := y11 = (0 : Int32)) (fun (z18 : Int32) => T12.setTop (mkF m 70 #[.val (.int x0), .val (.int (x0 &&& (7 : Int32))), .val (.ref b), .val (.int z3), .val (.int y9), .val (.int y11), .unset] [(.int z18)])) (x := (1 : Int32)) (y := (0 : Int32)) (fun hc17 k19 => ?_) (fun hc17 k19 => ?_) (fun z18 hz18 => by subst hz18; exact k16)
    · skip
      refine OGo.go (U' := T12.setTop (mkF m 65 #[.val (.int x0), .val (.int (x0 &&& (7 : Int32))), .val (.ref b), .val (.int z3), .val (.int y9), .val (.int y11), .unset] [])) (fun _ k => XS.ifNo X12.here hx rfl (hb hby at_62) rfl ((if0 _ _).trans (teq hc17).2) k) ?_
      refine OGo.go (U' := T12.setTop (mkF m 66 #[.val (.int x0), .val (.int (x0 &&& (7 : Int32))), .val (.ref b), .val (.int z3), .val (.int y9), .val (.int y11), .unset] [(.int (1 : Int32))])) (fun _ k => XS.iconst X12.here hx rfl (hb hby at_65) k) ?_
      refine OGo.go (U' := T12.setTop (mkF m 70 #[.val (.int x0), .val (.int (x0 &&& (7 : Int32))), .val (.ref b), .val (.int z3), .val (.int y9), .val (.int y11), .unset] [(.int (1 : Int32))])) (fun _ k => XS.goto X12.here hx rfl (pc0 := 66) (pc' := 70) rfl (hb hby at_66) (by decide) (by decide) k) ?_
      exact k19
    · skip
      refine OGo.go (U' := T12.setTop (mkF m 69 #[.val (.int x0), .val (.int (x0 &&& (7 : Int32))), .val (.ref b), .val (.int z3), .val (.int y9), .val (.int y11), .unset] [])) (fun _ k => XS.ifYes X12.here hx rfl (pc0 := 62) (pc' := 69) rfl (hb hby at_62) rfl ((if0 _ _).trans (feq hc17).2) (by decide) (by decide) k) ?_
      refine OGo.go (U' := T12.setTop (mkF m 70 #[.val (.int x0), .val (.int (x0 &&& (7 : Int32))), .val (.ref b), .val (.int z3), .val (.int y9), .val (.int y11), .unset] [(.int (0 : Int32))])) (fun _ k => XS.iconst X12.here hx rfl (hb hby at_69) k) ?_
      exact k19
  · skip
    refine OGo.go (U' := T12.setTop (mkF m 46 #[.val (.int x0), .val (.int (x0 &&& (7 : Int32))), .val (.ref b), .val (.int z3), .val (.int y9), .val (.int y11), .unset] [])) (fun _ k => XS.ifNo X12.here hx rfl (hb hby at_43) rfl ((if0 _ _).trans (feq hc14).1) k) ?_
    refine OGo.go (U' := T12.setTop (mkF m 48 #[.val (.int x0), .val (.int (x0 &&& (7 : Int32))), .val (.ref b), .val (.int z3), .val (.int y9), .val (.int y11), .unset] [(.int y11)])) (fun _ k => XS.iload X12.here hx rfl (hb hby at_46) rfl k) ?_
    refine OGo.go (U' := T12.setTop (mkF m 49 #[.val (.int x0), .val (.int (x0 &&& (7 : Int32))), .val (.ref b), .val (.int z3), .val (.int y9), .val (.int y11), .unset] [(.int (2 : Int32)), (.int y11)])) (fun _ k => XS.iconst X12.here hx rfl (hb hby at_48) k) ?_
    refine OGo.ite1 (P := y11 = (2 : Int32)) (fun (z21 : Int32) => T12.setTop (mkF m 70 #[.val (.int x0), .val (.int (x0 &&& (7 : Int32))), .val (.ref b), .val (.int z3), .val (.int y9), .val (.int y11), .unset] [(.int z21)])) (x := (1 : Int32)) (y := (0 : Int32)) (fun hc20 k22 => ?_) (fun hc20 k22 => ?_) (fun z21 hz21 => by subst hz21; exact k16)
    · skip
      refine OGo.go (U' := T12.setTop (mkF m 52 #[.val (.int x0), .val (.int (x0 &&& (7 : Int32))), .val (.ref b), .val (.int z3), .val (.int y9), .val (.int y11), .unset] [])) (fun _ k => XS.icmpNo X12.here hx rfl (hb hby at_49) rfl (teq hc20).2 k) ?_
      refine OGo.go (U' := T12.setTop (mkF m 53 #[.val (.int x0), .val (.int (x0 &&& (7 : Int32))), .val (.ref b), .val (.int z3), .val (.int y9), .val (.int y11), .unset] [(.int (1 : Int32))])) (fun _ k => XS.iconst X12.here hx rfl (hb hby at_52) k) ?_
      refine OGo.go (U' := T12.setTop (mkF m 70 #[.val (.int x0), .val (.int (x0 &&& (7 : Int32))), .val (.ref b), .val (.int z3), .val (.int y9), .val (.int y11), .unset] [(.int (1 : Int32))])) (fun _ k => XS.goto X12.here hx rfl (pc0 := 53) (pc' := 70) rfl (hb hby at_53) (by decide) (by decide) k) ?_
      exact k22
    · skip
      refine OGo.go (U' := T12.setTop (mkF m 56 #[.val (.int x0), .val (.int (x0 &&& (7 : Int32))), .val (.ref b), .val (.int z3), .val (.int y9), .val (.int y11), .unset] [])) (fun _ k => XS.icmpYes X12.here hx rfl (pc0 := 49) (pc' := 56) rfl (hb hby at_49) rfl (feq hc20).2 (by decide) (by decide) k) ?_
      refine OGo.go (U' := T12.setTop (mkF m 57 #[.val (.int x0), .val (.int (x0 &&& (7 : Int32))), .val (.ref b), .val (.int z3), .val (.int y9), .val (.int y11), .unset] [(.int (0 : Int32))])) (fun _ k => XS.iconst X12.here hx rfl (hb hby at_56) k) ?_
      refine OGo.go (U' := T12.setTop (mkF m 70 #[.val (.int x0), .val (.int (x0 &&& (7 : Int32))), .val (.ref b), .val (.int z3), .val (.int y9), .val (.int y11), .unset] [(.int (0 : Int32))])) (fun _ k => XS.goto X12.here hx rfl (pc0 := 57) (pc' := 70) rfl (hb hby at_57) (by decide) (by decide) k) ?_
      exact k22
  intro z15 hz15
  refine OGo.go (U' := T12.setTop (mkF m 72 #[.val (.int x0), .val (.int (x0 &&& (7 : Int32))), .val (.ref b), .val (.int z3), .val (.int y9), .val (.int y11), .val (.int z15)] [])) (fun _ k => XS.istore X12.here hx rfl (hb hby at_70) rfl (l' := #[.val (.int x0), .val (.int (x0 &&& (7 : Int32))), .val (.ref b), .val (.int z3), .val (.int y9), .val (.int y11), .val (.int z15)]) rfl k) ?_
  refine OGo.go (U' := T12.setTop (mkF m 74 #[.val (.int x0), .val (.int (x0 &&& (7 : Int32))), .val (.ref b), .val (.int z3), .val (.int y9), .val (.int y11), .val (.int z15)] [(.int y9)])) (fun _ k => XS.iload X12.here hx rfl (hb hby at_72) rfl k) ?_
  refine OGo.go (U' := T12.setTop (mkF m 75 #[.val (.int x0), .val (.int (x0 &&& (7 : Int32))), .val (.ref b), .val (.int z3), .val (.int y9), .val (.int y11), .val (.int z15)] [(.int z3), (.int y9)])) (fun _ k => XS.iloadN X12.here hx rfl (hb hby at_74) rfl k) ?_
  refine OGo.ite1 (P := y9 = z3) (fun (z24 : Int32) => T12.setTop (mkF m 90 #[.val (.int x0), .val (.int (x0 &&& (7 : Int32))), .val (.ref b), .val (.int z3), .val (.int y9), .val (.int y11), .val (.int z15)] [(.int z24)])) (x := (if y9 = z15 then (1 : Int32) else (0 : Int32))) (y := (0 : Int32)) (fun hc23 k25 => ?_) (fun hc23 k25 => ?_) ?_
  · skip
    refine OGo.go (U' := T12.setTop (mkF m 78 #[.val (.int x0), .val (.int (x0 &&& (7 : Int32))), .val (.ref b), .val (.int z3), .val (.int y9), .val (.int y11), .val (.int z15)] [])) (fun _ k => XS.icmpNo X12.here hx rfl (hb hby at_75) rfl (teq hc23).2 k) ?_
    refine OGo.go (U' := T12.setTop (mkF m 80 #[.val (.int x0), .val (.int (x0 &&& (7 : Int32))), .val (.ref b), .val (.int z3), .val (.int y9), .val (.int y11), .val (.int z15)] [(.int y9)])) (fun _ k => XS.iload X12.here hx rfl (hb hby at_78) rfl k) ?_
    refine OGo.go (U' := T12.setTop (mkF m 82 #[.val (.int x0), .val (.int (x0 &&& (7 : Int32))), .val (.ref b), .val (.int z3), .val (.int y9), .val (.int y11), .val (.int z15)] [(.int z15), (.int y9)])) (fun _ k => XS.iload X12.here hx rfl (hb hby at_80) rfl k) ?_
    refine OGo.ite1 (P := y9 = z15) (fun (z27 : Int32) => T12.setTop (mkF m 90 #[.val (.int x0), .val (.int (x0 &&& (7 : Int32))), .val (.ref b), .val (.int z3), .val (.int y9), .val (.int y11), .val (.int z15)] [(.int z27)])) (x := (1 : Int32)) (y := (0 : Int32)) (fun hc26 k28 => ?_) (fun hc26 k28 => ?_) (fun z27 hz27 => by subst hz27; exact k25)
    · skip
      refine OGo.go (U' := T12.setTop (mkF m 85 #[.val (.int x0), .val (.int (x0 &&& (7 : Int32))), .val (.ref b), .val (.int z3), .val (.int y9), .val (.int y11), .val (.int z15)] [])) (fun _ k => XS.icmpNo X12.here hx rfl (hb hby at_82) rfl (teq hc26).2 k) ?_
      refine OGo.go (U' := T12.setTop (mkF m 86 #[.val (.int x0), .val (.int (x0 &&& (7 : Int32))), .val (.ref b), .val (.int z3), .val (.int y9), .val (.int y11), .val (.int z15)] [(.int (1 : Int32))])) (fun _ k => XS.iconst X12.here hx rfl (hb hby at_85) k) ?_
      refine OGo.go (U' := T12.setTop (mkF m 90 #[.val (.int x0), .val (.int (x0 &&& (7 : Int32))), .val (.ref b), .val (.int z3), .val (.int y9), .val (.int y11), .val (.int z15)] [(.int (1 : Int32))])) (fun _ k => XS.goto X12.here hx rfl (pc0 := 86) (pc' := 90) rfl (hb hby at_86) (by decide) (by decide) k) ?_
      exact k28
    · skip
      refine OGo.go (U' := T12.setTop (mkF m 89 #[.val (.int x0), .val (.int (x0 &&& (7 : Int32))), .val (.ref b), .val (.int z3), .val (.int y9), .val (.int y11), .val (.int z15)] [])) (fun _ k => XS.icmpYes X12.here hx rfl (pc0 := 82) (pc' := 89) rfl (hb hby at_82) rfl (feq hc26).2 (by decide) (by decide) k) ?_
      refine OGo.go (U' := T12.setTop (mkF m 90 #[.val (.int x0), .val (.int (x0 &&& (7 : Int32))), .val (.ref b), .val (.int z3), .val (.int y9), .val (.int y11), .val (.int z15)] [(.int (0 : Int32))])) (fun _ k => XS.iconst X12.here hx rfl (hb hby at_89) k) ?_
      exact k28
  · skip
    refine OGo.go (U' := T12.setTop (mkF m 89 #[.val (.int x0), .val (.int (x0 &&& (7 : Int32))), .val (.ref b), .val (.int z3), .val (.int y9), .val (.int y11), .val (.int z15)] [])) (fun _ k => XS.icmpYes X12.here hx rfl (pc0 := 75) (pc' := 89) rfl (hb hby at_75) rfl (feq hc23).2 (by decide) (by decide) k) ?_
    refine OGo.go (U' := T12.setTop (mkF m 90 #[.val (.int x0), .val (.int (x0 &&& (7 : Int32))), .val (.ref b), .val (.int z3), .val (.int y9), .val (.int y11), .val (.int z15)] [(.int (0 : Int32))])) (fun _ k => XS.iconst X12.here hx rfl (hb hby at_89) k) ?_
    exact k25
  intro z24 hz24
  refine OGo.retN X12 hx (t := .boolean) hret hlk (by simp) (hb hby at_90) ?_ (by decide) (by decide)
  exact ⟨own_ret_0 i2 i6 hz3 hy9 hy11 hy13 hz15 hz24, Fr.nil _⟩
set_option maxRecDepth 65536 in
set_option maxHeartbeats 40000000 in
theorem comes_1 {Post : Tables → Env → Array Value → State → Outcome → State → Prop} (hpost : ∀ tb e args s v u, (limb_1_1.after args s (.returned v) u = true ∧ limb_1_2.after args s (.returned v) u = true ∧ True) → FrameEnd s (.returned v) u (Jvm.fieldLocs frame_1_writes args s ++ Jvm.arrayLocs frame_1_arrays args s ++ Jvm.staticLocs frame_1_statics s) 0 0 → Post tb e args s (.returned v) u) :
    ArmFor flags0 classFile x code maxLocals ret World_1 tables_1 room_1 Calls_1 rest_1 Pre_1 Post := by
  intro l hfl _ _ p e ha hc hk s m args below hf hA hF happ hP
  obtain ⟨hcalls, hrest, hpre⟩ := hP
  obtain ⟨-, -, -, hnamed, -, -, -, hat⟩ := (Spec.applies_iff hf).mp happ
  obtain ⟨hg, hn⟩ := and_e (Cond.before_iff.mp (show (Jvm.Cond.and given_1 narrow_1).before args s = true from hpre))
  obtain ⟨g0, g1⟩ := and_e hg
  obtain ⟨w0, rfl⟩ : ∃ w0 : Value, args = #[w0] := by
    have hs : args.size = 1 := by simpa [Cond.value, given_1] using g0
    obtain ⟨L⟩ := args
    match L, hs with
    | [w0], _ => exact ⟨w0, rfl⟩
  have hw := fun d (hd : d ∈ tables_1) => atoms_spec (ws := Jvm.Cond.code x code maxLocals ret :: tables_1) hat d (List.mem_cons_of_mem _ hd)
  have hfit : Fit s := fun {y c} hc i hi => by
    obtain ⟨ha, rfl⟩ := Array.getElem?_eq_some_iff.mp hc
    have q := List.all_eq_true.mp ((Array.all_eq_true_iff_forall_mem.mp hF) _ (Array.getElem_mem ha)) i (List.mem_range.mpr hi)
    simpa [Array.getElem?_eq_getElem hi] using q
  obtain ⟨i0, q0⟩ := is_v g1
  obtain rfl : w0 = (.int i0) := Option.some.inj q0
  obtain ⟨c0, d0⟩ := and_e hn
  obtain ⟨c1, d1⟩ := and_e d0
  obtain ⟨c2, d2⟩ := and_e d1
  obtain ⟨c3, d3⟩ := and_e d2
  obtain ⟨c4, d4⟩ := and_e d3
  obtain ⟨c5, d5⟩ := and_e d4
  obtain ⟨c6, d6⟩ := and_e d5
  obtain ⟨c7, d7⟩ := and_e d6
  obtain ⟨c8, d8⟩ := and_e d7
  obtain ⟨c9, d9⟩ := and_e d8
  obtain ⟨c10, d10⟩ := and_e d9
  obtain ⟨c11, d11⟩ := and_e d10
  obtain ⟨c12, d12⟩ := and_e d11
  obtain ⟨c13, d13⟩ := and_e d12
  obtain ⟨c14, d14⟩ := and_e d13
  obtain ⟨c15, d15⟩ := and_e d14
  obtain ⟨c16, d16⟩ := and_e d15
  obtain ⟨c17, d17⟩ := and_e d16
  obtain ⟨c18, d18⟩ := and_e d17
  obtain ⟨c19, d19⟩ := and_e d18
  obtain ⟨c20, d20⟩ := and_e d19
  obtain ⟨c21, d21⟩ := and_e d20
  obtain ⟨c22, d22⟩ := and_e d21
  obtain ⟨c23, d23⟩ := and_e d22
  obtain ⟨c24, d24⟩ := and_e d23
  obtain ⟨c25, d25⟩ := and_e d24
  obtain ⟨c26, d26⟩ := and_e d25
  obtain ⟨c27, d27⟩ := and_e d26
  obtain ⟨c28, d28⟩ := and_e d27
  obtain ⟨c29, d29⟩ := and_e d28
  obtain ⟨c30, d30⟩ := and_e d29
  have c31 := d30
  obtain ⟨r0, ev0, S0, E0⟩ := own_enum c0 (hw _ (List.mem_of_getElem? (i := 5) rfl)) (hw _ (List.mem_of_getElem? (i := 6) rfl))
  have Fc0 := own_efld ev0 c6
  have Fa0 := own_efld ev0 c7
  have Fo0 := own_efld ev0 c2
  obtain ⟨r1, ev1, S1, E1⟩ := own_enum c20 (hw _ (List.mem_of_getElem? (i := 5) rfl)) (hw _ (List.mem_of_getElem? (i := 37) rfl))
  have Fc1 := own_efld ev1 c22
  have Fa1 := own_efld ev1 c23
  have Fo1 := own_efld ev1 c21
  obtain ⟨r2, ev2, S2, E2⟩ := own_enum c1 (hw _ (List.mem_of_getElem? (i := 5) rfl)) (hw _ (List.mem_of_getElem? (i := 13) rfl))
  have Fc2 := own_efld ev2 c18
  have Fa2 := own_efld ev2 c19
  have Fo2 := own_efld ev2 c3
  obtain ⟨r3, ev3, S3, E3⟩ := own_enum c8 (hw _ (List.mem_of_getElem? (i := 5) rfl)) (hw _ (List.mem_of_getElem? (i := 31) rfl))
  have Fc3 := own_efld ev3 c10
  have Fa3 := own_efld ev3 c11
  have Fo3 := own_efld ev3 c9
  obtain ⟨r4, ev4, S4, E4⟩ := own_enum c24 (hw _ (List.mem_of_getElem? (i := 5) rfl)) (hw _ (List.mem_of_getElem? (i := 39) rfl))
  have Fc4 := own_efld ev4 c26
  have Fa4 := own_efld ev4 c27
  have Fo4 := own_efld ev4 c25
  obtain ⟨r5, ev5, S5, E5⟩ := own_enum c28 (hw _ (List.mem_of_getElem? (i := 5) rfl)) (hw _ (List.mem_of_getElem? (i := 41) rfl))
  have Fc5 := own_efld ev5 c30
  have Fa5 := own_efld ev5 c31
  have Fo5 := own_efld ev5 c29
  obtain ⟨r6, ev6, S6, E6⟩ := own_enum c4 (hw _ (List.mem_of_getElem? (i := 5) rfl)) (hw _ (List.mem_of_getElem? (i := 15) rfl))
  have Fc6 := own_efld ev6 c12
  have Fa6 := own_efld ev6 c13
  have Fo6 := own_efld ev6 c5
  obtain ⟨r7, ev7, S7, E7⟩ := own_enum c14 (hw _ (List.mem_of_getElem? (i := 5) rfl)) (hw _ (List.mem_of_getElem? (i := 34) rfl))
  have Fc7 := own_efld ev7 c16
  have Fa7 := own_efld ev7 c17
  have Fo7 := own_efld ev7 c15
  have ne0_2 := Fld.ne Fo0 Fo2 (by decide)
  have ne1_2 := Fld.ne Fo1 Fo2 (by decide)
  have ne3_2 := Fld.ne Fo3 Fo2 (by decide)
  have ne4_2 := Fld.ne Fo4 Fo2 (by decide)
  have ne5_2 := Fld.ne Fo5 Fo2 (by decide)
  have ne6_2 := Fld.ne Fo6 Fo2 (by decide)
  have ne7_2 := Fld.ne Fo7 Fo2 (by decide)
  have ne0_6 := Fld.ne Fo0 Fo6 (by decide)
  have ne1_6 := Fld.ne Fo1 Fo6 (by decide)
  have ne2_6 := Fld.ne Fo2 Fo6 (by decide)
  have ne3_6 := Fld.ne Fo3 Fo6 (by decide)
  have ne4_6 := Fld.ne Fo4 Fo6 (by decide)
  have ne5_6 := Fld.ne Fo5 Fo6 (by decide)
  have ne7_6 := Fld.ne Fo7 Fo6 (by decide)
  have HE : OEnum s s.heap r0 r1 r2 r3 r4 r5 r6 r7 := ⟨S0, E0, Fc0, Fa0, S1, E1, Fc1, Fa1, S2, E2, Fc2, Fa2, S3, E3, Fc3, Fa3, S4, E4, Fc4, Fa4, S5, E5, Fc5, Fa5, S6, E6, Fc6, Fa6, S7, E7, Fc7, Fa7, ne0_2, ne1_2, ne3_2, ne4_2, ne5_2, ne6_2, ne7_2, ne0_6, ne1_6, ne2_6, ne3_6, ne4_6, ne5_6, ne7_6⟩
  obtain ⟨n, o, h1, h2, h3, _, L, rfl, ⟨rfl, N⟩, hq⟩ := rm_law l s _ hw i0 r0 r1 r2 r3 r4 r5 r6 r7 s.heap.size s.heap HE p e ha hc hk s m _ below hf ((Spec.applies_iff_loose hf).mp happ).1 ⟨rfl, State.Warmed39.refl s, rfl⟩ trivial
  refine ⟨n, _, h1, h2, h3, hpost _ _ _ _ _ _ ⟨Cond.after_iff.mpr rfl, Cond.after_iff.mpr (eq_i res_at (Term.int_eval (1)) rfl), trivial⟩ ⟨hq.1, hq.2.1, (hq.2.2.sift fun y hy => Or.inr (N y hy)).mono (by decide) (by decide)⟩⟩
theorem main_1_1 : Claimed_1_1 := comes_1 fun _ _ _ _ _ _ h hF => ⟨h.1, hF⟩
theorem main_1_2 : Claimed_1_2 := comes_1 fun _ _ _ _ _ _ h hF => ⟨h.2.1, hF⟩
end Jvm.Pilot.@@N@@
namespace Jvm.Pilot.@@N@@
open Jvm Jvm.ClassFile Sem Op Lib Jvm.Free Jvm.Stand Jvm.Pilot.@@N@@.Jvm.D
/-! MADE BY PROGRAM (witnessworld.py) out of the Statement's table words and the real class files: 12 classes; the members and pool entries that the words name. The judged class is class 1, her method 2. -/
namespace start1
open Jvm.ClassFile
def u (s : String) : CpInfo := .utf8 (stringToUtf16 s)
/-- a pool by its gaps: so many unusable entries, then the entry; so many at the end -/
def gap : Nat → List CpInfo → List CpInfo
  | 0, r => r
  | n + 1, r => .unusable :: gap n r
def poolList (es : List (Nat × CpInfo)) (last : Nat) : List CpInfo := es.foldr (fun e r => gap e.1 (e.2 :: r)) (gap last [])
def pool (es : List (Nat × CpInfo)) (last : Nat) : Array CpInfo := ⟨poolList es last⟩
def fileOf (pool : Array CpInfo) (this : Nat) (attrs : Array Attribute := #[]) (ms : Array MethodInfo := #[]) (fl : Nat := 33) (sup : Nat := 0) (ifs : Array Nat := #[]) (fds : Array FieldInfo := #[]) : ClassFile where
  minorVersion := 0
  majorVersion := 65
  constantPool := pool
  accessFlags := fl
  thisClass := this
  superClass := sup
  interfaces := ifs
  fields := fds
  methods := ms
  attributes := attrs
def plain (name : String) (sup : Option ClassId) : Class where
  name := name
  kind := .ordinary
  loader := none
  accessFlags := 33
  super := sup
  interfaces := #[]
  cf := none
  fields := #[]
  methods := #[]
  instanceTypes := #[]
  staticTypes := #[]
  resolved := #[]
  callSites := []
  init := .initialized
  statics := none
  mirror := none

def pool0 : Array CpInfo := pool [(5, u "<init>"), (0, u "()V"), (1, .class_ 10), (1, u "java/lang/Object")] 113

def k0m0 : Method := { name := "<init>", desc := "()V", sig := { parameters := [], returnType := none }, accessFlags := 1, code := none }
/-- java/lang/Object -/
def k0 : Class := { plain "java/lang/Object" none with
  accessFlags := 33
  interfaces := #[]
  cf := some (fileOf pool0 8 #[] #[{ accessFlags := 1, nameIndex := 5, descriptorIndex := 6, attributes := #[] }] 33 0 #[] #[])
  fields := #[]
  methods := #[k0m0]
  instanceTypes := #[]
  staticTypes := #[]
  resolved := Array.replicate 124 none
  statics := none }

def pool1 : Array CpInfo := pool [(2, .class_ 4), (1, u "java/lang/Object"), (0, u "<init>"), (0, u "()V"), (0, .fieldref 8 9), (0, .class_ 10), (0, .nameAndType 11 12), (0, u "com/example/farcall/farcall/model/ReplyStatus"), (0, u "SUCCESS"), (0, u "Lcom/example/farcall/farcall/model/ReplyStatus;"), (0, .fieldref 8 14), (0, .nameAndType 15 12), (0, u "PROG_UNAVAIL"), (0, .fieldref 8 17), (0, .nameAndType 18 12), (0, u "PROG_MISMATCH"), (0, .fieldref 8 20), (0, .nameAndType 21 12), (0, u "PROC_UNAVAIL"), (0, .fieldref 8 23), (0, .nameAndType 24 12), (0, u "GARBAGE_ARGS"), (0, .fieldref 8 26), (0, .nameAndType 27 12), (0, u "SYSTEM_ERR"), (0, .fieldref 8 29), (0, .nameAndType 30 12), (0, u "RPC_MISMATCH"), (0, .fieldref 8 32), (0, .nameAndType 33 12), (0, u "AUTH_ERROR"), (0, .methodref 35 36), (0, .class_ 37), (0, .nameAndType 38 39), (0, u "com/example/farcall/farcall/model/ReplyStatusCarriesVersionsPinLaw"), (0, u "pick"), (0, u "(I)Lcom/example/farcall/farcall/model/ReplyStatus;"), (0, .methodref 8 41), (0, .nameAndType 42 43), (0, u "carriesVersions"), (0, u "()Z"), (0, .methodref 8 45), (0, .nameAndType 46 47), (0, u "getCode"), (0, u "()I"), (0, .methodref 8 49), (0, .nameAndType 50 43), (0, u "isAccepted"), (3, u "law"), (0, u "(I)Z")] 2

def k1m0 : Method := { name := "<init>", desc := "()V", sig := { parameters := [], returnType := none }, accessFlags := 2, code := none }
def k1c1 : Code := { maxStack := 2, maxLocals := 1, code := method_2_code, exceptionTable := #[], attributes := #[] }
def k1m1 : Method := { name := "pick", desc := "(I)Lcom/example/farcall/farcall/model/ReplyStatus;", sig := { parameters := [.int], returnType := some (.object "com/example/farcall/farcall/model/ReplyStatus") }, accessFlags := 10, code := some k1c1 }
def k1c2 : Code := { maxStack := 2, maxLocals := 7, code := code, exceptionTable := #[], attributes := #[] }
def k1m2 : Method := { name := "law", desc := "(I)Z", sig := { parameters := [.int], returnType := some .boolean }, accessFlags := 9, code := some k1c2 }
/-- com/example/farcall/farcall/model/ReplyStatusCarriesVersionsPinLaw -/
def k1 : Class := { plain "com/example/farcall/farcall/model/ReplyStatusCarriesVersionsPinLaw" (some 0) with
  accessFlags := 49
  interfaces := #[]
  cf := some (fileOf pool1 35 #[] #[{ accessFlags := 2, nameIndex := 5, descriptorIndex := 6, attributes := #[] }, { accessFlags := 10, nameIndex := 38, descriptorIndex := 39, attributes := #[] }, { accessFlags := 9, nameIndex := 54, descriptorIndex := 55, attributes := #[] }] 49 2 #[] #[])
  fields := #[]
  methods := #[k1m0, k1m1, k1m2]
  instanceTypes := #[]
  staticTypes := #[]
  resolved := Array.replicate 58 none
  statics := none }

def pool2 : Array CpInfo := pool [(1, .class_ 2), (0, u "java/lang/constant/Constable"), (0, .class_ 4), (0, u "java/lang/Object")] 6

/-- java/lang/constant/Constable -/
def k2 : Class := { plain "java/lang/constant/Constable" (some 0) with
  accessFlags := 1537
  interfaces := #[]
  cf := some (fileOf pool2 1 #[] #[] 1537 3 #[] #[])
  fields := #[]
  methods := #[]
  instanceTypes := #[]
  staticTypes := #[]
  resolved := Array.replicate 11 none
  statics := none }

def pool3 : Array CpInfo := pool [(1, .class_ 2), (0, u "java/lang/Comparable"), (0, .class_ 4), (0, u "java/lang/Object")] 7

/-- java/lang/Comparable -/
def k3 : Class := { plain "java/lang/Comparable" (some 0) with
  accessFlags := 1537
  interfaces := #[]
  cf := some (fileOf pool3 1 #[] #[] 1537 3 #[] #[])
  fields := #[]
  methods := #[]
  instanceTypes := #[]
  staticTypes := #[]
  resolved := Array.replicate 12 none
  statics := none }

def pool4 : Array CpInfo := pool [(1, .class_ 2), (0, u "java/io/Serializable"), (0, .class_ 4), (0, u "java/lang/Object")] 2

/-- java/io/Serializable -/
def k4 : Class := { plain "java/io/Serializable" (some 0) with
  accessFlags := 1537
  interfaces := #[]
  cf := some (fileOf pool4 1 #[] #[] 1537 3 #[] #[])
  fields := #[]
  methods := #[]
  instanceTypes := #[]
  staticTypes := #[]
  resolved := Array.replicate 7 none
  statics := none }

def pool5 : Array CpInfo := pool [(2, .class_ 4), (1, u "java/lang/Enum"), (0, u "name"), (0, u "Ljava/lang/String;"), (2, u "ordinal"), (0, u "I"), (1, .class_ 14), (1, u "java/lang/Object"), (4, u "hash"), (86, .class_ 108), (1, u "java/lang/Enum$EnumDesc"), (2, .class_ 112), (0, u "java/lang/constant/Constable"), (0, .class_ 114), (0, u "java/lang/Comparable"), (0, .class_ 116), (0, u "java/io/Serializable")] 87

/-- java/lang/Enum -/
def k5 : Class := { plain "java/lang/Enum" (some 0) with
  accessFlags := 1057
  interfaces := #[2, 3, 4]
  cf := some (fileOf pool5 2 #[.nestMembers #[106]] #[] 1057 12 #[111, 113, 115] #[{ accessFlags := 18, nameIndex := 5, descriptorIndex := 6, attributes := #[] }, { accessFlags := 18, nameIndex := 9, descriptorIndex := 10, attributes := #[] }, { accessFlags := 2, nameIndex := 19, descriptorIndex := 10, attributes := #[] }])
  fields := #[{ name := "name", type := (.object "java/lang/String"), accessFlags := 18, slot := 0, constantValue := 0 }, { name := "ordinal", type := .int, accessFlags := 18, slot := 1, constantValue := 0 }, { name := "hash", type := .int, accessFlags := 2, slot := 2, constantValue := 0 }]
  methods := #[]
  instanceTypes := #[(.object "java/lang/String"), .int, .int]
  staticTypes := #[]
  resolved := Array.replicate 204 none
  statics := none }

def pool6 : Array CpInfo := pool [(1, .class_ 2), (0, u "com/example/farcall/farcall/model/ReplyStatus"), (2, u "SUCCESS"), (0, u "Lcom/example/farcall/farcall/model/ReplyStatus;"), (2, u "PROG_UNAVAIL"), (0, .fieldref 1 11), (0, .nameAndType 12 6), (0, u "PROG_MISMATCH"), (2, u "PROC_UNAVAIL"), (2, u "GARBAGE_ARGS"), (2, u "SYSTEM_ERR"), (0, .fieldref 1 23), (0, .nameAndType 24 6), (0, u "RPC_MISMATCH"), (2, u "AUTH_ERROR"), (2, u "$VALUES"), (0, u "[Lcom/example/farcall/farcall/model/ReplyStatus;"), (6, .class_ 40), (1, u "java/lang/Enum"), (6, .fieldref 1 48), (0, .nameAndType 49 50), (0, u "accepted"), (0, u "Z"), (0, .fieldref 1 52), (0, .nameAndType 53 54), (0, u "code"), (0, u "I"), (42, u "isAccepted"), (0, u "()Z"), (0, u "getCode"), (0, u "()I"), (0, u "carriesVersions")] 20

def k6c0 : Code := { maxStack := 1, maxLocals := 1, code := prog_51_method_5_code, exceptionTable := #[], attributes := #[] }
def k6m0 : Method := { name := "isAccepted", desc := "()Z", sig := { parameters := [], returnType := some .boolean }, accessFlags := 1, code := some k6c0 }
def k6c1 : Code := { maxStack := 1, maxLocals := 1, code := prog_51_method_6_code, exceptionTable := #[], attributes := #[] }
def k6m1 : Method := { name := "getCode", desc := "()I", sig := { parameters := [], returnType := some .int }, accessFlags := 1, code := some k6c1 }
def k6c2 : Code := { maxStack := 2, maxLocals := 1, code := prog_51_method_7_code, exceptionTable := #[], attributes := #[] }
def k6m2 : Method := { name := "carriesVersions", desc := "()Z", sig := { parameters := [], returnType := some .boolean }, accessFlags := 1, code := some k6c2 }
/-- com/example/farcall/farcall/model/ReplyStatus -/
def k6 : Class := { plain "com/example/farcall/farcall/model/ReplyStatus" (some 5) with
  accessFlags := 16433
  interfaces := #[]
  cf := some (fileOf pool6 1 #[] #[{ accessFlags := 1, nameIndex := 97, descriptorIndex := 98, attributes := #[] }, { accessFlags := 1, nameIndex := 99, descriptorIndex := 100, attributes := #[] }, { accessFlags := 1, nameIndex := 101, descriptorIndex := 98, attributes := #[] }] 16433 38 #[] #[{ accessFlags := 16409, nameIndex := 5, descriptorIndex := 6, attributes := #[] }, { accessFlags := 16409, nameIndex := 9, descriptorIndex := 6, attributes := #[] }, { accessFlags := 16409, nameIndex := 12, descriptorIndex := 6, attributes := #[] }, { accessFlags := 16409, nameIndex := 15, descriptorIndex := 6, attributes := #[] }, { accessFlags := 16409, nameIndex := 18, descriptorIndex := 6, attributes := #[] }, { accessFlags := 16409, nameIndex := 21, descriptorIndex := 6, attributes := #[] }, { accessFlags := 16409, nameIndex := 24, descriptorIndex := 6, attributes := #[] }, { accessFlags := 16409, nameIndex := 27, descriptorIndex := 6, attributes := #[] }, { accessFlags := 18, nameIndex := 49, descriptorIndex := 50, attributes := #[] }, { accessFlags := 18, nameIndex := 53, descriptorIndex := 54, attributes := #[] }, { accessFlags := 4122, nameIndex := 30, descriptorIndex := 31, attributes := #[] }])
  fields := #[{ name := "SUCCESS", type := (.object "com/example/farcall/farcall/model/ReplyStatus"), accessFlags := 16409, slot := 0, constantValue := 0 }, { name := "PROG_UNAVAIL", type := (.object "com/example/farcall/farcall/model/ReplyStatus"), accessFlags := 16409, slot := 1, constantValue := 0 }, { name := "PROG_MISMATCH", type := (.object "com/example/farcall/farcall/model/ReplyStatus"), accessFlags := 16409, slot := 2, constantValue := 0 }, { name := "PROC_UNAVAIL", type := (.object "com/example/farcall/farcall/model/ReplyStatus"), accessFlags := 16409, slot := 3, constantValue := 0 }, { name := "GARBAGE_ARGS", type := (.object "com/example/farcall/farcall/model/ReplyStatus"), accessFlags := 16409, slot := 4, constantValue := 0 }, { name := "SYSTEM_ERR", type := (.object "com/example/farcall/farcall/model/ReplyStatus"), accessFlags := 16409, slot := 5, constantValue := 0 }, { name := "RPC_MISMATCH", type := (.object "com/example/farcall/farcall/model/ReplyStatus"), accessFlags := 16409, slot := 6, constantValue := 0 }, { name := "AUTH_ERROR", type := (.object "com/example/farcall/farcall/model/ReplyStatus"), accessFlags := 16409, slot := 7, constantValue := 0 }, { name := "accepted", type := .boolean, accessFlags := 18, slot := 3, constantValue := 0 }, { name := "code", type := .int, accessFlags := 18, slot := 4, constantValue := 0 }, { name := "$VALUES", type := (.array (.object "com/example/farcall/farcall/model/ReplyStatus")), accessFlags := 4122, slot := 8, constantValue := 0 }]
  methods := #[k6m0, k6m1, k6m2]
  instanceTypes := #[(.object "java/lang/String"), .int, .int, .boolean, .int]
  staticTypes := #[(.object "com/example/farcall/farcall/model/ReplyStatus"), (.object "com/example/farcall/farcall/model/ReplyStatus"), (.object "com/example/farcall/farcall/model/ReplyStatus"), (.object "com/example/farcall/farcall/model/ReplyStatus"), (.object "com/example/farcall/farcall/model/ReplyStatus"), (.object "com/example/farcall/farcall/model/ReplyStatus"), (.object "com/example/farcall/farcall/model/ReplyStatus"), (.object "com/example/farcall/farcall/model/ReplyStatus"), (.array (.object "com/example/farcall/farcall/model/ReplyStatus"))]
  resolved := Array.replicate 122 none
  statics := some 0 }

def pool7 : Array CpInfo := pool [(1, u "java/lang/Cloneable"), (0, .class_ 1), (0, u "java/lang/Object"), (0, .class_ 3)] 3

/-- java/lang/Cloneable -/
def k7 : Class := { plain "java/lang/Cloneable" (some 0) with
  accessFlags := 1537
  interfaces := #[]
  cf := some (fileOf pool7 2 #[] #[] 1537 4 #[] #[])
  fields := #[]
  methods := #[]
  instanceTypes := #[]
  staticTypes := #[]
  resolved := Array.replicate 8 none
  statics := none }

/-- the primitive byte -/
def k8 : Class := { plain "byte" none with kind := .primitive 'B', accessFlags := 0x411 }
/-- [B -/
def k9 : Class := { plain "[B" (some 0) with kind := .array 8 .byte, interfaces := #[7, 4], accessFlags := 1041 }

/-- the primitive int -/
def k10 : Class := { plain "int" none with kind := .primitive 'I', accessFlags := 0x411 }
/-- [I -/
def k11 : Class := { plain "[I" (some 0) with kind := .array 10 .int, interfaces := #[7, 4], accessFlags := 1041 }

def heap : Heap := #[{ cls := 6, slots := #[.ref 1, .ref 2, .ref 3, .ref 4, .ref 5, .ref 6, .ref 7, .ref 8, .null], vm := .statics 6 },
  { cls := 6, slots := #[.null, .int 0, .int 0, .int 1, .int 0], vm := .none },
  { cls := 6, slots := #[.null, .int 1, .int 0, .int 1, .int 1], vm := .none },
  { cls := 6, slots := #[.null, .int 2, .int 0, .int 1, .int 2], vm := .none },
  { cls := 6, slots := #[.null, .int 3, .int 0, .int 1, .int 3], vm := .none },
  { cls := 6, slots := #[.null, .int 4, .int 0, .int 1, .int 4], vm := .none },
  { cls := 6, slots := #[.null, .int 5, .int 0, .int 1, .int 5], vm := .none },
  { cls := 6, slots := #[.null, .int 6, .int 0, .int 0, .int 0], vm := .none },
  { cls := 6, slots := #[.null, .int 7, .int 0, .int 0, .int 1], vm := .none }]
def classes : Array Class := #[k0, k1, k2, k3, k4, k5, k6, k7, k8, k9, k10, k11]
def interned : List (Array UInt16 × Addr) := []
def slotsUsed : Nat := 49
def theMethod : MethodId := ⟨1, 2⟩
def args0 : Array Value := #[.int 5]
def aboutOver (below : List Frame) : State where
  vm := { classes := classes, interned := interned.toArray }
  heap := heap
  slotsUsed := slotsUsed
  threads := #[{ frames := .invoking theMethod args0 :: below }]
def below0 : List Frame := [.native { method := ⟨0, 0⟩, args := #[] }]
def about1 : State := aboutOver below0
def p0 : Program := .bare "" "" ""
def e0 : Env := launch0.env 0 0 0
theorem w_frames : about1.frames = Frame.invoking theMethod args0 :: below0 := rfl
set_option maxRecDepth 65536 in
theorem w_args : argsFit about1.vm theMethod args0 = true := by decide +kernel
set_option maxRecDepth 65536 in
theorem w_heap : heapFits about1 = true := by decide +kernel
set_option maxRecDepth 65536 in
theorem w_runnable : about1.curStatus? = some .runnable := by decide +kernel
set_option maxRecDepth 65536 in
theorem w_alone : about1.alone = true := by decide +kernel
set_option maxRecDepth 65536 in
theorem w_named : about1.methodNamed? x = some theMethod := by decide +kernel
set_option maxRecDepth 65536 in
theorem w_hears : about1.hears theMethod below0 = true := by decide +kernel
set_option maxRecDepth 65536 in
theorem w_ripe : about1.ripe theMethod args0 below0 = true := by decide +kernel
theorem w_running : about1.status = .running := rfl
set_option maxRecDepth 65536 in
theorem w_room : about1.hasRoom e0.platform room_1 = true :=
  launch0.hasRoom_least _ room_1 (by decide +kernel) (by decide +kernel) (by decide +kernel) (by decide +kernel) (by decide +kernel) (by decide +kernel)
theorem allAtoms_all (ts : List Jvm.Cond) (a : Array Jvm.Value) (st : Jvm.State) : (allAtoms ts).before a st = ts.all (fun c => c.before a st) := by
  induction ts with
  | nil => rfl
  | cons c t ih =>
    show (Jvm.Cond.and c (allAtoms t)).before a st = _
    rw [Jvm.Cond.before_and, ih, List.all_cons]
def words1 : List Jvm.Cond := Jvm.Cond.code x code maxLocals ret :: tables_1
/-- a 'code' word, met by the world's own term for the bytes: nothing is compared byte by byte -/
theorem code_word {y : MethodName} {bytes : ByteArray} {mx : Nat} {rt : Option FieldType} {a : Array Value} {s : State} {m : MethodId} {meth : Method} {c : Code} (h1 : s.methodNamed? y = some m) (h2 : s.vm.method? m = some meth) (h3 : meth.code = some c) (h4 : c.code = bytes)
    (h5 : (c.maxLocals == mx && c.exceptionTable.isEmpty && decide (c.maxStack ≤ mostOperands) && decide (meth.sig.returnType = rt) && !meth.locks && decide (parseMethodDescriptor y.desc = some meth.sig)) = true) : (Jvm.Cond.code y bytes mx rt).before a s = true := by
  simp only [Bool.and_eq_true, beq_iff_eq, Bool.not_eq_true', decide_eq_true_eq] at h5
  obtain ⟨⟨⟨⟨⟨g1, g2⟩, g3⟩, g4⟩, g5⟩, g6⟩ := h5
  simp [Cond.before, Cond.holds, Cond.value, h1, h2, h3, h4, g1, g2, g3, g4, g5, g6]
def isCode : Jvm.Cond → Bool
  | .code _ _ _ _ => true
  | _ => false
theorem all_split {L : List Jvm.Cond} {P : Jvm.Cond → Bool} (h1 : L.all (fun c => isCode c || P c) = true) (h2 : ∀ c ∈ L.filter isCode, P c = true) : L.all P = true := by
  refine List.all_eq_true.mpr fun c hc => ?_
  have h := List.all_eq_true.mp h1 c hc
  rcases Bool.eq_false_or_eq_true (isCode c) with hi | hi
  · exact h2 c (List.mem_filter.mpr ⟨hc, hi⟩)
  · simpa [hi] using h
set_option maxRecDepth 65536 in
theorem w_c0 : (Jvm.Cond.code x code maxLocals ret).before args0 about1 = true := code_word (m := ⟨1, 2⟩) (meth := k1m2) (c := k1c2) (by decide +kernel) rfl rfl rfl (by decide +kernel)
set_option maxRecDepth 65536 in
theorem w_c1 : (Jvm.Cond.code ({ cls := "com/example/farcall/farcall/model/ReplyStatusCarriesVersionsPinLaw", name := "pick", desc := "(I)Lcom/example/farcall/farcall/model/ReplyStatus;" } : Jvm.MethodName) method_2_code (1 : Nat) (Option.some (Jvm.ClassFile.FieldType.object "com/example/farcall/farcall/model/ReplyStatus"))).before args0 about1 = true := code_word (m := ⟨1, 1⟩) (meth := k1m1) (c := k1c1) (by decide +kernel) rfl rfl rfl (by decide +kernel)
set_option maxRecDepth 65536 in
theorem w_c2 : (Jvm.Cond.code ({ cls := "com/example/farcall/farcall/model/ReplyStatus", name := "carriesVersions", desc := "()Z" } : Jvm.MethodName) prog_51_method_7_code (1 : Nat) (Option.some Jvm.ClassFile.FieldType.boolean)).before args0 about1 = true := code_word (m := ⟨6, 2⟩) (meth := k6m2) (c := k6c2) (by decide +kernel) rfl rfl rfl (by decide +kernel)
set_option maxRecDepth 65536 in
theorem w_c3 : (Jvm.Cond.code ({ cls := "com/example/farcall/farcall/model/ReplyStatus", name := "getCode", desc := "()I" } : Jvm.MethodName) prog_51_method_6_code (1 : Nat) (Option.some Jvm.ClassFile.FieldType.int)).before args0 about1 = true := code_word (m := ⟨6, 1⟩) (meth := k6m1) (c := k6c1) (by decide +kernel) rfl rfl rfl (by decide +kernel)
set_option maxRecDepth 65536 in
theorem w_c4 : (Jvm.Cond.code ({ cls := "com/example/farcall/farcall/model/ReplyStatus", name := "isAccepted", desc := "()Z" } : Jvm.MethodName) prog_51_method_5_code (1 : Nat) (Option.some Jvm.ClassFile.FieldType.boolean)).before args0 about1 = true := code_word (m := ⟨6, 0⟩) (meth := k6m0) (c := k6c0) (by decide +kernel) rfl rfl rfl (by decide +kernel)
def codes1 : List Jvm.Cond := [Jvm.Cond.code x code maxLocals ret, Jvm.Cond.code ({ cls := "com/example/farcall/farcall/model/ReplyStatusCarriesVersionsPinLaw", name := "pick", desc := "(I)Lcom/example/farcall/farcall/model/ReplyStatus;" } : Jvm.MethodName) method_2_code (1 : Nat) (Option.some (Jvm.ClassFile.FieldType.object "com/example/farcall/farcall/model/ReplyStatus")), Jvm.Cond.code ({ cls := "com/example/farcall/farcall/model/ReplyStatus", name := "carriesVersions", desc := "()Z" } : Jvm.MethodName) prog_51_method_7_code (1 : Nat) (Option.some Jvm.ClassFile.FieldType.boolean), Jvm.Cond.code ({ cls := "com/example/farcall/farcall/model/ReplyStatus", name := "getCode", desc := "()I" } : Jvm.MethodName) prog_51_method_6_code (1 : Nat) (Option.some Jvm.ClassFile.FieldType.int), Jvm.Cond.code ({ cls := "com/example/farcall/farcall/model/ReplyStatus", name := "isAccepted", desc := "()Z" } : Jvm.MethodName) prog_51_method_5_code (1 : Nat) (Option.some Jvm.ClassFile.FieldType.boolean)]
set_option maxRecDepth 65536 in
theorem codes_eq : words1.filter isCode = codes1 := rfl
theorem w_codes : ∀ c ∈ words1.filter isCode, c.before args0 about1 = true := by
  rw [codes_eq]
  intro c hc
  simp only [codes1, List.mem_cons, List.not_mem_nil, or_false] at hc
  rcases hc with rfl | rfl | rfl | rfl | rfl
  · exact w_c0
  · exact w_c1
  · exact w_c2
  · exact w_c3
  · exact w_c4
set_option maxRecDepth 65536 in
theorem w_t1 : (words1.take 24).all (fun c => isCode c || c.before args0 about1) = true := by decide +kernel
set_option maxRecDepth 65536 in
theorem w_t2 : (words1.drop 24).all (fun c => isCode c || c.before args0 about1) = true := by decide +kernel
theorem w_tables : (allAtoms (Jvm.Cond.code x code maxLocals ret :: tables_1)).before args0 about1 = true := by
  rw [allAtoms_all]
  show words1.all (fun c => c.before args0 about1) = true
  refine all_split ?_ w_codes
  rw [← List.take_append_drop 24 words1, List.all_append, w_t1, w_t2]
  rfl
set_option maxRecDepth 65536 in
theorem w_case : (Jvm.Cond.and given_1 narrow_1).before args0 about1 = true := by decide +kernel
theorem w_applies : (headSpec (Jvm.Cond.code x code maxLocals ret :: tables_1) room_1).applies x e0.platform about1 = true :=
  (Spec.applies_iff w_frames).mpr ⟨w_running, w_runnable, w_alone, w_named, w_hears, w_ripe, w_room, w_tables⟩
theorem atStart : AtStart classFile x code maxLocals ret World_1 tables_1 room_1 Calls_1 rest_1 Pre_1 launch0 p0 e0 about1 theMethod args0 below0 :=
  ⟨lists_1, trivial, launch0.admits_env _ _ _, launch0.least_env, fairChoices_fair.cas, fairChoices_fair.clock, w_frames, w_args, w_heap, w_applies, trivial, trivial, w_case⟩
end start1
theorem witness_1 : WitnessClaimed_1 := ⟨start1.p0, start1.e0, start1.about1, start1.theMethod, start1.args0, start1.below0, start1.atStart⟩
end Jvm.Pilot.@@N@@
