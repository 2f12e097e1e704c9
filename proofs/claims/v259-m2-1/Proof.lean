import JvmDerived
import JvmDerived.Pilot.@@N@@Statement
import JvmDerived.Pilot.@@N@@Code
set_option linter.unusedVariables false
set_option linter.unusedSimpArgs false
namespace Jvm.RoadKit
open Sem ClassFile Op Lib Jvm.Stand Jvm.Free Jvm.LawKit
section OwnGo
variable {p : Program} {l : Launch} {e : Env} {R : Room} {s : State} {m : MethodId} {args : Array Value} {below : List Frame} {meth : Method} {c : Code} {T : State} {locs : List Loc} {cells slots : Nat} {Z : State} {a0 : Array Value} {h : Heap} {kc ks : Nat} {Q : Option Value → Heap → List Loc → Prop} {G : Outcome → State → Prop} {U U' : State}
/-- from U the walk ends, and G says how -/
def OGo (p : Program) (e : Env) (below : List Frame) (G : Outcome → State → Prop) (U : State) : Prop :=
  ∃ s₂ o, Steps p.tables e below U s₂ ∧ s₂.status = .running ∧ Ended s₂ below o ∧ G o s₂
/-- it returned, Q says what, and the frame is kept -/
def OEnd (s : State) (kc ks : Nat) (Q : Option Value → Heap → List Loc → Prop) (o : Outcome) (t : State) : Prop := ∃ v L, o = .returned v ∧ Q v t.heap L ∧ FrameEnd s o t L kc ks
/-- the same where a String constant may have come to be interned -/
def OEndW (s : State) (kc ks : Nat) (Q : Option Value → Heap → List Loc → Prop) (o : Outcome) (t : State) : Prop := ∃ v L, o = .returned v ∧ Q v t.heap L ∧ ReturnedEndW s o t L kc ks
theorem OGo.go (f : ∀ t, Steps p.tables e below U' t → Steps p.tables e below U t) (k : OGo p e below G U') : OGo p e below G U := by
  obtain ⟨s₂, o, h1, h2⟩ := k
  exact ⟨s₂, o, f _ h1, h2⟩
theorem OGo.trans (f : Steps p.tables e below U U') (k : OGo p e below G U') : OGo p e below G U := OGo.go (fun _ r => f.trans r) k
/-- two roads that meet again, in a state that differs in one value -/
theorem OGo.ite1 {α : Type} {P : Prop} [Decidable P] (f : α → State) {x y : α} (h1 : P → OGo p e below G (f x) → OGo p e below G U) (h2 : ¬ P → OGo p e below G (f y) → OGo p e below G U) (k : ∀ z, z = (if P then x else y) → OGo p e below G (f z)) : OGo p e below G U := by
  by_cases q : P
  · exact h1 q (k _ (if_pos q).symm)
  · exact h2 q (k _ (if_neg q).symm)
theorem OGo.ite2 {α β : Type} {P : Prop} [Decidable P] (f : α → β → State) {x y : α} {x' y' : β} (h1 : P → OGo p e below G (f x x') → OGo p e below G U) (h2 : ¬ P → OGo p e below G (f y y') → OGo p e below G U) (k : ∀ z z', z = (if P then x else y) → z' = (if P then x' else y') → OGo p e below G (f z z')) : OGo p e below G U := by
  by_cases q : P
  · exact h1 q (k _ _ (if_pos q).symm (if_pos q).symm)
  · exact h2 q (k _ _ (if_neg q).symm (if_neg q).symm)
theorem OGo.cut {H : Prop} (V : State) (k1 : (H → OGo p e below G V) → OGo p e below G U) (k2 : H → OGo p e below G V) : OGo p e below G U := k1 k2
theorem OGo.cut2 {α : Type} {H : α → Prop} (V : α → State) (k1 : (∀ a, H a → OGo p e below G (V a)) → OGo p e below G U) (k2 : ∀ a, H a → OGo p e below G (V a)) : OGo p e below G U := k1 k2
theorem OGo.nm {α : Type} (f : α → State) {x : α} (k : ∀ z, z = x → OGo p e below G (f z)) : OGo p e below G (f x) := k x rfl
/-- the end of the walk -/
theorem OGo.ret (X : Stand p l e R s m args below meth c T locs cells slots) {v : Option Value} {g : JFrame} (hv : meth.sig.returnType = none → v = none) (hlk : meth.locks = false)
    (hs : ∀ fs, (∀ (f : JFrame) (acts : List Action), f.method = m → f.locked = none → f.entered = [] → (doReturn e (T.setTop f) acts v).1 = T.setFrames fs) → Steps p.tables e below (T.setTop g) (T.setFrames fs))
    (hQ : Q v T.heap locs) (hc : cells ≤ kc) (hl : slots ≤ ks) : OGo p e below (OEnd s kc ks Q) (T.setTop g) := by
  obtain ⟨fs, hr, hrun, hended, hW, hsame⟩ := X.leave (v := v) hv hlk
  exact ⟨_, _, hs fs hr, hrun, hended, v, locs, rfl, hQ, ⟨_, rfl⟩, hW, hsame.mono hc hl⟩
/-- return of a boolean, byte, char, short -/
theorem OGo.retN (X : Stand p l e R s m args below meth c T locs cells slots) (hx : p.tables.exec = Jvm.exec) {pc : Nat} {Ls : Array Slot} {z : Int32} {t : FieldType} {rest : List Value} (hret : meth.sig.returnType = some t) (hlk : meth.locks = false) (ht : t = .boolean ∨ t = .byte ∨ t = .char ∨ t = .short)
    (hd : decode c.code pc = .ok (.ireturn, 1)) (hQ : Q (some (.int (nar t z))) T.heap locs) (hc : cells ≤ kc) (hl : slots ≤ ks) : OGo p e below (OEnd s kc ks Q) (T.setTop (mkF m pc Ls (.int z :: rest))) :=
  OGo.ret X (fun q => by rw [hret] at q; cases q) hlk (fun fs hr => Jvm.RoadKit.retN X hx hret ht hd hr) hQ hc hl
/-- return of an int, a long, a double, a reference -/
theorem OGo.retV (X : Stand p l e R s m args below meth c T locs cells slots) (hx : p.tables.exec = Jvm.exec) {pc : Nat} {Ls : Array Slot} {w : Value} {t : FieldType} {i : Instr} {rest : List Value} (hret : meth.sig.returnType = some t) (hlk : meth.locks = false) (hn : narrow t w = w)
    (hi : (i = .ireturn ∧ (t = .int ∨ t = .boolean ∨ t = .byte ∨ t = .char ∨ t = .short) ∧ ∃ z, w = .int z) ∨ (i = .lreturn ∧ t = .long ∧ ∃ z, w = .long z) ∨ (i = .dreturn ∧ t = .double ∧ ∃ z, w = .double z) ∨ (i = .freturn ∧ t = .float ∧ ∃ z, w = .float z) ∨ (i = .areturn ∧ t.isReference = true ∧ w.isRef = true))
    (hd : decode c.code pc = .ok (i, 1)) (hQ : Q (some w) T.heap locs) (hc : cells ≤ kc) (hl : slots ≤ ks) : OGo p e below (OEnd s kc ks Q) (T.setTop (mkF m pc Ls (w :: rest))) :=
  OGo.ret X (fun q => by rw [hret] at q; cases q) hlk (fun fs hr => Jvm.RoadKit.retOut X hx hret hn hi hd hr) hQ hc hl
theorem OGo.retI (X : Stand p l e R s m args below meth c T locs cells slots) (hx : p.tables.exec = Jvm.exec) {pc : Nat} {Ls : Array Slot} {z : Int32} {rest : List Value} (hret : meth.sig.returnType = some .int) (hlk : meth.locks = false)
    (hd : decode c.code pc = .ok (.ireturn, 1)) (hQ : Q (some (.int z)) T.heap locs) (hc : cells ≤ kc) (hl : slots ≤ ks) : OGo p e below (OEnd s kc ks Q) (T.setTop (mkF m pc Ls (.int z :: rest))) :=
  OGo.retV X hx hret hlk rfl (Or.inl ⟨rfl, Or.inl rfl, z, rfl⟩) hd hQ hc hl
theorem OGo.retJ (X : Stand p l e R s m args below meth c T locs cells slots) (hx : p.tables.exec = Jvm.exec) {pc : Nat} {Ls : Array Slot} {z : Int64} {rest : List Value} (hret : meth.sig.returnType = some .long) (hlk : meth.locks = false)
    (hd : decode c.code pc = .ok (.lreturn, 1)) (hQ : Q (some (.long z)) T.heap locs) (hc : cells ≤ kc) (hl : slots ≤ ks) : OGo p e below (OEnd s kc ks Q) (T.setTop (mkF m pc Ls (.long z :: rest))) :=
  OGo.retV X hx hret hlk rfl (Or.inr (Or.inl ⟨rfl, rfl, z, rfl⟩)) hd hQ hc hl
theorem OGo.retD (X : Stand p l e R s m args below meth c T locs cells slots) (hx : p.tables.exec = Jvm.exec) {pc : Nat} {Ls : Array Slot} {z : UInt64} {rest : List Value} (hret : meth.sig.returnType = some .double) (hlk : meth.locks = false)
    (hd : decode c.code pc = .ok (.dreturn, 1)) (hQ : Q (some (.double z)) T.heap locs) (hc : cells ≤ kc) (hl : slots ≤ ks) : OGo p e below (OEnd s kc ks Q) (T.setTop (mkF m pc Ls (.double z :: rest))) :=
  OGo.retV X hx hret hlk rfl (Or.inr (Or.inr (Or.inl ⟨rfl, rfl, z, rfl⟩))) hd hQ hc hl
theorem OGo.retA (X : Stand p l e R s m args below meth c T locs cells slots) (hx : p.tables.exec = Jvm.exec) {pc : Nat} {Ls : Array Slot} {w : Value} {t : FieldType} {rest : List Value} (hret : meth.sig.returnType = some t) (hlk : meth.locks = false) (ht : t.isReference = true) (hw : w.isRef = true)
    (hd : decode c.code pc = .ok (.areturn, 1)) (hQ : Q (some w) T.heap locs) (hc : cells ≤ kc) (hl : slots ≤ ks) : OGo p e below (OEnd s kc ks Q) (T.setTop (mkF m pc Ls (w :: rest))) :=
  OGo.retV X hx hret hlk (by cases t <;> first | (cases ht; done) | (cases w <;> first | rfl | (cases hw; done))) (Or.inr (Or.inr (Or.inr (Or.inr ⟨rfl, ht, hw⟩)))) hd hQ hc hl
theorem OGo.ret0 (X : Stand p l e R s m args below meth c T locs cells slots) (hx : p.tables.exec = Jvm.exec) {pc : Nat} {Ls : Array Slot} (hret : meth.sig.returnType = none) (hlk : meth.locks = false)
    (hd : decode c.code pc = .ok (.return_, 1)) (hQ : Q none T.heap locs) (hc : cells ≤ kc) (hl : slots ≤ ks) : OGo p e below (OEnd s kc ks Q) (T.setTop (mkF m pc Ls [])) :=
  OGo.ret X (fun _ => rfl) hlk (fun fs hr => X.returnOut hx hret hd hr) hQ hc hl
/-- the end of the walk where a String constant may have come to be interned -/
theorem OGo.retW {vm₁ : Vm} {n : Nat} (X : Stand p l e R (s.setVm vm₁) m args below meth c T locs cells slots) (hS : s.Since vm₁ n) (hn : n ≤ T.heap.size) {v : Option Value} {g : JFrame} (hv : meth.sig.returnType = none → v = none) (hlk : meth.locks = false)
    (hs : ∀ fs, (∀ (f : JFrame) (acts : List Action), f.method = m → f.locked = none → f.entered = [] → (doReturn e (T.setTop f) acts v).1 = T.setFrames fs) → Steps p.tables e below (T.setTop g) (T.setFrames fs))
    (hQ : Q v T.heap locs) (hc : cells ≤ kc) (hl : slots ≤ ks) : OGo p e below (OEndW s kc ks Q) (T.setTop g) := by
  obtain ⟨fs, hr, hrun, hended, h1, h2, h3, h4⟩ := X.leaveW hS hn (v := v) hv hlk
  exact ⟨_, _, hs fs hr, hrun, hended, v, locs, rfl, hQ, h1, h2, h3, h4.mono hc hl⟩
theorem OGo.retNW {vm₁ : Vm} {n : Nat} (X : Stand p l e R (s.setVm vm₁) m args below meth c T locs cells slots) (hS : s.Since vm₁ n) (hn : n ≤ T.heap.size) (hx : p.tables.exec = Jvm.exec) {pc : Nat} {Ls : Array Slot} {z : Int32} {t : FieldType} {rest : List Value} (hret : meth.sig.returnType = some t) (hlk : meth.locks = false) (ht : t = .boolean ∨ t = .byte ∨ t = .char ∨ t = .short)
    (hd : decode c.code pc = .ok (.ireturn, 1)) (hQ : Q (some (.int (nar t z))) T.heap locs) (hc : cells ≤ kc) (hl : slots ≤ ks) : OGo p e below (OEndW s kc ks Q) (T.setTop (mkF m pc Ls (.int z :: rest))) :=
  OGo.retW X hS hn (fun q => by rw [hret] at q; cases q) hlk (fun fs hr => Jvm.RoadKit.retN X hx hret ht hd hr) hQ hc hl
/-- a body's contract: called with 'as' at a heap h0, it returns, and Q says what it left -/
def OMet (l : Launch) (Z : State) (y : MethodName) (bytes : ByteArray) (maxL : Nat) (ret : Option FieldType) (ws : List Jvm.Cond) (rm : Room) (as : Array Value) (h0 : Heap) (Q : Option Value → Heap → List Loc → Prop) : Prop :=
  MetFree l y (head1 (Jvm.Cond.code y bytes maxL ret :: ws) rm) (fun a U => a = as ∧ Z.Warmed39 U.vm ∧ U.heap = h0) (fun _ _ _ _ _ => True) (fun _ U o U' => ∃ v L, o = .returned v ∧ Q v U'.heap L ∧ FrameEnd U o U' L rm.cells rm.slots)
theorem OMet.of {y : MethodName} {bytes : ByteArray} {maxL : Nat} {ret : Option FieldType} {ws : List Jvm.Cond} {rm : Room} {as : Array Value} {h0 : Heap} (hpn : plainFor y = true)
    (H : ∀ (p : Program) (e : Env) (s : State) (m : MethodId) (below : List Frame) (meth : Method) (c : Code) (T0 : State), Stand p l e rm s m as below meth c T0 [] 0 0 → p.tables.exec = Jvm.exec → c.code = bytes → c.maxLocals = maxL → s.vm.findClass y.cls = some m.cls → meth.name = y.name → meth.sig.returnType = ret → meth.locks = false → Z.Warmed39 s.vm → T0.heap = h0 →
      OGo p e below (OEnd s rm.cells rm.slots Q) (T0.setTop (entryFrame m as maxL))) : OMet l Z y bytes maxL ret ws rm as h0 Q := by
  refine MetFree.of_bodySF hpn hisR ?_
  intro p e s m args below meth c s₁ Bd hml0 hP hK
  obtain ⟨rfl, hZ, hh⟩ := hP
  exact H p e s m below meth c s₁ (Stand.of_body Bd) Bd.exec Bd.bytes hml0 (findClass_of_methodNamed Bd.named) (name_of_methodNamed Bd.named Bd.method).1 Bd.returns Bd.notSynchronized hZ (by rw [← hh, Bd.state]; rfl)
def OMetW (l : Launch) (Z : State) (y : MethodName) (bytes : ByteArray) (maxL : Nat) (ret : Option FieldType) (ws : List Jvm.Cond) (rm : Room) (as : Array Value) (h0 : Heap) (Q : Option Value → Heap → List Loc → Prop) : Prop :=
  MetFree l y (head1 (Jvm.Cond.code y bytes maxL ret :: ws) rm) (fun a U => a = as ∧ Z.Warmed39 U.vm ∧ U.heap = h0) (fun _ _ _ _ _ => True) (fun _ U o U' => ∃ v L, o = .returned v ∧ Q v U'.heap L ∧ ReturnedEndW U o U' L rm.cells rm.slots)
theorem OMetW.of {y : MethodName} {bytes : ByteArray} {maxL : Nat} {ret : Option FieldType} {ws : List Jvm.Cond} {rm : Room} {as : Array Value} {h0 : Heap} (hpn : plainFor y = true)
    (H : ∀ (p : Program) (e : Env) (s : State) (m : MethodId) (below : List Frame) (meth : Method) (c : Code) (T0 : State), Stand p l e rm s m as below meth c T0 [] 0 0 → p.tables.exec = Jvm.exec → c.code = bytes → c.maxLocals = maxL → s.vm.findClass y.cls = some m.cls → meth.name = y.name → meth.sig.returnType = ret → meth.locks = false → Z.Warmed39 s.vm → T0.heap = h0 →
      OGo p e below (OEndW s rm.cells rm.slots Q) (T0.setTop (entryFrame m as maxL))) : OMetW l Z y bytes maxL ret ws rm as h0 Q := by
  refine MetFree.of_bodySF hpn hisR ?_
  intro p e s m args below meth c s₁ Bd hml0 hP hK
  obtain ⟨rfl, hZ, hh⟩ := hP
  exact H p e s m below meth c s₁ (Stand.of_body Bd) Bd.exec Bd.bytes hml0 (findClass_of_methodNamed Bd.named) (name_of_methodNamed Bd.named Bd.method).1 Bd.returns Bd.notSynchronized hZ (by rw [← hh, Bd.state]; rfl)
/-- a call of a static method -/
theorem OGo.callS (X : Stand p l e R s m args below meth c T locs cells slots) (hx : p.tables.exec = Jvm.exec) (hZ : Z.Warmed39 s.vm) {own : String} {index : Nat} {y : MethodName} {bytes : ByteArray} {maxL : Nat} {ret : Option FieldType}
    (hown : s.vm.findClass own = some m.cls) (w1 : (Jvm.Cond.methodLink own index y).before a0 Z = true) (w2 : (Jvm.Cond.static y).before a0 Z = true) (w3 : (Jvm.Cond.initialized y.cls).before a0 Z = true) (w4 : (Jvm.Cond.code y bytes maxL ret).before a0 Z = true)
    (hy : y.cls ≠ "java/lang/invoke/MethodHandle" ∧ y.cls ≠ "java/lang/invoke/VarHandle") {g : JFrame} {argsL rest : List Value} {rm : Room} {Q' : Option Value → Heap → List Loc → Prop} (eT : T.heap = h) (hM : OMet l Z y bytes maxL ret [] rm argsL.toArray h Q')
    (hg : g.method = m) (hsize : g.locals.size = c.maxLocals) (hlen : ∀ sig, parseMethodDescriptor y.desc = some sig → argsL.length = sig.parameters.length) (hstack : g.stack = argsL.reverse ++ rest) {W : Nat} (hW : 2 * g.monitorRoom + (rest.map fun v => v.category).sum ≤ W) (hd : decode c.code g.pc = .ok (.invokestatic index, 3))
    (hf : rm.frames + 1 ≤ R.frames) (hl : W + (maxL + 11) + rm.locals ≤ R.locals) (hc : cells + rm.cells ≤ R.cells) (hs : slots + rm.slots ≤ R.slots)
    (k : ∀ (v : Option Value) (T' : State) (L' : List Loc), Stand p l e R s m args below meth c T' (locs ++ L') (cells + rm.cells) (slots + rm.slots) → Q' v T'.heap L' → OGo p e below G (T'.setTop { g with pc := g.pc + 3, stack := v.toList ++ rest })) : OGo p e below G (T.setTop g) := by
  obtain ⟨v, vm₁, B, hW₁, X', ⟨L, hQ, e1, e2, e3⟩, st⟩ := Jvm.LawKit.callS X hx (y := y) hown (mvT hZ w1) (mvT hZ w2) (mvT hZ w3) (mvT hZ w4) hy (backOf (W := W) hM hZ w4 w3 hf hl) (g := g) hg hsize (argsL := argsL) (rest := rest) hlen hstack hW hd (fun _ _ => ⟨rfl, eT, hc, hs⟩)
  rw [e1, e2, e3] at X'
  exact OGo.go st (k v B.U L X' hQ)
/-- a call of a constructor -/
theorem OGo.callI (X : Stand p l e R s m args below meth c T locs cells slots) (hx : p.tables.exec = Jvm.exec) (hZ : Z.Warmed39 s.vm) {own : String} {index : Nat} {y : MethodName} {bytes : ByteArray} {maxL : Nat} (hy1 : y.name = "<init>")
    (hown : s.vm.findClass own = some m.cls) (w1 : (Jvm.Cond.methodLink own index y).before a0 Z = true) (w2 : (Jvm.Cond.instanceMethod y).before a0 Z = true) (w3 : (Jvm.Cond.initialized y.cls).before a0 Z = true) (w4 : (Jvm.Cond.code y bytes maxL none).before a0 Z = true)
    (hy : y.cls ≠ "java/lang/invoke/MethodHandle" ∧ y.cls ≠ "java/lang/invoke/VarHandle") {g : JFrame} {a : Addr} {argsL rest : List Value} {rm : Room} {Q' : Option Value → Heap → List Loc → Prop} (eT : T.heap = h) (hM : OMet l Z y bytes maxL none [] rm (.ref a :: argsL).toArray h Q')
    (hg : g.method = m) (hsize : g.locals.size = c.maxLocals) (hlen : ∀ sig, parseMethodDescriptor y.desc = some sig → argsL.length = sig.parameters.length) (hstack : g.stack = argsL.reverse ++ .ref a :: rest) {W : Nat} (hW : 2 * g.monitorRoom + (rest.map fun v => v.category).sum ≤ W) (hd : decode c.code g.pc = .ok (.invokespecial index, 3))
    (hf : rm.frames + 1 ≤ R.frames) (hl : W + (maxL + 11) + rm.locals ≤ R.locals) (hc : cells + rm.cells ≤ R.cells) (hs : slots + rm.slots ≤ R.slots)
    (k : ∀ (v : Option Value) (T' : State) (L' : List Loc), Stand p l e R s m args below meth c T' (locs ++ L') (cells + rm.cells) (slots + rm.slots) → Q' v T'.heap L' → OGo p e below G (T'.setTop { g with pc := g.pc + 3, stack := v.toList ++ rest })) : OGo p e below G (T.setTop g) := by
  obtain ⟨v, vm₁, B, hW₁, X', ⟨L, hQ, e1, e2, e3⟩, st⟩ := X.specialBack hx (y := y) hy1 hown (mvT hZ w1) (mvT hZ w2) (mvT hZ w4) hy (backOf (W := W) hM hZ w4 w3 hf hl) (g := g) hg hsize (Steps.refl _) (a := a) (argsL := argsL) (rest := rest) hlen hstack hW hd (fun _ _ => ⟨rfl, eT, hc, hs⟩)
  rw [e1, e2, e3] at X'
  exact OGo.trans st (k v B.U L X' hQ)
/-- a call of an instance method -/
theorem OGo.callV (X : Stand p l e R s m args below meth c T locs cells slots) (hx : p.tables.exec = Jvm.exec) (hZ : Z.Warmed39 s.vm) {own C : String} {index : Nat} {y : MethodName} {bytes : ByteArray} {maxL : Nat} {ret : Option FieldType}
    (hown : s.vm.findClass own = some m.cls) (w1 : (Jvm.Cond.methodLink own index y).before a0 Z = true) (w5 : (Jvm.Cond.declares y).before a0 Z = true) (w6 : (Jvm.Cond.selects C y y).before a0 Z = true) (w2 : (Jvm.Cond.instanceMethod y).before a0 Z = true) (w3 : (Jvm.Cond.initialized y.cls).before a0 Z = true) (w4 : (Jvm.Cond.code y bytes maxL ret).before a0 Z = true)
    (hy : y.cls ≠ "java/lang/invoke/MethodHandle" ∧ y.cls ≠ "java/lang/invoke/VarHandle") {g : JFrame} {a : Addr} {argsL rest : List Value} {rm : Room} {Q' : Option Value → Heap → List Loc → Prop} (eT : T.heap = h) (E : Exa Z h a C) (hM : OMet l Z y bytes maxL ret [] rm (.ref a :: argsL).toArray h Q')
    (hg : g.method = m) (hsize : g.locals.size = c.maxLocals) (hlen : ∀ sig, parseMethodDescriptor y.desc = some sig → argsL.length = sig.parameters.length) (hstack : g.stack = argsL.reverse ++ .ref a :: rest) {W : Nat} (hW : 2 * g.monitorRoom + (rest.map fun v => v.category).sum ≤ W) (hd : decode c.code g.pc = .ok (.invokevirtual index, 3))
    (hf : rm.frames + 1 ≤ R.frames) (hl : W + (maxL + 11) + rm.locals ≤ R.locals) (hc : cells + rm.cells ≤ R.cells) (hs : slots + rm.slots ≤ R.slots)
    (k : ∀ (v : Option Value) (T' : State) (L' : List Loc), Stand p l e R s m args below meth c T' (locs ++ L') (cells + rm.cells) (slots + rm.slots) → Q' v T'.heap L' → OGo p e below G (T'.setTop { g with pc := g.pc + 3, stack := v.toList ++ rest })) : OGo p e below G (T.setTop g) := by
  obtain ⟨cB, kB, q1, q2, q3⟩ := isOf hZ eT E
  obtain ⟨v, vm₁, B, hW₁, X', ⟨L, hQ, e1, e2, e3⟩, st⟩ := X.virtualBack hx (y := y) (z := y) hown (mvT hZ w1) (mvT hZ w5) (notFace_of_selects (args := #[]) (mvT hZ w6)) (mvT hZ w6) (mvT hZ w2) hy (backOf (W := W) hM hZ w4 w3 hf hl) q1 q3 (g := g) hg hsize (Steps.refl _) (argsL := argsL) (rest := rest) hlen hstack hW hd (fun _ _ => ⟨rfl, eT, hc, hs⟩)
  rw [e1, e2, e3] at X'
  exact OGo.trans st (k v B.U L X' hQ)
/-- what a contract says that leaves the heap as it was -/
def OPure (w : Option Value) (h0 : Heap) (v : Option Value) (h : Heap) (L : List Loc) : Prop := v = w ∧ h = h0 ∧ L = []
/-- a static that a sheet says to hold an object of just this class -/
theorem own_enum {s : State} {args : Array Value} {C n d K : String} (hx : (Jvm.Cond.exactly (.static C n d) K).value args s none s [] = some true) (w1 : (Jvm.Cond.initialized C).before args s = true) (w2 : (Jvm.Cond.laysStatic C n d).before args s = true) :
    ∃ a, (Term.static C n d).eval args s none [] s = some (.ref a) ∧ Sta s s.heap C n d (.ref a) ∧ Exa s s.heap a K := by
  obtain ⟨a, ev⟩ := exa_v hx
  exact ⟨a, ev, Sta.start ev (Or.inr ⟨w1, w2⟩), Exa.start ev hx⟩
theorem own_efld {s : State} {args : Array Value} {t : Term} {C n d : String} {a : Addr} {k : Int32} (ev : t.eval args s none [] s = some (.ref a)) (h : (Jvm.Cond.eq (.field t C n d) (.int k)).value args s none s [] = some true) : Fld s s.heap a C n d (.int k) := by
  obtain ⟨x, y, h1, h2, h3, h4⟩ := cmp_v (Or.inl h)
  have h2' : y = .int k := (Option.some.inj h2).symm
  subst h2'
  obtain ⟨z, rfl⟩ := h4
  have q : (Jvm.Cond.eq (.field t C n d) (.int k)).value args s none s [] = some (decide (z = k)) := by simp [Cond.value, h1, h2]
  have e := gotT q h
  subst e
  exact Fld.start ((fld_at ev).symm.trans h1)
theorem own_sta_keep {h' : Heap} {C n d : String} {v : Value} {ws : List Addr} (F : Sta Z h C n d v) (K : Keep h h' ws) (q : ∀ x ∈ ws, ∀ cell : Cell, h[x]? = some cell → cell.vm.isStatics = false) : Sta Z h' C n d v := by
  obtain ⟨cf, i, k, f, st, cell, h1, h2, h3, h4, h5, h6, h7⟩ := F
  exact ⟨cf, i, k, f, st, cell, h1, h2, h3, h4, K.2.1 _ _ h5 (fun r => by rw [q _ r _ h5] at h6; cases h6), h6, h7⟩
theorem own_plain {a : Addr} {C : String} (F : Exa Z h a C) : ∀ cell : Cell, h[a]? = some cell → cell.vm.isStatics = false := fun cell hc => by
  obtain ⟨c', k, h1, h2, h3, h4, h5⟩ := F
  cases h1.symm.trans hc
  exact h4
theorem nar_b0 : nar .boolean 0 = 0 := by decide
theorem nar_b1 : nar .boolean 1 = 1 := by decide
theorem nar_bite {P : Prop} [Decidable P] {x y : Int32} : nar .boolean (if P then x else y) = if P then nar .boolean x else nar .boolean y := by split <;> rfl
end OwnGo
end Jvm.RoadKit
namespace Jvm.Pilot.@@N@@
open Jvm Jvm.ClassFile Sem Op Lib Jvm.Free Jvm.Stand Jvm.LawKit Jvm.RoadKit Bundle Jvm.Pilot.@@N@@.Jvm.D
theorem pd_0 : parseMethodDescriptor "(ZI)V" = some ⟨[.boolean, .int], none⟩ := by decide +kernel
theorem pd_1 : parseMethodDescriptor "()I" = some ⟨[], some .int⟩ := by decide +kernel
theorem pd_2 : parseMethodDescriptor "(I)Lcom/example/farcall/farcall/io/RecordMark;" = some ⟨[.int], some (.object "com/example/farcall/farcall/io/RecordMark")⟩ := by decide +kernel
theorem d_ini_0 : decode prog_6_method_1_code 0 = .ok (.aload_n 0, 1) := by decide +kernel
theorem d_ini_1 : decode prog_6_method_1_code 1 = .ok (.invokespecial 1, 3) := by decide +kernel
theorem d_ini_4 : decode prog_6_method_1_code 4 = .ok (.iload_n 2, 1) := by decide +kernel
theorem d_ini_5 : decode prog_6_method_1_code 5 = .ok (.ifCond .ge 17, 3) := by decide +kernel
theorem d_ini_22 : decode prog_6_method_1_code 22 = .ok (.aload_n 0, 1) := by decide +kernel
theorem d_ini_23 : decode prog_6_method_1_code 23 = .ok (.iload_n 1, 1) := by decide +kernel
theorem d_ini_24 : decode prog_6_method_1_code 24 = .ok (.putfield 16, 3) := by decide +kernel
theorem d_ini_27 : decode prog_6_method_1_code 27 = .ok (.aload_n 0, 1) := by decide +kernel
theorem d_ini_28 : decode prog_6_method_1_code 28 = .ok (.iload_n 2, 1) := by decide +kernel
theorem d_ini_29 : decode prog_6_method_1_code 29 = .ok (.putfield 22, 3) := by decide +kernel
theorem d_ini_32 : decode prog_6_method_1_code 32 = .ok (.return_, 1) := by decide +kernel
theorem ef_ini (m : MethodId) (a1 : Addr) (x1 : Int32) (x2 : Int32) : entryFrame m #[(.ref a1), (.int x1), (.int x2)] 3 = mkF m 0 #[.val (.ref a1), .val (.int x1), .val (.int x2)] [] := by first | (simp [entryFrame, mkF, argsToLocals, Value.category]; done) | rfl
theorem pn_ini : plainFor (⟨"com/example/farcall/farcall/io/RecordMark", "<init>", "(ZI)V"⟩ : MethodName) = true := by first | exact plainFor_of_name (by first | (simp [plainName, overriddenIn]; done) | decide +kernel) | decide +kernel
set_option maxRecDepth 65536 in
set_option maxHeartbeats 40000000 in
theorem rm_ini (l : Launch) (Z : State) (a0 : Array Value) (hw : ∀ d ∈ tables_1, d.before a0 Z = true) (a1 : Addr) (x1 : Int32) (x2 : Int32) (u1 u2 : Int32) (n0 : Nat) (h0 : Heap) (Z0 : n0 ≤ h0.size) (E0 : Exa Z h0 a1 "com/example/farcall/farcall/io/RecordMark") (f01 : Fld Z h0 a1 "com/example/farcall/farcall/io/RecordMark" "last" "Z" (.int u1)) (f02 : Fld Z h0 a1 "com/example/farcall/farcall/io/RecordMark" "length" "I" (.int u2)) (g0 : n0 ≤ a1) (hge : ¬ x2 < 0) :
    OMet l Z (⟨"com/example/farcall/farcall/io/RecordMark", "<init>", "(ZI)V"⟩ : MethodName) prog_6_method_1_code 3 none [] ({ frames := 1, cells := 0, slots := 0, locals := 12 } : Room) #[(.ref a1), (.int x1), (.int x2)] h0 (fun v h L => v = none ∧ Fr n0 L ∧ Keep h0 h [a1] ∧ Exa Z h a1 "com/example/farcall/farcall/io/RecordMark" ∧ Fld Z h a1 "com/example/farcall/farcall/io/RecordMark" "last" "Z" (.int (nar .boolean x1)) ∧ Fld Z h a1 "com/example/farcall/farcall/io/RecordMark" "length" "I" (.int x2)) := by
  refine OMet.of pn_ini ?_
  intro p e s m below meth c T0 X0 hx hby hml hown0 hnm hret hlk hZ e0
  have hown : s.vm.findClass "com/example/farcall/farcall/io/RecordMark" = some m.cls := hown0
  refine OGo.go (fun t k => castTop (ef_ini m a1 x1 x2) k) ?_
  refine OGo.go (U' := T0.setTop (mkF m 1 #[.val (.ref a1), .val (.int x1), .val (.int x2)] [(.ref a1)])) (fun _ k => XS.aloadN X0.here hx rfl (hb hby d_ini_0) rfl rfl k) ?_
  obtain ⟨T1, X1, e1, st1⟩ := initO X0 hx hZ hown (hw _ (List.mem_of_getElem? (i := 7) rfl)) (hw _ (List.mem_of_getElem? (i := 8) rfl)) (hw _ (List.mem_of_getElem? (i := 9) rfl)) e0 (g := (mkF m 1 #[.val (.ref a1), .val (.int x1), .val (.int x2)] [(.ref a1)])) rfl (by rw [hml]; rfl) rfl (hb hby d_ini_1) (by decide) (W := 0) (by show 2 * 0 + _ ≤ _; exact Nat.le_of_eq rfl) (by decide)
  refine OGo.go (U' := T1.setTop (mkF m 4 #[.val (.ref a1), .val (.int x1), .val (.int x2)] [])) st1 ?_
  refine OGo.go (U' := T1.setTop (mkF m 5 #[.val (.ref a1), .val (.int x1), .val (.int x2)] [(.int x2)])) (fun _ k => XS.iloadN X1.here hx rfl (hb hby d_ini_4) rfl k) ?_
  refine OGo.go (U' := T1.setTop (mkF m 22 #[.val (.ref a1), .val (.int x1), .val (.int x2)] [])) (fun _ k => XS.ifYes X1.here hx rfl (pc0 := 5) (pc' := 22) rfl (hb hby d_ini_5) rfl ((if0 _ _).trans (flt hge).2.1) (by decide) (by decide) k) ?_
  refine OGo.go (U' := T1.setTop (mkF m 23 #[.val (.ref a1), .val (.int x1), .val (.int x2)] [(.ref a1)])) (fun _ k => XS.aloadN X1.here hx rfl (hb hby d_ini_22) rfl rfl k) ?_
  refine OGo.go (U' := T1.setTop (mkF m 24 #[.val (.ref a1), .val (.int x1), .val (.int x2)] [(.int x1), (.ref a1)])) (fun _ k => XS.iloadN X1.here hx rfl (hb hby d_ini_23) rfl k) ?_
  obtain ⟨T2, h2, X2, e2, W2, st2⟩ := putFN X1 hx hZ hown (hw _ (List.mem_of_getElem? (i := 10) rfl)) Via.refl e1 f01 E0 (Or.inr ⟨(hw _ (List.mem_of_getElem? (i := 11) rfl)), rfl, hnm⟩) (hw _ (List.mem_of_getElem? (i := 2) rfl)) (ty := .boolean) (v' := (.int (nar .boolean x1))) (by decide) rfl (fits_nar_bool _) (g := (mkF m 24 #[.val (.ref a1), .val (.int x1), .val (.int x2)] [(.int x1), (.ref a1)])) rfl rfl (hb hby d_ini_24)
  have N3 := Fr.snoc X2 (Fr.nil n0) g0
  have f4 := E0.wr W2
  have f5 := f01.same W2
  have f6 := f02.other W2 (Or.inr (slot_ne (Or.inr (hw _ (List.mem_of_getElem? (i := 13) rfl))) (Or.inr (hw _ (List.mem_of_getElem? (i := 11) rfl))) (by decide) (t := .int) (t' := .boolean) (by decide) (by decide)))
  have K7 := (Keep.refl h0 [a1]).wr W2 (Or.inl (List.mem_of_getElem? (i := 0) rfl))
  refine OGo.go (U' := T2.setTop (mkF m 27 #[.val (.ref a1), .val (.int x1), .val (.int x2)] [])) st2 ?_
  refine OGo.go (U' := T2.setTop (mkF m 28 #[.val (.ref a1), .val (.int x1), .val (.int x2)] [(.ref a1)])) (fun _ k => XS.aloadN X2.here hx rfl (hb hby d_ini_27) rfl rfl k) ?_
  refine OGo.go (U' := T2.setTop (mkF m 29 #[.val (.ref a1), .val (.int x1), .val (.int x2)] [(.int x2), (.ref a1)])) (fun _ k => XS.iloadN X2.here hx rfl (hb hby d_ini_28) rfl k) ?_
  obtain ⟨T8, h8, X8, e8, W8, st8⟩ := putF X2 hx hZ hown (host := "") (Or.inl (hw _ (List.mem_of_getElem? (i := 12) rfl))) Via.refl e2 f6 f4 (Or.inr ⟨(hw _ (List.mem_of_getElem? (i := 13) rfl)), rfl, hnm⟩) (hw _ (List.mem_of_getElem? (i := 2) rfl)) (ty := .int) (by decide) rfl rfl (g := (mkF m 29 #[.val (.ref a1), .val (.int x1), .val (.int x2)] [(.int x2), (.ref a1)])) rfl rfl (hb hby d_ini_29)
  have N9 := Fr.snoc X8 N3 g0
  have f10 := f4.wr W8
  have f11 := f5.other W8 (Or.inr (slot_ne (Or.inr (hw _ (List.mem_of_getElem? (i := 11) rfl))) (Or.inr (hw _ (List.mem_of_getElem? (i := 13) rfl))) (by decide) (t := .boolean) (t' := .int) (by decide) (by decide)))
  have f12 := f6.same W8
  have K13 := K7.wr W8 (Or.inl (List.mem_of_getElem? (i := 0) rfl))
  refine OGo.go (U' := T8.setTop (mkF m 32 #[.val (.ref a1), .val (.int x1), .val (.int x2)] [])) st8 ?_
  refine OGo.ret0 X8 hx hret hlk (hb hby d_ini_32) ?_ (by decide) (by decide)
  rw [e8]
  exact ⟨rfl, N9, K13, f10, f11, f12⟩
def F_enc (u1 u2 : Int32) : Int32 := (if u1 = (0 : Int32) then u2 else (u2 ||| (-2147483648 : Int32)))
theorem d_enc_0 : decode prog_6_method_3_code 0 = .ok (.aload_n 0, 1) := by decide +kernel
theorem d_enc_1 : decode prog_6_method_3_code 1 = .ok (.getfield 22, 3) := by decide +kernel
theorem d_enc_4 : decode prog_6_method_3_code 4 = .ok (.istore_n 1, 1) := by decide +kernel
theorem d_enc_5 : decode prog_6_method_3_code 5 = .ok (.aload_n 0, 1) := by decide +kernel
theorem d_enc_6 : decode prog_6_method_3_code 6 = .ok (.getfield 16, 3) := by decide +kernel
theorem d_enc_9 : decode prog_6_method_3_code 9 = .ok (.ifCond .eq 8, 3) := by decide +kernel
theorem d_enc_12 : decode prog_6_method_3_code 12 = .ok (.iload_n 1, 1) := by decide +kernel
theorem d_enc_13 : decode prog_6_method_3_code 13 = .ok (.ldc 26, 2) := by decide +kernel
theorem d_enc_15 : decode prog_6_method_3_code 15 = .ok (.ior, 1) := by decide +kernel
theorem d_enc_16 : decode prog_6_method_3_code 16 = .ok (.istore_n 1, 1) := by decide +kernel
theorem d_enc_17 : decode prog_6_method_3_code 17 = .ok (.iload_n 1, 1) := by decide +kernel
theorem d_enc_18 : decode prog_6_method_3_code 18 = .ok (.ireturn, 1) := by decide +kernel
theorem ef_enc (m : MethodId) (a1 : Addr) : entryFrame m #[(.ref a1)] 2 = mkF m 0 #[.val (.ref a1), .unset] [] := by first | (simp [entryFrame, mkF, argsToLocals, Value.category]; done) | rfl
theorem pn_enc : plainFor (⟨"com/example/farcall/farcall/io/RecordMark", "encode", "()I"⟩ : MethodName) = true := by first | exact plainFor_of_name (by first | (simp [plainName, overriddenIn]; done) | decide +kernel) | decide +kernel
set_option maxRecDepth 65536 in
set_option maxHeartbeats 40000000 in
theorem rm_enc (l : Launch) (Z : State) (a0 : Array Value) (hw : ∀ d ∈ tables_1, d.before a0 Z = true) (a1 : Addr) (u1 u2 : Int32) (h0 : Heap) (f01 : Fld Z h0 a1 "com/example/farcall/farcall/io/RecordMark" "last" "Z" (.int u1)) (f02 : Fld Z h0 a1 "com/example/farcall/farcall/io/RecordMark" "length" "I" (.int u2)) :
    OMet l Z (⟨"com/example/farcall/farcall/io/RecordMark", "encode", "()I"⟩ : MethodName) prog_6_method_3_code 2 (some .int) [] ({ frames := 0, cells := 0, slots := 0, locals := 0 } : Room) #[(.ref a1)] h0 (OPure (some (.int (F_enc u1 u2))) h0) := by
  refine OMet.of pn_enc ?_
  intro p e s m below meth c T0 X0 hx hby hml hown0 hnm hret hlk hZ e0
  have hown : s.vm.findClass "com/example/farcall/farcall/io/RecordMark" = some m.cls := hown0
  refine OGo.go (fun t k => castTop (ef_enc m a1) k) ?_
  refine OGo.go (U' := T0.setTop (mkF m 1 #[.val (.ref a1), .unset] [(.ref a1)])) (fun _ k => XS.aloadN X0.here hx rfl (hb hby d_enc_0) rfl rfl k) ?_
  obtain ⟨T1, X1, e1, st1⟩ := getF X0 hx hZ hown (host := "") (Or.inl (hw _ (List.mem_of_getElem? (i := 12) rfl))) Via.refl e0 f02 (g := (mkF m 1 #[.val (.ref a1), .unset] [(.ref a1)])) rfl rfl (hb hby d_enc_1)
  refine OGo.go (U' := T1.setTop (mkF m 4 #[.val (.ref a1), .unset] [(.int u2)])) st1 ?_
  refine OGo.go (U' := T1.setTop (mkF m 5 #[.val (.ref a1), .val (.int u2)] [])) (fun _ k => XS.istoreN X1.here hx rfl (hb hby d_enc_4) rfl (l' := #[.val (.ref a1), .val (.int u2)]) rfl k) ?_
  refine OGo.go (U' := T1.setTop (mkF m 6 #[.val (.ref a1), .val (.int u2)] [(.ref a1)])) (fun _ k => XS.aloadN X1.here hx rfl (hb hby d_enc_5) rfl rfl k) ?_
  obtain ⟨T2, X2, e2, st2⟩ := getF X1 hx hZ hown (host := "") (Or.inl (hw _ (List.mem_of_getElem? (i := 10) rfl))) Via.refl e1 f01 (g := (mkF m 6 #[.val (.ref a1), .val (.int u2)] [(.ref a1)])) rfl rfl (hb hby d_enc_6)
  refine OGo.go (U' := T2.setTop (mkF m 9 #[.val (.ref a1), .val (.int u2)] [(.int u1)])) st2 ?_
  refine OGo.ite1 (P := u1 = (0 : Int32)) (fun (z4 : Int32) => T2.setTop (mkF m 17 #[.val (.ref a1), .val (.int z4)] [])) (x := u2) (y := (u2 ||| (-2147483648 : Int32))) (fun hc3 k5 => ?_) (fun hc3 k5 => ?_) ?_
  · skip
    refine OGo.go (U' := T2.setTop (mkF m 17 #[.val (.ref a1), .val (.int u2)] [])) (fun _ k => XS.ifYes X2.here hx rfl (pc0 := 9) (pc' := 17) rfl (hb hby d_enc_9) rfl ((if0 _ _).trans (teq hc3).1) (by decide) (by decide) k) ?_
    exact k5
  · skip
    refine OGo.go (U' := T2.setTop (mkF m 12 #[.val (.ref a1), .val (.int u2)] [])) (fun _ k => XS.ifNo X2.here hx rfl (hb hby d_enc_9) rfl ((if0 _ _).trans (feq hc3).1) k) ?_
    refine OGo.go (U' := T2.setTop (mkF m 13 #[.val (.ref a1), .val (.int u2)] [(.int u2)])) (fun _ k => XS.iloadN X2.here hx rfl (hb hby d_enc_12) rfl k) ?_
    refine OGo.go (U' := T2.setTop (mkF m 15 #[.val (.ref a1), .val (.int u2)] [(.int (-2147483648 : Int32)), (.int u2)])) (fun _ k => X2.ldcInt hx hown (mvT hZ (hw _ (List.mem_of_getElem? (i := 23) rfl))) (g := (mkF m 13 #[.val (.ref a1), .val (.int u2)] [(.int u2)])) rfl (hb hby d_enc_13) _ k) ?_
    refine OGo.go (U' := T2.setTop (mkF m 16 #[.val (.ref a1), .val (.int u2)] [(.int (u2 ||| (-2147483648 : Int32)))])) (fun _ k => XS.ior X2.here hx rfl (hb hby d_enc_15) rfl k) ?_
    refine OGo.go (U' := T2.setTop (mkF m 17 #[.val (.ref a1), .val (.int (u2 ||| (-2147483648 : Int32)))] [])) (fun _ k => XS.istoreN X2.here hx rfl (hb hby d_enc_16) rfl (l' := #[.val (.ref a1), .val (.int (u2 ||| (-2147483648 : Int32)))]) rfl k) ?_
    exact k5
  intro z4 hz4
  refine OGo.go (U' := T2.setTop (mkF m 18 #[.val (.ref a1), .val (.int z4)] [(.int z4)])) (fun _ k => XS.iloadN X2.here hx rfl (hb hby d_enc_17) rfl k) ?_
  refine OGo.retI X2 hx hret hlk (hb hby d_enc_18) ?_ (by decide) (by decide)
  refine ⟨?_, e2, rfl⟩
  subst hz4
  rfl
theorem own_nn (x : Int32) : ¬ (x &&& (2147483647 : Int32)) < 0 := by
  have h := c_and x 2147483647 (by decide)
  rw [Int32.lt_iff_toInt_lt, show (0 : Int32).toInt = 0 by decide]; omega
theorem own_or (x : Int32) : ((x &&& (2147483647 : Int32)) ||| (-2147483648 : Int32)).toInt = (x &&& (2147483647 : Int32)).toInt - 2147483648 := by
  have h := c_and x 2147483647 (by decide)
  have e : (2147483647 : Int32).toInt = 2147483647 := by decide
  have e2 : (-2147483648 : Int32).toInt = -2147483648 := by decide
  have q := c_or' (x &&& (2147483647 : Int32)) (-2147483648) 31 (by decide) 2147483648 (by decide) (by decide) h.1 (by omega)
  have r := rng32 ((x &&& (2147483647 : Int32)) ||| (-2147483648 : Int32))
  omega
theorem own_hi0 (w : Int32) (h : 0 ≤ w.toInt) : w &&& (-2147483648 : Int32) = 0 := by
  have h1 : w.toBitVec.toNat < 2 ^ 31 := by
    have e : w.toInt = w.toBitVec.toInt := rfl
    rw [e, BitVec.toInt_eq_toNat_cond] at h
    split at h <;> omega
  apply Int32.toBitVec_inj.mp
  apply BitVec.eq_of_toNat_eq
  show (w.toBitVec &&& (-2147483648 : Int32).toBitVec).toNat = (0 : Int32).toBitVec.toNat
  rw [BitVec.toNat_and, show (-2147483648 : Int32).toBitVec.toNat = 2 ^ 31 by decide, show (0 : Int32).toBitVec.toNat = 0 by decide]
  apply Nat.eq_of_testBit_eq
  intro i
  rw [Nat.testBit_and, Nat.testBit_two_pow, Nat.zero_testBit]
  by_cases hi : 31 = i
  · subst hi; rw [Nat.testBit_lt_two_pow h1]; rfl
  · simp [hi]
theorem own_hi1 (w : Int32) (h : w.toInt < 0) : ¬ (w &&& (-2147483648 : Int32)) = 0 := fun q => by
  have r := (c_andS w (-2147483648)).1 h (by decide)
  rw [q] at r
  exact absurd r (by decide)
theorem own_m31 (x : Int32) : (x &&& (2147483647 : Int32)).toInt = x.toInt % 2147483648 := by
  have h := c_mask x 2147483647 31 (by decide) (by decide)
  exact h

def F_dl (x0 : Int32) : Int32 := (if (x0 &&& (-2147483648 : Int32)) = (0 : Int32) then (0 : Int32) else (1 : Int32))
theorem d_dec_0 : decode prog_6_method_2_code 0 = .ok (.new 17, 3) := by decide +kernel
theorem d_dec_3 : decode prog_6_method_2_code 3 = .ok (.dup, 1) := by decide +kernel
theorem d_dec_4 : decode prog_6_method_2_code 4 = .ok (.iload_n 0, 1) := by decide +kernel
theorem d_dec_5 : decode prog_6_method_2_code 5 = .ok (.ldc 26, 2) := by decide +kernel
theorem d_dec_7 : decode prog_6_method_2_code 7 = .ok (.iand, 1) := by decide +kernel
theorem d_dec_8 : decode prog_6_method_2_code 8 = .ok (.ifCond .eq 7, 3) := by decide +kernel
theorem d_dec_11 : decode prog_6_method_2_code 11 = .ok (.iconst 1, 1) := by decide +kernel
theorem d_dec_12 : decode prog_6_method_2_code 12 = .ok (.goto 4, 3) := by decide +kernel
theorem d_dec_15 : decode prog_6_method_2_code 15 = .ok (.iconst 0, 1) := by decide +kernel
theorem d_dec_16 : decode prog_6_method_2_code 16 = .ok (.iload_n 0, 1) := by decide +kernel
theorem d_dec_17 : decode prog_6_method_2_code 17 = .ok (.ldc 27, 2) := by decide +kernel
theorem d_dec_19 : decode prog_6_method_2_code 19 = .ok (.iand, 1) := by decide +kernel
theorem d_dec_20 : decode prog_6_method_2_code 20 = .ok (.invokespecial 28, 3) := by decide +kernel
theorem d_dec_23 : decode prog_6_method_2_code 23 = .ok (.areturn, 1) := by decide +kernel
theorem ef_dec (m : MethodId) (x0 : Int32) : entryFrame m #[(.int x0)] 1 = mkF m 0 #[.val (.int x0)] [] := by first | (simp [entryFrame, mkF, argsToLocals, Value.category]; done) | rfl
theorem pn_dec : plainFor (⟨"com/example/farcall/farcall/io/RecordMark", "decode", "(I)Lcom/example/farcall/farcall/io/RecordMark;"⟩ : MethodName) = true := by first | exact plainFor_of_name (by first | (simp [plainName, overriddenIn]; done) | decide +kernel) | decide +kernel
set_option maxRecDepth 65536 in
set_option maxHeartbeats 40000000 in
theorem rm_dec (l : Launch) (Z : State) (a0 : Array Value) (hw : ∀ d ∈ tables_1, d.before a0 Z = true) (x0 : Int32) (n0 : Nat) (h0 : Heap) (Z0 : n0 ≤ h0.size) :
    OMet l Z (⟨"com/example/farcall/farcall/io/RecordMark", "decode", "(I)Lcom/example/farcall/farcall/io/RecordMark;"⟩ : MethodName) prog_6_method_2_code 1 (some (.object "com/example/farcall/farcall/io/RecordMark")) [] ({ frames := 2, cells := 1, slots := 2, locals := 28 } : Room) #[(.int x0)] h0 (fun v h L => ∃ a : Addr, v = some (.ref a) ∧ Fr n0 L ∧ Keep h0 h [] ∧ Exa Z h a "com/example/farcall/farcall/io/RecordMark" ∧ Fld Z h a "com/example/farcall/farcall/io/RecordMark" "last" "Z" (.int (nar .boolean (F_dl x0))) ∧ Fld Z h a "com/example/farcall/farcall/io/RecordMark" "length" "I" (.int (x0 &&& (2147483647 : Int32)))) := by
  refine OMet.of pn_dec ?_
  intro p e s m below meth c T0 X0 hx hby hml hown0 hnm hret hlk hZ e0
  have hown : s.vm.findClass "com/example/farcall/farcall/io/RecordMark" = some m.cls := hown0
  refine OGo.go (fun t k => castTop (ef_dec m x0) k) ?_
  obtain ⟨T1, h1, X1, e1, E1, A1, D1, -, st1⟩ := newO X0 hx hZ hown (hw _ (List.mem_of_getElem? (i := 22) rfl)) (hw _ (List.mem_of_getElem? (i := 2) rfl)) (hw _ (List.mem_of_getElem? (i := 3) rfl)) e0 (g := (mkF m 0 #[.val (.int x0)] [])) rfl (hb hby d_dec_0) (by decide) (by decide)
  obtain ⟨b1, gb1⟩ : ∃ z, z = h0.size := ⟨_, rfl⟩
  rw [← gb1] at A1 D1 st1
  have g2 : n0 ≤ b1 := Nat.le_trans Z0 (Nat.le_of_eq gb1.symm)
  have sz3 := Nat.le_trans (Keep.refl h0 []).1 (Nat.le_of_eq gb1.symm)
  have K4 := (Keep.refl h0 []).ext E1
  have f5 : Fld Z h1 b1 "com/example/farcall/farcall/io/RecordMark" "last" "Z" (.int (0 : Int32)) := D1 (Or.inr (hw _ (List.mem_of_getElem? (i := 11) rfl))) (ty := .boolean) (by decide)
  have f6 : Fld Z h1 b1 "com/example/farcall/farcall/io/RecordMark" "length" "I" (.int (0 : Int32)) := D1 (Or.inr (hw _ (List.mem_of_getElem? (i := 13) rfl))) (ty := .int) (by decide)
  refine OGo.go (U' := T1.setTop (mkF m 3 #[.val (.int x0)] [(.ref b1)])) st1 ?_
  refine OGo.go (U' := T1.setTop (mkF m 4 #[.val (.int x0)] [(.ref b1), (.ref b1)])) (fun _ k => XS.dup X1.here hx rfl (hb hby d_dec_3) rfl rfl k) ?_
  refine OGo.go (U' := T1.setTop (mkF m 5 #[.val (.int x0)] [(.int x0), (.ref b1), (.ref b1)])) (fun _ k => XS.iloadN X1.here hx rfl (hb hby d_dec_4) rfl k) ?_
  refine OGo.go (U' := T1.setTop (mkF m 7 #[.val (.int x0)] [(.int (-2147483648 : Int32)), (.int x0), (.ref b1), (.ref b1)])) (fun _ k => X1.ldcInt hx hown (mvT hZ (hw _ (List.mem_of_getElem? (i := 23) rfl))) (g := (mkF m 5 #[.val (.int x0)] [(.int x0), (.ref b1), (.ref b1)])) rfl (hb hby d_dec_5) _ k) ?_
  refine OGo.go (U' := T1.setTop (mkF m 8 #[.val (.int x0)] [(.int (x0 &&& (-2147483648 : Int32))), (.ref b1), (.ref b1)])) (fun _ k => XS.iand X1.here hx rfl (hb hby d_dec_7) rfl k) ?_
  refine OGo.ite1 (P := (x0 &&& (-2147483648 : Int32)) = (0 : Int32)) (fun (z8 : Int32) => T1.setTop (mkF m 16 #[.val (.int x0)] [(.int z8), (.ref b1), (.ref b1)])) (x := (0 : Int32)) (y := (1 : Int32)) (fun hc7 k9 => ?_) (fun hc7 k9 => ?_) ?_
  · skip
    refine OGo.go (U' := T1.setTop (mkF m 15 #[.val (.int x0)] [(.ref b1), (.ref b1)])) (fun _ k => XS.ifYes X1.here hx rfl (pc0 := 8) (pc' := 15) rfl (hb hby d_dec_8) rfl ((if0 _ _).trans (teq hc7).1) (by decide) (by decide) k) ?_
    refine OGo.go (U' := T1.setTop (mkF m 16 #[.val (.int x0)] [(.int (0 : Int32)), (.ref b1), (.ref b1)])) (fun _ k => XS.iconst X1.here hx rfl (hb hby d_dec_15) k) ?_
    exact k9
  · skip
    refine OGo.go (U' := T1.setTop (mkF m 11 #[.val (.int x0)] [(.ref b1), (.ref b1)])) (fun _ k => XS.ifNo X1.here hx rfl (hb hby d_dec_8) rfl ((if0 _ _).trans (feq hc7).1) k) ?_
    refine OGo.go (U' := T1.setTop (mkF m 12 #[.val (.int x0)] [(.int (1 : Int32)), (.ref b1), (.ref b1)])) (fun _ k => XS.iconst X1.here hx rfl (hb hby d_dec_11) k) ?_
    refine OGo.go (U' := T1.setTop (mkF m 16 #[.val (.int x0)] [(.int (1 : Int32)), (.ref b1), (.ref b1)])) (fun _ k => XS.goto X1.here hx rfl (pc0 := 12) (pc' := 16) rfl (hb hby d_dec_12) (by decide) (by decide) k) ?_
    exact k9
  intro z8 hz8
  refine OGo.go (U' := T1.setTop (mkF m 17 #[.val (.int x0)] [(.int x0), (.int z8), (.ref b1), (.ref b1)])) (fun _ k => XS.iloadN X1.here hx rfl (hb hby d_dec_16) rfl k) ?_
  refine OGo.go (U' := T1.setTop (mkF m 19 #[.val (.int x0)] [(.int (2147483647 : Int32)), (.int x0), (.int z8), (.ref b1), (.ref b1)])) (fun _ k => X1.ldcInt hx hown (mvT hZ (hw _ (List.mem_of_getElem? (i := 24) rfl))) (g := (mkF m 17 #[.val (.int x0)] [(.int x0), (.int z8), (.ref b1), (.ref b1)])) rfl (hb hby d_dec_17) _ k) ?_
  refine OGo.go (U' := T1.setTop (mkF m 20 #[.val (.int x0)] [(.int (x0 &&& (2147483647 : Int32))), (.int z8), (.ref b1), (.ref b1)])) (fun _ k => XS.iand X1.here hx rfl (hb hby d_dec_19) rfl k) ?_
  refine OGo.callI X1 hx hZ (y := (⟨"com/example/farcall/farcall/io/RecordMark", "<init>", "(ZI)V"⟩ : MethodName)) rfl hown (hw _ (List.mem_of_getElem? (i := 25) rfl)) (hw _ (List.mem_of_getElem? (i := 5) rfl)) (hw _ (List.mem_of_getElem? (i := 3) rfl)) (hw _ (List.mem_of_getElem? (i := 6) rfl)) (by decide) (g := (mkF m 20 #[.val (.int x0)] [(.int (x0 &&& (2147483647 : Int32))), (.int z8), (.ref b1), (.ref b1)])) (a := b1) (argsL := [(.int z8), (.int (x0 &&& (2147483647 : Int32)))]) (rest := [(.ref b1)]) e1 (rm_ini l Z a0 hw b1 z8 (x0 &&& (2147483647 : Int32)) (0 : Int32) (0 : Int32) n0 h1 (Nat.le_trans Z0 E1.1) A1 f5 f6 g2 (own_nn x0)) rfl (by rw [hml]; rfl) (lenOf pd_0 rfl) rfl (W := 1) (by show 2 * 0 + _ ≤ _; exact Nat.le_of_eq rfl) (hb hby d_dec_20) (by decide) (by decide) (by decide) (by decide) ?_
  rintro _ T10 L10 X10 ⟨rfl, N10, K10, Ea10, Fa10, Fb10⟩
  have e10 : T10.heap = T10.heap := rfl
  have N11 := Fr.app (Fr.nil n0) N10
  have f12 := A1.keep K10
  have K13 := K4.trans K10 (allS (P := fun x => x ∈ _ ∨ _ ≤ x) (Or.inr sz3) all0)
  refine OGo.retA X10 hx hret hlk rfl rfl (hb hby d_dec_23) ?_ (by decide) (by decide)
  subst hz8
  rw [e10]
  exact ⟨b1, rfl, N11, K13, Ea10, Fa10, Fb10⟩
theorem own_ret_0 {x0 : Int32} {x1 : Int32} {x2 : Int32} {z2 : Int32} {y12 : Int32} {z14 : Int64} {z17 : Int32} {y22 : Int32} {z24 : Int32} (hz2 : z2 = (if (x0 &&& (1 : Int32)) = (0 : Int32) then (0 : Int32) else (1 : Int32))) (hy12 : y12 = (F_enc (nar .boolean z2) (x1 &&& (2147483647 : Int32)))) (hz14 : z14 = (if z2 = (0 : Int32) then ((x1 &&& (2147483647 : Int32)).toInt64) else (((x1 &&& (2147483647 : Int32)).toInt64) - (2147483648 : Int64)))) (hz17 : z17 = (if (y12.toInt64) = z14 then (1 : Int32) else (0 : Int32))) (hy22 : y22 = (F_enc (nar .boolean (F_dl x2)) (x2 &&& (2147483647 : Int32)))) (hz24 : z24 = (if z17 = (0 : Int32) then (0 : Int32) else (if y22 = x2 then (1 : Int32) else (0 : Int32)))) : some (Value.int (nar .boolean z24)) = some (Value.int 1) := by
  have d1 : y12.toInt64 = z14 := by
    by_cases q : (x0 &&& (1 : Int32)) = (0 : Int32)
    · rw [if_pos q] at hz2
      subst hz2
      rw [nar_b0, F_enc, if_pos rfl] at hy12
      rw [if_pos rfl] at hz14
      rw [hy12, hz14]
    · rw [if_neg q] at hz2
      subst hz2
      rw [nar_b1, F_enc, if_neg (by decide)] at hy12
      rw [if_neg (by decide)] at hz14
      apply Int64.toInt_inj.mp
      rw [hz14, c_i2l, hy12, own_or]
      have a1 := c_lsub ((x1 &&& (2147483647 : Int32)).toInt64) (2147483648 : Int64)
      have a2 := rng64 ((x1 &&& (2147483647 : Int32)).toInt64 - (2147483648 : Int64))
      have a3 := own_m31 x1
      rw [c_i2l, show (2147483648 : Int64).toInt = 2147483648 by decide] at a1
      omega
  have d2 : y22 = x2 := by
    have a3 := own_m31 x2
    have r := rng32 x2
    apply Int32.toInt_inj.mp
    by_cases q : 0 ≤ x2.toInt
    · rw [hy22, F_dl, if_pos (own_hi0 x2 q), nar_b0, F_enc, if_pos rfl, a3]
      omega
    · rw [hy22, F_dl, if_neg (own_hi1 x2 (by omega)), nar_b1, F_enc, if_neg (by decide), own_or, a3]
      omega
  rw [if_pos d1] at hz17
  subst hz17
  rw [if_neg (by decide), if_pos d2] at hz24
  subst hz24
  rfl
theorem ef_law (m : MethodId) (x0 : Int32) (x1 : Int32) (x2 : Int32) : entryFrame m #[(.int x0), (.int x1), (.int x2)] maxLocals = mkF m 0 #[.val (.int x0), .val (.int x1), .val (.int x2), .unset, .unset, .unset, .unset, .unset, .unset, .unset, .unset] [] := by first | (simp [entryFrame, mkF, argsToLocals, Value.category, maxLocals]; done) | rfl
theorem pn_law : plainFor x = true := by first | exact plainFor_of_name (by first | (simp [plainName, overriddenIn]; done) | decide +kernel) | decide +kernel
set_option maxRecDepth 65536 in
set_option maxHeartbeats 40000000 in
theorem rm_law (l : Launch) (Z : State) (a0 : Array Value) (hw : ∀ d ∈ tables_1, d.before a0 Z = true) (x0 : Int32) (x1 : Int32) (x2 : Int32) (n0 : Nat) (h0 : Heap) (Z0 : n0 ≤ h0.size) :
    OMet l Z x code maxLocals ret tables_1 room_1 #[(.int x0), (.int x1), (.int x2)] h0 (fun v h L => v = some (.int 1) ∧ Fr n0 L) := by
  refine OMet.of pn_law ?_
  intro p e s m below meth c T0 X0 hx hby hml hown0 hnm hret hlk hZ e0
  have hown : s.vm.findClass "com/example/farcall/farcall/io/RecordMarkEncodePinLaw" = some m.cls := hown0
  refine OGo.go (fun t k => castTop (ef_law m x0 x1 x2) k) ?_
  refine OGo.go (U' := T0.setTop (mkF m 1 #[.val (.int x0), .val (.int x1), .val (.int x2), .unset, .unset, .unset, .unset, .unset, .unset, .unset, .unset] [(.int x0)])) (fun _ k => XS.iloadN X0.here hx rfl (hb hby at_0) rfl k) ?_
  refine OGo.go (U' := T0.setTop (mkF m 2 #[.val (.int x0), .val (.int x1), .val (.int x2), .unset, .unset, .unset, .unset, .unset, .unset, .unset, .unset] [(.int (1 : Int32)), (.int x0)])) (fun _ k => XS.iconst X0.here hx rfl (hb hby at_1) k) ?_
  refine OGo.go (U' := T0.setTop (mkF m 3 #[.val (.int x0), .val (.int x1), .val (.int x2), .unset, .unset, .unset, .unset, .unset, .unset, .unset, .unset] [(.int (x0 &&& (1 : Int32)))])) (fun _ k => XS.iand X0.here hx rfl (hb hby at_2) rfl k) ?_
  refine OGo.ite1 (P := (x0 &&& (1 : Int32)) = (0 : Int32)) (fun (z2 : Int32) => T0.setTop (mkF m 11 #[.val (.int x0), .val (.int x1), .val (.int x2), .unset, .unset, .unset, .unset, .unset, .unset, .unset, .unset] [(.int z2)])) (x := (0 : Int32)) (y := (1 : Int32)) (fun hc1 k3 => ?_) (fun hc1 k3 => ?_) ?_
  · skip
    refine OGo.go (U' := T0.setTop (mkF m 10 #[.val (.int x0), .val (.int x1), .val (.int x2), .unset, .unset, .unset, .unset, .unset, .unset, .unset, .unset] [])) (fun _ k => XS.ifYes X0.here hx rfl (pc0 := 3) (pc' := 10) rfl (hb hby at_3) rfl ((if0 _ _).trans (teq hc1).1) (by decide) (by decide) k) ?_
    refine OGo.go (U' := T0.setTop (mkF m 11 #[.val (.int x0), .val (.int x1), .val (.int x2), .unset, .unset, .unset, .unset, .unset, .unset, .unset, .unset] [(.int (0 : Int32))])) (fun _ k => XS.iconst X0.here hx rfl (hb hby at_10) k) ?_
    exact k3
  · skip
    refine OGo.go (U' := T0.setTop (mkF m 6 #[.val (.int x0), .val (.int x1), .val (.int x2), .unset, .unset, .unset, .unset, .unset, .unset, .unset, .unset] [])) (fun _ k => XS.ifNo X0.here hx rfl (hb hby at_3) rfl ((if0 _ _).trans (feq hc1).1) k) ?_
    refine OGo.go (U' := T0.setTop (mkF m 7 #[.val (.int x0), .val (.int x1), .val (.int x2), .unset, .unset, .unset, .unset, .unset, .unset, .unset, .unset] [(.int (1 : Int32))])) (fun _ k => XS.iconst X0.here hx rfl (hb hby at_6) k) ?_
    refine OGo.go (U' := T0.setTop (mkF m 11 #[.val (.int x0), .val (.int x1), .val (.int x2), .unset, .unset, .unset, .unset, .unset, .unset, .unset, .unset] [(.int (1 : Int32))])) (fun _ k => XS.goto X0.here hx rfl (pc0 := 7) (pc' := 11) rfl (hb hby at_7) (by decide) (by decide) k) ?_
    exact k3
  intro z2 hz2
  refine OGo.go (U' := T0.setTop (mkF m 12 #[.val (.int x0), .val (.int x1), .val (.int x2), .val (.int z2), .unset, .unset, .unset, .unset, .unset, .unset, .unset] [])) (fun _ k => XS.istoreN X0.here hx rfl (hb hby at_11) rfl (l' := #[.val (.int x0), .val (.int x1), .val (.int x2), .val (.int z2), .unset, .unset, .unset, .unset, .unset, .unset, .unset]) rfl k) ?_
  refine OGo.go (U' := T0.setTop (mkF m 13 #[.val (.int x0), .val (.int x1), .val (.int x2), .val (.int z2), .unset, .unset, .unset, .unset, .unset, .unset, .unset] [(.int x1)])) (fun _ k => XS.iloadN X0.here hx rfl (hb hby at_12) rfl k) ?_
  refine OGo.go (U' := T0.setTop (mkF m 15 #[.val (.int x0), .val (.int x1), .val (.int x2), .val (.int z2), .unset, .unset, .unset, .unset, .unset, .unset, .unset] [(.int (2147483647 : Int32)), (.int x1)])) (fun _ k => X0.ldcInt hx hown (mvT hZ (hw _ (List.mem_of_getElem? (i := 0) rfl))) (g := (mkF m 13 #[.val (.int x0), .val (.int x1), .val (.int x2), .val (.int z2), .unset, .unset, .unset, .unset, .unset, .unset, .unset] [(.int x1)])) rfl (hb hby at_13) _ k) ?_
  refine OGo.go (U' := T0.setTop (mkF m 16 #[.val (.int x0), .val (.int x1), .val (.int x2), .val (.int z2), .unset, .unset, .unset, .unset, .unset, .unset, .unset] [(.int (x1 &&& (2147483647 : Int32)))])) (fun _ k => XS.iand X0.here hx rfl (hb hby at_15) rfl k) ?_
  refine OGo.go (U' := T0.setTop (mkF m 18 #[.val (.int x0), .val (.int x1), .val (.int x2), .val (.int z2), .val (.int (x1 &&& (2147483647 : Int32))), .unset, .unset, .unset, .unset, .unset, .unset] [])) (fun _ k => XS.istore X0.here hx rfl (hb hby at_16) rfl (l' := #[.val (.int x0), .val (.int x1), .val (.int x2), .val (.int z2), .val (.int (x1 &&& (2147483647 : Int32))), .unset, .unset, .unset, .unset, .unset, .unset]) rfl k) ?_
  obtain ⟨T4, h4, X4, e4, E4, A4, D4, -, st4⟩ := newO X0 hx hZ hown (hw _ (List.mem_of_getElem? (i := 1) rfl)) (hw _ (List.mem_of_getElem? (i := 2) rfl)) (hw _ (List.mem_of_getElem? (i := 3) rfl)) e0 (g := (mkF m 18 #[.val (.int x0), .val (.int x1), .val (.int x2), .val (.int z2), .val (.int (x1 &&& (2147483647 : Int32))), .unset, .unset, .unset, .unset, .unset, .unset] [])) rfl (hb hby at_18) (by decide) (by decide)
  obtain ⟨b4, gb4⟩ : ∃ z, z = h0.size := ⟨_, rfl⟩
  rw [← gb4] at A4 D4 st4
  have g5 : n0 ≤ b4 := Nat.le_trans Z0 (Nat.le_of_eq gb4.symm)
  have f6 : Fld Z h4 b4 "com/example/farcall/farcall/io/RecordMark" "last" "Z" (.int (0 : Int32)) := D4 (Or.inr (hw _ (List.mem_of_getElem? (i := 11) rfl))) (ty := .boolean) (by decide)
  have f7 : Fld Z h4 b4 "com/example/farcall/farcall/io/RecordMark" "length" "I" (.int (0 : Int32)) := D4 (Or.inr (hw _ (List.mem_of_getElem? (i := 13) rfl))) (ty := .int) (by decide)
  refine OGo.go (U' := T4.setTop (mkF m 21 #[.val (.int x0), .val (.int x1), .val (.int x2), .val (.int z2), .val (.int (x1 &&& (2147483647 : Int32))), .unset, .unset, .unset, .unset, .unset, .unset] [(.ref b4)])) st4 ?_
  refine OGo.go (U' := T4.setTop (mkF m 22 #[.val (.int x0), .val (.int x1), .val (.int x2), .val (.int z2), .val (.int (x1 &&& (2147483647 : Int32))), .unset, .unset, .unset, .unset, .unset, .unset] [(.ref b4), (.ref b4)])) (fun _ k => XS.dup X4.here hx rfl (hb hby at_21) rfl rfl k) ?_
  refine OGo.go (U' := T4.setTop (mkF m 23 #[.val (.int x0), .val (.int x1), .val (.int x2), .val (.int z2), .val (.int (x1 &&& (2147483647 : Int32))), .unset, .unset, .unset, .unset, .unset, .unset] [(.int z2), (.ref b4), (.ref b4)])) (fun _ k => XS.iloadN X4.here hx rfl (hb hby at_22) rfl k) ?_
  refine OGo.go (U' := T4.setTop (mkF m 25 #[.val (.int x0), .val (.int x1), .val (.int x2), .val (.int z2), .val (.int (x1 &&& (2147483647 : Int32))), .unset, .unset, .unset, .unset, .unset, .unset] [(.int (x1 &&& (2147483647 : Int32))), (.int z2), (.ref b4), (.ref b4)])) (fun _ k => XS.iload X4.here hx rfl (hb hby at_23) rfl k) ?_
  refine OGo.callI X4 hx hZ (y := (⟨"com/example/farcall/farcall/io/RecordMark", "<init>", "(ZI)V"⟩ : MethodName)) rfl hown (hw _ (List.mem_of_getElem? (i := 4) rfl)) (hw _ (List.mem_of_getElem? (i := 5) rfl)) (hw _ (List.mem_of_getElem? (i := 3) rfl)) (hw _ (List.mem_of_getElem? (i := 6) rfl)) (by decide) (g := (mkF m 25 #[.val (.int x0), .val (.int x1), .val (.int x2), .val (.int z2), .val (.int (x1 &&& (2147483647 : Int32))), .unset, .unset, .unset, .unset, .unset, .unset] [(.int (x1 &&& (2147483647 : Int32))), (.int z2), (.ref b4), (.ref b4)])) (a := b4) (argsL := [(.int z2), (.int (x1 &&& (2147483647 : Int32)))]) (rest := [(.ref b4)]) e4 (rm_ini l Z a0 hw b4 z2 (x1 &&& (2147483647 : Int32)) (0 : Int32) (0 : Int32) n0 h4 (Nat.le_trans Z0 E4.1) A4 f6 f7 g5 (own_nn x1)) rfl (by rw [hml]; rfl) (lenOf pd_0 rfl) rfl (W := 1) (by show 2 * 0 + _ ≤ _; exact Nat.le_of_eq rfl) (hb hby at_25) (by decide) (by decide) (by decide) (by decide) ?_
  rintro _ T8 L8 X8 ⟨rfl, N8, K8, Ea8, Fa8, Fb8⟩
  have e8 : T8.heap = T8.heap := rfl
  have N9 := Fr.app (Fr.nil n0) N8
  have f10 := A4.keep K8
  refine OGo.go (U' := T8.setTop (mkF m 30 #[.val (.int x0), .val (.int x1), .val (.int x2), .val (.int z2), .val (.int (x1 &&& (2147483647 : Int32))), .val (.ref b4), .unset, .unset, .unset, .unset, .unset] [])) (fun _ k => XS.astore X8.here hx rfl (hb hby at_28) rfl rfl (l' := #[.val (.int x0), .val (.int x1), .val (.int x2), .val (.int z2), .val (.int (x1 &&& (2147483647 : Int32))), .val (.ref b4), .unset, .unset, .unset, .unset, .unset]) rfl k) ?_
  refine OGo.go (U' := T8.setTop (mkF m 32 #[.val (.int x0), .val (.int x1), .val (.int x2), .val (.int z2), .val (.int (x1 &&& (2147483647 : Int32))), .val (.ref b4), .unset, .unset, .unset, .unset, .unset] [(.ref b4)])) (fun _ k => XS.aload X8.here hx rfl (hb hby at_30) rfl rfl k) ?_
  refine OGo.callV X8 hx hZ (y := (⟨"com/example/farcall/farcall/io/RecordMark", "encode", "()I"⟩ : MethodName)) (C := "com/example/farcall/farcall/io/RecordMark") hown (hw _ (List.mem_of_getElem? (i := 14) rfl)) (hw _ (List.mem_of_getElem? (i := 15) rfl)) (hw _ (List.mem_of_getElem? (i := 17) rfl)) (hw _ (List.mem_of_getElem? (i := 16) rfl)) (hw _ (List.mem_of_getElem? (i := 3) rfl)) (hw _ (List.mem_of_getElem? (i := 18) rfl)) (by decide) (g := (mkF m 32 #[.val (.int x0), .val (.int x1), .val (.int x2), .val (.int z2), .val (.int (x1 &&& (2147483647 : Int32))), .val (.ref b4), .unset, .unset, .unset, .unset, .unset] [(.ref b4)])) (a := b4) (argsL := []) (rest := []) e8 Ea8 (rm_enc l Z a0 hw b4 (nar .boolean z2) (x1 &&& (2147483647 : Int32)) T8.heap Fa8 Fb8) rfl (by rw [hml]; rfl) (lenOf pd_1 rfl) rfl (W := 0) (by show 2 * 0 + _ ≤ _; exact Nat.le_of_eq rfl) (hb hby at_32) (by decide) (by decide) (by decide) (by decide) ?_
  rintro _ T11 _ X11 ⟨rfl, e11, rfl⟩
  rw [List.append_nil] at X11
  refine OGo.nm (fun (y12 : Int32) => T11.setTop (mkF m 35 #[.val (.int x0), .val (.int x1), .val (.int x2), .val (.int z2), .val (.int (x1 &&& (2147483647 : Int32))), .val (.ref b4), .unset, .unset, .unset, .unset, .unset] [(.int y12)])) (x := (F_enc (nar .boolean z2) (x1 &&& (2147483647 : Int32)))) (fun y12 hy12 => ?_)
  refine OGo.go (U' := T11.setTop (mkF m 37 #[.val (.int x0), .val (.int x1), .val (.int x2), .val (.int z2), .val (.int (x1 &&& (2147483647 : Int32))), .val (.ref b4), .val (.int y12), .unset, .unset, .unset, .unset] [])) (fun _ k => XS.istore X11.here hx rfl (hb hby at_35) rfl (l' := #[.val (.int x0), .val (.int x1), .val (.int x2), .val (.int z2), .val (.int (x1 &&& (2147483647 : Int32))), .val (.ref b4), .val (.int y12), .unset, .unset, .unset, .unset]) rfl k) ?_
  refine OGo.go (U' := T11.setTop (mkF m 38 #[.val (.int x0), .val (.int x1), .val (.int x2), .val (.int z2), .val (.int (x1 &&& (2147483647 : Int32))), .val (.ref b4), .val (.int y12), .unset, .unset, .unset, .unset] [(.int z2)])) (fun _ k => XS.iloadN X11.here hx rfl (hb hby at_37) rfl k) ?_
  refine OGo.ite1 (P := z2 = (0 : Int32)) (fun (z14 : Int64) => T11.setTop (mkF m 54 #[.val (.int x0), .val (.int x1), .val (.int x2), .val (.int z2), .val (.int (x1 &&& (2147483647 : Int32))), .val (.ref b4), .val (.int y12), .unset, .unset, .unset, .unset] [(.long z14)])) (x := ((x1 &&& (2147483647 : Int32)).toInt64)) (y := (((x1 &&& (2147483647 : Int32)).toInt64) - (2147483648 : Int64))) (fun hc13 k15 => ?_) (fun hc13 k15 => ?_) ?_
  · skip
    refine OGo.go (U' := T11.setTop (mkF m 51 #[.val (.int x0), .val (.int x1), .val (.int x2), .val (.int z2), .val (.int (x1 &&& (2147483647 : Int32))), .val (.ref b4), .val (.int y12), .unset, .unset, .unset, .unset] [])) (fun _ k => XS.ifYes X11.here hx rfl (pc0 := 38) (pc' := 51) rfl (hb hby at_38) rfl ((if0 _ _).trans (teq hc13).1) (by decide) (by decide) k) ?_
    refine OGo.go (U' := T11.setTop (mkF m 53 #[.val (.int x0), .val (.int x1), .val (.int x2), .val (.int z2), .val (.int (x1 &&& (2147483647 : Int32))), .val (.ref b4), .val (.int y12), .unset, .unset, .unset, .unset] [(.int (x1 &&& (2147483647 : Int32)))])) (fun _ k => XS.iload X11.here hx rfl (hb hby at_51) rfl k) ?_
    refine OGo.go (U' := T11.setTop (mkF m 54 #[.val (.int x0), .val (.int x1), .val (.int x2), .val (.int z2), .val (.int (x1 &&& (2147483647 : Int32))), .val (.ref b4), .val (.int y12), .unset, .unset, .unset, .unset] [(.long ((x1 &&& (2147483647 : Int32)).toInt64))])) (fun _ k => XS.i2l X11.here hx rfl (hb hby at_53) rfl k) ?_
    exact k15
  · skip
    refine OGo.go (U' := T11.setTop (mkF m 41 #[.val (.int x0), .val (.int x1), .val (.int x2), .val (.int z2), .val (.int (x1 &&& (2147483647 : Int32))), .val (.ref b4), .val (.int y12), .unset, .unset, .unset, .unset] [])) (fun _ k => XS.ifNo X11.here hx rfl (hb hby at_38) rfl ((if0 _ _).trans (feq hc13).1) k) ?_
    refine OGo.go (U' := T11.setTop (mkF m 43 #[.val (.int x0), .val (.int x1), .val (.int x2), .val (.int z2), .val (.int (x1 &&& (2147483647 : Int32))), .val (.ref b4), .val (.int y12), .unset, .unset, .unset, .unset] [(.int (x1 &&& (2147483647 : Int32)))])) (fun _ k => XS.iload X11.here hx rfl (hb hby at_41) rfl k) ?_
    refine OGo.go (U' := T11.setTop (mkF m 44 #[.val (.int x0), .val (.int x1), .val (.int x2), .val (.int z2), .val (.int (x1 &&& (2147483647 : Int32))), .val (.ref b4), .val (.int y12), .unset, .unset, .unset, .unset] [(.long ((x1 &&& (2147483647 : Int32)).toInt64))])) (fun _ k => XS.i2l X11.here hx rfl (hb hby at_43) rfl k) ?_
    refine OGo.go (U' := T11.setTop (mkF m 47 #[.val (.int x0), .val (.int x1), .val (.int x2), .val (.int z2), .val (.int (x1 &&& (2147483647 : Int32))), .val (.ref b4), .val (.int y12), .unset, .unset, .unset, .unset] [(.long (2147483648 : Int64)), (.long ((x1 &&& (2147483647 : Int32)).toInt64))])) (fun _ k => X11.ldc2Long hx hown (mvT hZ (hw _ (List.mem_of_getElem? (i := 26) rfl))) (g := (mkF m 44 #[.val (.int x0), .val (.int x1), .val (.int x2), .val (.int z2), .val (.int (x1 &&& (2147483647 : Int32))), .val (.ref b4), .val (.int y12), .unset, .unset, .unset, .unset] [(.long ((x1 &&& (2147483647 : Int32)).toInt64))])) rfl (hb hby at_44) _ k) ?_
    refine OGo.go (U' := T11.setTop (mkF m 48 #[.val (.int x0), .val (.int x1), .val (.int x2), .val (.int z2), .val (.int (x1 &&& (2147483647 : Int32))), .val (.ref b4), .val (.int y12), .unset, .unset, .unset, .unset] [(.long (((x1 &&& (2147483647 : Int32)).toInt64) - (2147483648 : Int64)))])) (fun _ k => XS.lsub X11.here hx rfl (hb hby at_47) rfl k) ?_
    refine OGo.go (U' := T11.setTop (mkF m 54 #[.val (.int x0), .val (.int x1), .val (.int x2), .val (.int z2), .val (.int (x1 &&& (2147483647 : Int32))), .val (.ref b4), .val (.int y12), .unset, .unset, .unset, .unset] [(.long (((x1 &&& (2147483647 : Int32)).toInt64) - (2147483648 : Int64)))])) (fun _ k => XS.goto X11.here hx rfl (pc0 := 48) (pc' := 54) rfl (hb hby at_48) (by decide) (by decide) k) ?_
    exact k15
  intro z14 hz14
  refine OGo.go (U' := T11.setTop (mkF m 56 #[.val (.int x0), .val (.int x1), .val (.int x2), .val (.int z2), .val (.int (x1 &&& (2147483647 : Int32))), .val (.ref b4), .val (.int y12), .val (.long z14), .second, .unset, .unset] [])) (fun _ k => XS.lstore X11.here hx rfl (hb hby at_54) rfl (l' := #[.val (.int x0), .val (.int x1), .val (.int x2), .val (.int z2), .val (.int (x1 &&& (2147483647 : Int32))), .val (.ref b4), .val (.int y12), .val (.long z14), .second, .unset, .unset]) rfl k) ?_
  refine OGo.go (U' := T11.setTop (mkF m 58 #[.val (.int x0), .val (.int x1), .val (.int x2), .val (.int z2), .val (.int (x1 &&& (2147483647 : Int32))), .val (.ref b4), .val (.int y12), .val (.long z14), .second, .unset, .unset] [(.int y12)])) (fun _ k => XS.iload X11.here hx rfl (hb hby at_56) rfl k) ?_
  refine OGo.go (U' := T11.setTop (mkF m 59 #[.val (.int x0), .val (.int x1), .val (.int x2), .val (.int z2), .val (.int (x1 &&& (2147483647 : Int32))), .val (.ref b4), .val (.int y12), .val (.long z14), .second, .unset, .unset] [(.long (y12.toInt64))])) (fun _ k => XS.i2l X11.here hx rfl (hb hby at_58) rfl k) ?_
  refine OGo.go (U' := T11.setTop (mkF m 61 #[.val (.int x0), .val (.int x1), .val (.int x2), .val (.int z2), .val (.int (x1 &&& (2147483647 : Int32))), .val (.ref b4), .val (.int y12), .val (.long z14), .second, .unset, .unset] [(.long z14), (.long (y12.toInt64))])) (fun _ k => XS.lload X11.here hx rfl (hb hby at_59) rfl k) ?_
  refine OGo.go (U' := T11.setTop (mkF m 62 #[.val (.int x0), .val (.int x1), .val (.int x2), .val (.int z2), .val (.int (x1 &&& (2147483647 : Int32))), .val (.ref b4), .val (.int y12), .val (.long z14), .second, .unset, .unset] [(.int (lcmpW (y12.toInt64) z14))])) (fun _ k => XS.lcmp X11.here hx rfl (hb hby at_61) rfl k) ?_
  refine OGo.ite1 (P := (y12.toInt64) = z14) (fun (z17 : Int32) => T11.setTop (mkF m 70 #[.val (.int x0), .val (.int x1), .val (.int x2), .val (.int z2), .val (.int (x1 &&& (2147483647 : Int32))), .val (.ref b4), .val (.int y12), .val (.long z14), .second, .unset, .unset] [(.int z17)])) (x := (1 : Int32)) (y := (0 : Int32)) (fun hc16 k18 => ?_) (fun hc16 k18 => ?_) ?_
  · skip
    refine OGo.go (U' := T11.setTop (mkF m 65 #[.val (.int x0), .val (.int x1), .val (.int x2), .val (.int z2), .val (.int (x1 &&& (2147483647 : Int32))), .val (.ref b4), .val (.int y12), .val (.long z14), .second, .unset, .unset] [])) (fun _ k => XS.ifNo X11.here hx rfl (hb hby at_62) rfl ((if0 _ _).trans (teq ((lw_eq (y12.toInt64) z14).mpr hc16)).2) k) ?_
    refine OGo.go (U' := T11.setTop (mkF m 66 #[.val (.int x0), .val (.int x1), .val (.int x2), .val (.int z2), .val (.int (x1 &&& (2147483647 : Int32))), .val (.ref b4), .val (.int y12), .val (.long z14), .second, .unset, .unset] [(.int (1 : Int32))])) (fun _ k => XS.iconst X11.here hx rfl (hb hby at_65) k) ?_
    refine OGo.go (U' := T11.setTop (mkF m 70 #[.val (.int x0), .val (.int x1), .val (.int x2), .val (.int z2), .val (.int (x1 &&& (2147483647 : Int32))), .val (.ref b4), .val (.int y12), .val (.long z14), .second, .unset, .unset] [(.int (1 : Int32))])) (fun _ k => XS.goto X11.here hx rfl (pc0 := 66) (pc' := 70) rfl (hb hby at_66) (by decide) (by decide) k) ?_
    exact k18
  · skip
    refine OGo.go (U' := T11.setTop (mkF m 69 #[.val (.int x0), .val (.int x1), .val (.int x2), .val (.int z2), .val (.int (x1 &&& (2147483647 : Int32))), .val (.ref b4), .val (.int y12), .val (.long z14), .second, .unset, .unset] [])) (fun _ k => XS.ifYes X11.here hx rfl (pc0 := 62) (pc' := 69) rfl (hb hby at_62) rfl ((if0 _ _).trans (feq (fun q => hc16 ((lw_eq (y12.toInt64) z14).mp q))).2) (by decide) (by decide) k) ?_
    refine OGo.go (U' := T11.setTop (mkF m 70 #[.val (.int x0), .val (.int x1), .val (.int x2), .val (.int z2), .val (.int (x1 &&& (2147483647 : Int32))), .val (.ref b4), .val (.int y12), .val (.long z14), .second, .unset, .unset] [(.int (0 : Int32))])) (fun _ k => XS.iconst X11.here hx rfl (hb hby at_69) k) ?_
    exact k18
  intro z17 hz17
  refine OGo.go (U' := T11.setTop (mkF m 72 #[.val (.int x0), .val (.int x1), .val (.int x2), .val (.int z2), .val (.int (x1 &&& (2147483647 : Int32))), .val (.ref b4), .val (.int y12), .val (.long z14), .second, .val (.int z17), .unset] [])) (fun _ k => XS.istore X11.here hx rfl (hb hby at_70) rfl (l' := #[.val (.int x0), .val (.int x1), .val (.int x2), .val (.int z2), .val (.int (x1 &&& (2147483647 : Int32))), .val (.ref b4), .val (.int y12), .val (.long z14), .second, .val (.int z17), .unset]) rfl k) ?_
  refine OGo.go (U' := T11.setTop (mkF m 73 #[.val (.int x0), .val (.int x1), .val (.int x2), .val (.int z2), .val (.int (x1 &&& (2147483647 : Int32))), .val (.ref b4), .val (.int y12), .val (.long z14), .second, .val (.int z17), .unset] [(.int x2)])) (fun _ k => XS.iloadN X11.here hx rfl (hb hby at_72) rfl k) ?_
  refine OGo.callS X11 hx hZ (y := (⟨"com/example/farcall/farcall/io/RecordMark", "decode", "(I)Lcom/example/farcall/farcall/io/RecordMark;"⟩ : MethodName)) hown (hw _ (List.mem_of_getElem? (i := 19) rfl)) (hw _ (List.mem_of_getElem? (i := 20) rfl)) (hw _ (List.mem_of_getElem? (i := 3) rfl)) (hw _ (List.mem_of_getElem? (i := 21) rfl)) (by decide) (g := (mkF m 73 #[.val (.int x0), .val (.int x1), .val (.int x2), .val (.int z2), .val (.int (x1 &&& (2147483647 : Int32))), .val (.ref b4), .val (.int y12), .val (.long z14), .second, .val (.int z17), .unset] [(.int x2)])) (argsL := [(.int x2)]) (rest := []) e11 (rm_dec l Z a0 hw x2 n0 T8.heap (Nat.le_trans (Nat.le_trans Z0 E4.1) K8.1)) rfl (by rw [hml]; rfl) (lenOf pd_2 rfl) rfl (W := 0) (by show 2 * 0 + _ ≤ _; exact Nat.le_of_eq rfl) (hb hby at_73) (by decide) (by decide) (by decide) (by decide) ?_
  rintro _ T19 L19 X19 ⟨b19, rfl, N19, K19, Ea19, Fa19, Fb19⟩
  have e19 : T19.heap = T19.heap := rfl
  have N20 := Fr.app N9 N19
  refine OGo.callV X19 hx hZ (y := (⟨"com/example/farcall/farcall/io/RecordMark", "encode", "()I"⟩ : MethodName)) (C := "com/example/farcall/farcall/io/RecordMark") hown (hw _ (List.mem_of_getElem? (i := 14) rfl)) (hw _ (List.mem_of_getElem? (i := 15) rfl)) (hw _ (List.mem_of_getElem? (i := 17) rfl)) (hw _ (List.mem_of_getElem? (i := 16) rfl)) (hw _ (List.mem_of_getElem? (i := 3) rfl)) (hw _ (List.mem_of_getElem? (i := 18) rfl)) (by decide) (g := (mkF m 76 #[.val (.int x0), .val (.int x1), .val (.int x2), .val (.int z2), .val (.int (x1 &&& (2147483647 : Int32))), .val (.ref b4), .val (.int y12), .val (.long z14), .second, .val (.int z17), .unset] [(.ref b19)])) (a := b19) (argsL := []) (rest := []) e19 Ea19 (rm_enc l Z a0 hw b19 (nar .boolean (F_dl x2)) (x2 &&& (2147483647 : Int32)) T19.heap Fa19 Fb19) rfl (by rw [hml]; rfl) (lenOf pd_1 rfl) rfl (W := 0) (by show 2 * 0 + _ ≤ _; exact Nat.le_of_eq rfl) (hb hby at_76) (by decide) (by decide) (by decide) (by decide) ?_
  rintro _ T21 _ X21 ⟨rfl, e21, rfl⟩
  rw [List.append_nil] at X21
  refine OGo.nm (fun (y22 : Int32) => T21.setTop (mkF m 79 #[.val (.int x0), .val (.int x1), .val (.int x2), .val (.int z2), .val (.int (x1 &&& (2147483647 : Int32))), .val (.ref b4), .val (.int y12), .val (.long z14), .second, .val (.int z17), .unset] [(.int y22)])) (x := (F_enc (nar .boolean (F_dl x2)) (x2 &&& (2147483647 : Int32)))) (fun y22 hy22 => ?_)
  refine OGo.go (U' := T21.setTop (mkF m 81 #[.val (.int x0), .val (.int x1), .val (.int x2), .val (.int z2), .val (.int (x1 &&& (2147483647 : Int32))), .val (.ref b4), .val (.int y12), .val (.long z14), .second, .val (.int z17), .val (.int y22)] [])) (fun _ k => XS.istore X21.here hx rfl (hb hby at_79) rfl (l' := #[.val (.int x0), .val (.int x1), .val (.int x2), .val (.int z2), .val (.int (x1 &&& (2147483647 : Int32))), .val (.ref b4), .val (.int y12), .val (.long z14), .second, .val (.int z17), .val (.int y22)]) rfl k) ?_
  refine OGo.go (U' := T21.setTop (mkF m 83 #[.val (.int x0), .val (.int x1), .val (.int x2), .val (.int z2), .val (.int (x1 &&& (2147483647 : Int32))), .val (.ref b4), .val (.int y12), .val (.long z14), .second, .val (.int z17), .val (.int y22)] [(.int z17)])) (fun _ k => XS.iload X21.here hx rfl (hb hby at_81) rfl k) ?_
  refine OGo.ite1 (P := z17 = (0 : Int32)) (fun (z24 : Int32) => T21.setTop (mkF m 97 #[.val (.int x0), .val (.int x1), .val (.int x2), .val (.int z2), .val (.int (x1 &&& (2147483647 : Int32))), .val (.ref b4), .val (.int y12), .val (.long z14), .second, .val (.int z17), .val (.int y22)] [(.int z24)])) (x := (0 : Int32)) (y := (if y22 = x2 then (1 : Int32) else (0 : Int32))) (fun hc23 k25 => ?_) (fun hc23 k25 => ?_) ?_
  · skip
    refine OGo.go (U' := T21.setTop (mkF m 96 #[.val (.int x0), .val (.int x1), .val (.int x2), .val (.int z2), .val (.int (x1 &&& (2147483647 : Int32))), .val (.ref b4), .val (.int y12), .val (.long z14), .second, .val (.int z17), .val (.int y22)] [])) (fun _ k => XS.ifYes X21.here hx rfl (pc0 := 83) (pc' := 96) rfl (hb hby at_83) rfl ((if0 _ _).trans (teq hc23).1) (by decide) (by decide) k) ?_
    refine OGo.go (U' := T21.setTop (mkF m 97 #[.val (.int x0), .val (.int x1), .val (.int x2), .val (.int z2), .val (.int (x1 &&& (2147483647 : Int32))), .val (.ref b4), .val (.int y12), .val (.long z14), .second, .val (.int z17), .val (.int y22)] [(.int (0 : Int32))])) (fun _ k => XS.iconst X21.here hx rfl (hb hby at_96) k) ?_
    exact k25
  · skip
    refine OGo.go (U' := T21.setTop (mkF m 86 #[.val (.int x0), .val (.int x1), .val (.int x2), .val (.int z2), .val (.int (x1 &&& (2147483647 : Int32))), .val (.ref b4), .val (.int y12), .val (.long z14), .second, .val (.int z17), .val (.int y22)] [])) (fun _ k => XS.ifNo X21.here hx rfl (hb hby at_83) rfl ((if0 _ _).trans (feq hc23).1) k) ?_
    refine OGo.go (U' := T21.setTop (mkF m 88 #[.val (.int x0), .val (.int x1), .val (.int x2), .val (.int z2), .val (.int (x1 &&& (2147483647 : Int32))), .val (.ref b4), .val (.int y12), .val (.long z14), .second, .val (.int z17), .val (.int y22)] [(.int y22)])) (fun _ k => XS.iload X21.here hx rfl (hb hby at_86) rfl k) ?_
    refine OGo.go (U' := T21.setTop (mkF m 89 #[.val (.int x0), .val (.int x1), .val (.int x2), .val (.int z2), .val (.int (x1 &&& (2147483647 : Int32))), .val (.ref b4), .val (.int y12), .val (.long z14), .second, .val (.int z17), .val (.int y22)] [(.int x2), (.int y22)])) (fun _ k => XS.iloadN X21.here hx rfl (hb hby at_88) rfl k) ?_
    refine OGo.ite1 (P := y22 = x2) (fun (z27 : Int32) => T21.setTop (mkF m 97 #[.val (.int x0), .val (.int x1), .val (.int x2), .val (.int z2), .val (.int (x1 &&& (2147483647 : Int32))), .val (.ref b4), .val (.int y12), .val (.long z14), .second, .val (.int z17), .val (.int y22)] [(.int z27)])) (x := (1 : Int32)) (y := (0 : Int32)) (fun hc26 k28 => ?_) (fun hc26 k28 => ?_) (fun z27 hz27 => by subst hz27; exact k25)
    · skip
      refine OGo.go (U' := T21.setTop (mkF m 92 #[.val (.int x0), .val (.int x1), .val (.int x2), .val (.int z2), .val (.int (x1 &&& (2147483647 : Int32))), .val (.ref b4), .val (.int y12), .val (.long z14), .second, .val (.int z17), .val (.int y22)] [])) (fun _ k => XS.icmpNo X21.here hx rfl (hb hby at_89) rfl (teq hc26).2 k) ?_
      refine OGo.go (U' := T21.setTop (mkF m 93 #[.val (.int x0), .val (.int x1), .val (.int x2), .val (.int z2), .val (.int (x1 &&& (2147483647 : Int32))), .val (.ref b4), .val (.int y12), .val (.long z14), .second, .val (.int z17), .val (.int y22)] [(.int (1 : Int32))])) (fun _ k => XS.iconst X21.here hx rfl (hb hby at_92) k) ?_
      refine OGo.go (U' := T21.setTop (mkF m 97 #[.val (.int x0), .val (.int x1), .val (.int x2), .val (.int z2), .val (.int (x1 &&& (2147483647 : Int32))), .val (.ref b4), .val (.int y12), .val (.long z14), .second, .val (.int z17), .val (.int y22)] [(.int (1 : Int32))])) (fun _ k => XS.goto X21.here hx rfl (pc0 := 93) (pc' := 97) rfl (hb hby at_93) (by decide) (by decide) k) ?_
      exact k28
    · skip
      refine OGo.go (U' := T21.setTop (mkF m 96 #[.val (.int x0), .val (.int x1), .val (.int x2), .val (.int z2), .val (.int (x1 &&& (2147483647 : Int32))), .val (.ref b4), .val (.int y12), .val (.long z14), .second, .val (.int z17), .val (.int y22)] [])) (fun _ k => XS.icmpYes X21.here hx rfl (pc0 := 89) (pc' := 96) rfl (hb hby at_89) rfl (feq hc26).2 (by decide) (by decide) k) ?_
      refine OGo.go (U' := T21.setTop (mkF m 97 #[.val (.int x0), .val (.int x1), .val (.int x2), .val (.int z2), .val (.int (x1 &&& (2147483647 : Int32))), .val (.ref b4), .val (.int y12), .val (.long z14), .second, .val (.int z17), .val (.int y22)] [(.int (0 : Int32))])) (fun _ k => XS.iconst X21.here hx rfl (hb hby at_96) k) ?_
      exact k28
  intro z24 hz24
  refine OGo.retN X21 hx (t := .boolean) hret hlk (by simp) (hb hby at_97) ?_ (by decide) (by decide)
  exact ⟨own_ret_0 hz2 hy12 hz14 hz17 hy22 hz24, N20⟩
set_option maxRecDepth 65536 in
set_option maxHeartbeats 40000000 in
theorem comes_1 {Post : Tables → Env → Array Value → State → Outcome → State → Prop} (hpost : ∀ tb e args s v u, (limb_1_1.after args s (.returned v) u = true ∧ limb_1_2.after args s (.returned v) u = true ∧ True) → FrameEnd s (.returned v) u (Jvm.fieldLocs frame_1_writes args s ++ Jvm.arrayLocs frame_1_arrays args s ++ Jvm.staticLocs frame_1_statics s) 16 128 → Post tb e args s (.returned v) u) :
    ArmFor flags0 classFile x code maxLocals ret World_1 tables_1 room_1 Calls_1 rest_1 Pre_1 Post := by
  intro l hfl _ _ p e ha hc hk s m args below hf hA hF happ hP
  obtain ⟨hcalls, hrest, hpre⟩ := hP
  obtain ⟨-, -, -, hnamed, -, -, -, hat⟩ := (Spec.applies_iff hf).mp happ
  obtain ⟨hg, hn⟩ := and_e (Cond.before_iff.mp (show (Jvm.Cond.and given_1 narrow_1).before args s = true from hpre))
  obtain ⟨g0, g1⟩ := and_e hg
  obtain ⟨w0, w1, w2, rfl⟩ : ∃ w0 w1 w2 : Value, args = #[w0, w1, w2] := by
    have hs : args.size = 3 := by simpa [Cond.value, given_1] using g0
    obtain ⟨L⟩ := args
    match L, hs with
    | [w0, w1, w2], _ => exact ⟨w0, w1, w2, rfl⟩
  have hw := fun d (hd : d ∈ tables_1) => atoms_spec (ws := Jvm.Cond.code x code maxLocals ret :: tables_1) hat d (List.mem_cons_of_mem _ hd)
  have hfit : Fit s := fun {y c} hc i hi => by
    obtain ⟨ha, rfl⟩ := Array.getElem?_eq_some_iff.mp hc
    have q := List.all_eq_true.mp ((Array.all_eq_true_iff_forall_mem.mp hF) _ (Array.getElem_mem ha)) i (List.mem_range.mpr hi)
    simpa [Array.getElem?_eq_getElem hi] using q
  obtain ⟨v0, g2⟩ := and_e g1
  obtain ⟨i0, q0⟩ := is_v v0
  obtain rfl : w0 = (.int i0) := Option.some.inj q0
  obtain ⟨v1, g3⟩ := and_e g2
  obtain ⟨i1, q1⟩ := is_v v1
  obtain rfl : w1 = (.int i1) := Option.some.inj q1
  obtain ⟨i2, q2⟩ := is_v g3
  obtain rfl : w2 = (.int i2) := Option.some.inj q2
  obtain ⟨n, o, h1, h2, h3, _, L, rfl, ⟨rfl, N⟩, hq⟩ := rm_law l s _ hw i0 i1 i2 s.heap.size s.heap (Nat.le_refl _) p e ha hc hk s m _ below hf ((Spec.applies_iff_loose hf).mp happ).1 ⟨rfl, State.Warmed39.refl s, rfl⟩ trivial
  refine ⟨n, _, h1, h2, h3, hpost _ _ _ _ _ _ ⟨Cond.after_iff.mpr rfl, Cond.after_iff.mpr (eq_i res_at (Term.int_eval (1)) rfl), trivial⟩ ⟨hq.1, hq.2.1, (hq.2.2.sift fun y hy => Or.inr (N y hy)).mono (by decide) (by decide)⟩⟩
theorem main_1_1 : Claimed_1_1 := comes_1 fun _ _ _ _ _ _ h hF => ⟨h.1, hF⟩
theorem main_1_2 : Claimed_1_2 := comes_1 fun _ _ _ _ _ _ h hF => ⟨h.2.1, hF⟩
end Jvm.Pilot.@@N@@
namespace Jvm.Pilot.@@N@@
open Jvm Jvm.ClassFile Sem Op Lib Jvm.Free Jvm.Stand Jvm.Pilot.@@N@@.Jvm.D
/-! MADE BY PROGRAM (witnessworld.py) out of the Statement's table words and the real class files: 9 classes; the members and pool entries that the words name. The judged class is class 1, her method 1. -/
namespace start1
open Jvm.ClassFile
def u (s : String) : CpInfo := .utf8 (stringToUtf16 s)
/-- a pool by its gaps: so many unusable entries, then the entry; so many at the end -/
def gap : Nat → List CpInfo → List CpInfo
  | 0, r => r
  | n + 1, r => .unusable :: gap n r
def poolList (es : List (Nat × CpInfo)) (last : Nat) : List CpInfo := es.foldr (fun e r => gap e.1 (e.2 :: r)) (gap last [])
def pool (es : List (Nat × CpInfo)) (last : Nat) : Array CpInfo := ⟨poolList es last⟩
def fileOf (pool : Array CpInfo) (this : Nat) (attrs : Array Attribute := #[]) (ms : Array MethodInfo := #[]) (fl : Nat := 33) (sup : Nat := 0) (ifs : Array Nat := #[]) (fds : Array FieldInfo := #[]) : ClassFile where
  minorVersion := 0
  majorVersion := 65
  constantPool := pool
  accessFlags := fl
  thisClass := this
  superClass := sup
  interfaces := ifs
  fields := fds
  methods := ms
  attributes := attrs
def plain (name : String) (sup : Option ClassId) : Class where
  name := name
  kind := .ordinary
  loader := none
  accessFlags := 33
  super := sup
  interfaces := #[]
  cf := none
  fields := #[]
  methods := #[]
  instanceTypes := #[]
  staticTypes := #[]
  resolved := #[]
  callSites := []
  init := .initialized
  statics := none
  mirror := none

def pool0 : Array CpInfo := pool [(5, u "<init>"), (0, u "()V"), (1, .class_ 10), (1, u "java/lang/Object")] 113

def k0c0 : Code := { maxStack := 0, maxLocals := 1, code := object_method_1_code, exceptionTable := #[], attributes := #[] }
def k0m0 : Method := { name := "<init>", desc := "()V", sig := { parameters := [], returnType := none }, accessFlags := 1, code := some k0c0 }
/-- java/lang/Object -/
def k0 : Class := { plain "java/lang/Object" none with
  accessFlags := 33
  interfaces := #[]
  cf := some (fileOf pool0 8 #[] #[{ accessFlags := 1, nameIndex := 5, descriptorIndex := 6, attributes := #[] }] 33 0 #[] #[])
  fields := #[]
  methods := #[k0m0]
  instanceTypes := #[]
  staticTypes := #[]
  resolved := Array.replicate 124 none
  statics := none }

def pool1 : Array CpInfo := pool [(2, .class_ 4), (1, u "java/lang/Object"), (0, u "<init>"), (0, u "()V"), (0, .integer 2147483647), (0, .class_ 9), (0, u "com/example/farcall/farcall/io/RecordMark"), (0, .methodref 8 11), (0, .nameAndType 5 12), (0, u "(ZI)V"), (0, .methodref 8 14), (0, .nameAndType 15 16), (0, u "encode"), (0, u "()I"), (0, .long 2147483648), (1, .methodref 8 20), (0, .nameAndType 21 22), (0, u "decode"), (0, u "(I)Lcom/example/farcall/farcall/io/RecordMark;"), (0, .class_ 24), (0, u "com/example/farcall/farcall/io/RecordMarkEncodePinLaw"), (2, u "law"), (0, u "(III)Z")] 3

def k1m0 : Method := { name := "<init>", desc := "()V", sig := { parameters := [], returnType := none }, accessFlags := 1, code := none }
def k1c1 : Code := { maxStack := 4, maxLocals := 11, code := code, exceptionTable := #[], attributes := #[] }
def k1m1 : Method := { name := "law", desc := "(III)Z", sig := { parameters := [.int, .int, .int], returnType := some .boolean }, accessFlags := 9, code := some k1c1 }
/-- com/example/farcall/farcall/io/RecordMarkEncodePinLaw -/
def k1 : Class := { plain "com/example/farcall/farcall/io/RecordMarkEncodePinLaw" (some 0) with
  accessFlags := 49
  interfaces := #[]
  cf := some (fileOf pool1 23 #[] #[{ accessFlags := 1, nameIndex := 5, descriptorIndex := 6, attributes := #[] }, { accessFlags := 9, nameIndex := 27, descriptorIndex := 28, attributes := #[] }] 49 2 #[] #[])
  fields := #[]
  methods := #[k1m0, k1m1]
  instanceTypes := #[]
  staticTypes := #[]
  resolved := Array.replicate 32 none
  statics := none }

def pool2 : Array CpInfo := pool [(1, .methodref 2 3), (0, .class_ 4), (0, .nameAndType 5 6), (0, u "java/lang/Object"), (0, u "<init>"), (0, u "()V"), (9, .fieldref 17 18), (0, .class_ 19), (0, .nameAndType 20 21), (0, u "com/example/farcall/farcall/io/RecordMark"), (0, u "last"), (0, u "Z"), (0, .fieldref 17 23), (0, .nameAndType 24 25), (0, u "length"), (0, u "I"), (0, .integer 2147483648), (0, .integer 2147483647), (0, .methodref 17 29), (0, .nameAndType 5 30), (0, u "(ZI)V"), (0, u "SIZE"), (2, u "MAX_LENGTH"), (0, u "LAST_FRAGMENT"), (3, u "decode"), (0, u "(I)Lcom/example/farcall/farcall/io/RecordMark;"), (0, u "encode"), (0, u "()I")] 20

def k2c0 : Code := { maxStack := 3, maxLocals := 3, code := prog_6_method_1_code, exceptionTable := #[], attributes := #[] }
def k2m0 : Method := { name := "<init>", desc := "(ZI)V", sig := { parameters := [.boolean, .int], returnType := none }, accessFlags := 1, code := some k2c0 }
def k2c1 : Code := { maxStack := 5, maxLocals := 1, code := prog_6_method_2_code, exceptionTable := #[], attributes := #[] }
def k2m1 : Method := { name := "decode", desc := "(I)Lcom/example/farcall/farcall/io/RecordMark;", sig := { parameters := [.int], returnType := some (.object "com/example/farcall/farcall/io/RecordMark") }, accessFlags := 9, code := some k2c1 }
def k2c2 : Code := { maxStack := 2, maxLocals := 2, code := prog_6_method_3_code, exceptionTable := #[], attributes := #[] }
def k2m2 : Method := { name := "encode", desc := "()I", sig := { parameters := [], returnType := some .int }, accessFlags := 1, code := some k2c2 }
/-- com/example/farcall/farcall/io/RecordMark -/
def k2 : Class := { plain "com/example/farcall/farcall/io/RecordMark" (some 0) with
  accessFlags := 33
  interfaces := #[]
  cf := some (fileOf pool2 17 #[] #[{ accessFlags := 1, nameIndex := 5, descriptorIndex := 30, attributes := #[] }, { accessFlags := 9, nameIndex := 39, descriptorIndex := 40, attributes := #[] }, { accessFlags := 1, nameIndex := 41, descriptorIndex := 42, attributes := #[] }] 33 2 #[] #[{ accessFlags := 25, nameIndex := 31, descriptorIndex := 25, attributes := #[] }, { accessFlags := 25, nameIndex := 34, descriptorIndex := 25, attributes := #[] }, { accessFlags := 26, nameIndex := 35, descriptorIndex := 25, attributes := #[] }, { accessFlags := 18, nameIndex := 20, descriptorIndex := 21, attributes := #[] }, { accessFlags := 18, nameIndex := 24, descriptorIndex := 25, attributes := #[] }])
  fields := #[{ name := "SIZE", type := .int, accessFlags := 25, slot := 0, constantValue := 0 }, { name := "MAX_LENGTH", type := .int, accessFlags := 25, slot := 1, constantValue := 0 }, { name := "LAST_FRAGMENT", type := .int, accessFlags := 26, slot := 2, constantValue := 0 }, { name := "last", type := .boolean, accessFlags := 18, slot := 0, constantValue := 0 }, { name := "length", type := .int, accessFlags := 18, slot := 1, constantValue := 0 }]
  methods := #[k2m0, k2m1, k2m2]
  instanceTypes := #[.boolean, .int]
  staticTypes := #[.int, .int, .int]
  resolved := Array.replicate 63 none
  statics := none }

def pool3 : Array CpInfo := pool [(1, u "java/lang/Cloneable"), (0, .class_ 1), (0, u "java/lang/Object"), (0, .class_ 3)] 3

/-- java/lang/Cloneable -/
def k3 : Class := { plain "java/lang/Cloneable" (some 0) with
  accessFlags := 1537
  interfaces := #[]
  cf := some (fileOf pool3 2 #[] #[] 1537 4 #[] #[])
  fields := #[]
  methods := #[]
  instanceTypes := #[]
  staticTypes := #[]
  resolved := Array.replicate 8 none
  statics := none }

def pool4 : Array CpInfo := pool [(1, u "java/io/Serializable"), (0, .class_ 1), (0, u "java/lang/Object"), (0, .class_ 3)] 3

/-- java/io/Serializable -/
def k4 : Class := { plain "java/io/Serializable" (some 0) with
  accessFlags := 1537
  interfaces := #[]
  cf := some (fileOf pool4 2 #[] #[] 1537 4 #[] #[])
  fields := #[]
  methods := #[]
  instanceTypes := #[]
  staticTypes := #[]
  resolved := Array.replicate 8 none
  statics := none }

/-- the primitive byte -/
def k5 : Class := { plain "byte" none with kind := .primitive 'B', accessFlags := 0x411 }
/-- [B -/
def k6 : Class := { plain "[B" (some 0) with kind := .array 5 .byte, interfaces := #[3, 4], accessFlags := 1041 }

/-- the primitive int -/
def k7 : Class := { plain "int" none with kind := .primitive 'I', accessFlags := 0x411 }
/-- [I -/
def k8 : Class := { plain "[I" (some 0) with kind := .array 7 .int, interfaces := #[3, 4], accessFlags := 1041 }

def heap : Heap := #[]
def classes : Array Class := #[k0, k1, k2, k3, k4, k5, k6, k7, k8]
def interned : List (Array UInt16 × Addr) := []
def slotsUsed : Nat := 0
def theMethod : MethodId := ⟨1, 1⟩
def args0 : Array Value := #[.int 5, .int 7, .int 9]
def aboutOver (below : List Frame) : State where
  vm := { classes := classes, interned := interned.toArray }
  heap := heap
  slotsUsed := slotsUsed
  threads := #[{ frames := .invoking theMethod args0 :: below }]
def below0 : List Frame := [.native { method := ⟨0, 0⟩, args := #[] }]
def about1 : State := aboutOver below0
def p0 : Program := .bare "" "" ""
def e0 : Env := launch0.env 0 0 0
theorem w_frames : about1.frames = Frame.invoking theMethod args0 :: below0 := rfl
set_option maxRecDepth 65536 in
theorem w_args : argsFit about1.vm theMethod args0 = true := by decide +kernel
set_option maxRecDepth 65536 in
theorem w_heap : heapFits about1 = true := by decide +kernel
set_option maxRecDepth 65536 in
theorem w_runnable : about1.curStatus? = some .runnable := by decide +kernel
set_option maxRecDepth 65536 in
theorem w_alone : about1.alone = true := by decide +kernel
set_option maxRecDepth 65536 in
theorem w_named : about1.methodNamed? x = some theMethod := by decide +kernel
set_option maxRecDepth 65536 in
theorem w_hears : about1.hears theMethod below0 = true := by decide +kernel
set_option maxRecDepth 65536 in
theorem w_ripe : about1.ripe theMethod args0 below0 = true := by decide +kernel
theorem w_running : about1.status = .running := rfl
set_option maxRecDepth 65536 in
theorem w_room : about1.hasRoom e0.platform room_1 = true :=
  launch0.hasRoom_least _ room_1 (by decide +kernel) (by decide +kernel) (by decide +kernel) (by decide +kernel) (by decide +kernel) (by decide +kernel)
theorem allAtoms_all (ts : List Jvm.Cond) (a : Array Jvm.Value) (st : Jvm.State) : (allAtoms ts).before a st = ts.all (fun c => c.before a st) := by
  induction ts with
  | nil => rfl
  | cons c t ih =>
    show (Jvm.Cond.and c (allAtoms t)).before a st = _
    rw [Jvm.Cond.before_and, ih, List.all_cons]
def words1 : List Jvm.Cond := Jvm.Cond.code x code maxLocals ret :: tables_1
/-- a 'code' word, met by the world's own term for the bytes: nothing is compared byte by byte -/
theorem code_word {y : MethodName} {bytes : ByteArray} {mx : Nat} {rt : Option FieldType} {a : Array Value} {s : State} {m : MethodId} {meth : Method} {c : Code} (h1 : s.methodNamed? y = some m) (h2 : s.vm.method? m = some meth) (h3 : meth.code = some c) (h4 : c.code = bytes)
    (h5 : (c.maxLocals == mx && c.exceptionTable.isEmpty && decide (c.maxStack ≤ mostOperands) && decide (meth.sig.returnType = rt) && !meth.locks && decide (parseMethodDescriptor y.desc = some meth.sig)) = true) : (Jvm.Cond.code y bytes mx rt).before a s = true := by
  simp only [Bool.and_eq_true, beq_iff_eq, Bool.not_eq_true', decide_eq_true_eq] at h5
  obtain ⟨⟨⟨⟨⟨g1, g2⟩, g3⟩, g4⟩, g5⟩, g6⟩ := h5
  simp [Cond.before, Cond.holds, Cond.value, h1, h2, h3, h4, g1, g2, g3, g4, g5, g6]
def isCode : Jvm.Cond → Bool
  | .code _ _ _ _ => true
  | _ => false
theorem all_split {L : List Jvm.Cond} {P : Jvm.Cond → Bool} (h1 : L.all (fun c => isCode c || P c) = true) (h2 : ∀ c ∈ L.filter isCode, P c = true) : L.all P = true := by
  refine List.all_eq_true.mpr fun c hc => ?_
  have h := List.all_eq_true.mp h1 c hc
  rcases Bool.eq_false_or_eq_true (isCode c) with hi | hi
  · exact h2 c (List.mem_filter.mpr ⟨hc, hi⟩)
  · simpa [hi] using h
set_option maxRecDepth 65536 in
theorem w_c0 : (Jvm.Cond.code x code maxLocals ret).before args0 about1 = true := code_word (m := ⟨1, 1⟩) (meth := k1m1) (c := k1c1) (by decide +kernel) rfl rfl rfl (by decide +kernel)
set_option maxRecDepth 65536 in
theorem w_c1 : (Jvm.Cond.code ({ cls := "com/example/farcall/farcall/io/RecordMark", name := "<init>", desc := "(ZI)V" } : Jvm.MethodName) prog_6_method_1_code (3 : Nat) (Option.none : Option Jvm.ClassFile.FieldType)).before args0 about1 = true := code_word (m := ⟨2, 0⟩) (meth := k2m0) (c := k2c0) (by decide +kernel) rfl rfl rfl (by decide +kernel)
set_option maxRecDepth 65536 in
theorem w_c2 : (Jvm.Cond.code ({ cls := "java/lang/Object", name := "<init>", desc := "()V" } : Jvm.MethodName) object_method_1_code (1 : Nat) (Option.none : Option Jvm.ClassFile.FieldType)).before args0 about1 = true := code_word (m := ⟨0, 0⟩) (meth := k0m0) (c := k0c0) (by decide +kernel) rfl rfl rfl (by decide +kernel)
set_option maxRecDepth 65536 in
theorem w_c3 : (Jvm.Cond.code ({ cls := "com/example/farcall/farcall/io/RecordMark", name := "encode", desc := "()I" } : Jvm.MethodName) prog_6_method_3_code (2 : Nat) (Option.some Jvm.ClassFile.FieldType.int)).before args0 about1 = true := code_word (m := ⟨2, 2⟩) (meth := k2m2) (c := k2c2) (by decide +kernel) rfl rfl rfl (by decide +kernel)
set_option maxRecDepth 65536 in
theorem w_c4 : (Jvm.Cond.code ({ cls := "com/example/farcall/farcall/io/RecordMark", name := "decode", desc := "(I)Lcom/example/farcall/farcall/io/RecordMark;" } : Jvm.MethodName) prog_6_method_2_code (1 : Nat) (Option.some (Jvm.ClassFile.FieldType.object "com/example/farcall/farcall/io/RecordMark"))).before args0 about1 = true := code_word (m := ⟨2, 1⟩) (meth := k2m1) (c := k2c1) (by decide +kernel) rfl rfl rfl (by decide +kernel)
def codes1 : List Jvm.Cond := [Jvm.Cond.code x code maxLocals ret, Jvm.Cond.code ({ cls := "com/example/farcall/farcall/io/RecordMark", name := "<init>", desc := "(ZI)V" } : Jvm.MethodName) prog_6_method_1_code (3 : Nat) (Option.none : Option Jvm.ClassFile.FieldType), Jvm.Cond.code ({ cls := "java/lang/Object", name := "<init>", desc := "()V" } : Jvm.MethodName) object_method_1_code (1 : Nat) (Option.none : Option Jvm.ClassFile.FieldType), Jvm.Cond.code ({ cls := "com/example/farcall/farcall/io/RecordMark", name := "encode", desc := "()I" } : Jvm.MethodName) prog_6_method_3_code (2 : Nat) (Option.some Jvm.ClassFile.FieldType.int), Jvm.Cond.code ({ cls := "com/example/farcall/farcall/io/RecordMark", name := "decode", desc := "(I)Lcom/example/farcall/farcall/io/RecordMark;" } : Jvm.MethodName) prog_6_method_2_code (1 : Nat) (Option.some (Jvm.ClassFile.FieldType.object "com/example/farcall/farcall/io/RecordMark"))]
set_option maxRecDepth 65536 in
theorem codes_eq : words1.filter isCode = codes1 := rfl
theorem w_codes : ∀ c ∈ words1.filter isCode, c.before args0 about1 = true := by
  rw [codes_eq]
  intro c hc
  simp only [codes1, List.mem_cons, List.not_mem_nil, or_false] at hc
  rcases hc with rfl | rfl | rfl | rfl | rfl
  · exact w_c0
  · exact w_c1
  · exact w_c2
  · exact w_c3
  · exact w_c4
set_option maxRecDepth 65536 in
theorem w_t1 : (words1.take 24).all (fun c => isCode c || c.before args0 about1) = true := by decide +kernel
set_option maxRecDepth 65536 in
theorem w_t2 : (words1.drop 24).all (fun c => isCode c || c.before args0 about1) = true := by decide +kernel
theorem w_tables : (allAtoms (Jvm.Cond.code x code maxLocals ret :: tables_1)).before args0 about1 = true := by
  rw [allAtoms_all]
  show words1.all (fun c => c.before args0 about1) = true
  refine all_split ?_ w_codes
  rw [← List.take_append_drop 24 words1, List.all_append, w_t1, w_t2]
  rfl
set_option maxRecDepth 65536 in
theorem w_case : (Jvm.Cond.and given_1 narrow_1).before args0 about1 = true := by decide +kernel
theorem w_applies : (headSpec (Jvm.Cond.code x code maxLocals ret :: tables_1) room_1).applies x e0.platform about1 = true :=
  (Spec.applies_iff w_frames).mpr ⟨w_running, w_runnable, w_alone, w_named, w_hears, w_ripe, w_room, w_tables⟩
theorem atStart : AtStart classFile x code maxLocals ret World_1 tables_1 room_1 Calls_1 rest_1 Pre_1 launch0 p0 e0 about1 theMethod args0 below0 :=
  ⟨lists_1, trivial, launch0.admits_env _ _ _, launch0.least_env, fairChoices_fair.cas, fairChoices_fair.clock, w_frames, w_args, w_heap, w_applies, trivial, trivial, w_case⟩
end start1
theorem witness_1 : WitnessClaimed_1 := ⟨start1.p0, start1.e0, start1.about1, start1.theMethod, start1.args0, start1.below0, start1.atStart⟩
end Jvm.Pilot.@@N@@
