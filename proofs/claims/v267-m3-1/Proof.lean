import JvmDerived
import JvmDerived.Pilot.@@N@@Statement
import JvmDerived.Pilot.@@N@@Code
set_option linter.unusedVariables false
set_option linter.unusedSimpArgs false
namespace Jvm.RoadKit
open Sem ClassFile Op Lib Jvm.Stand Jvm.Free Jvm.LawKit
section OwnGo
variable {p : Program} {l : Launch} {e : Env} {R : Room} {s : State} {m : MethodId} {args : Array Value} {below : List Frame} {meth : Method} {c : Code} {T : State} {locs : List Loc} {cells slots : Nat} {Z : State} {a0 : Array Value} {h : Heap} {kc ks : Nat} {Q : Option Value → Heap → List Loc → Prop} {G : Outcome → State → Prop} {U U' : State}
/-- from U the walk ends, and G says how -/
def OGo (p : Program) (e : Env) (below : List Frame) (G : Outcome → State → Prop) (U : State) : Prop :=
  ∃ s₂ o, Steps p.tables e below U s₂ ∧ s₂.status = .running ∧ Ended s₂ below o ∧ G o s₂
/-- it returned, Q says what, and the frame is kept -/
def OEnd (s : State) (kc ks : Nat) (Q : Option Value → Heap → List Loc → Prop) (o : Outcome) (t : State) : Prop := ∃ v L, o = .returned v ∧ Q v t.heap L ∧ FrameEnd s o t L kc ks
/-- the same where a String constant may have come to be interned -/
def OEndW (s : State) (kc ks : Nat) (Q : Option Value → Heap → List Loc → Prop) (o : Outcome) (t : State) : Prop := ∃ v L, o = .returned v ∧ Q v t.heap L ∧ ReturnedEndW s o t L kc ks
theorem OGo.go (f : ∀ t, Steps p.tables e below U' t → Steps p.tables e below U t) (k : OGo p e below G U') : OGo p e below G U := by
  obtain ⟨s₂, o, h1, h2⟩ := k
  exact ⟨s₂, o, f _ h1, h2⟩
theorem OGo.trans (f : Steps p.tables e below U U') (k : OGo p e below G U') : OGo p e below G U := OGo.go (fun _ r => f.trans r) k
/-- two roads that meet again, in a state that differs in one value -/
theorem OGo.ite1 {α : Type} {P : Prop} [Decidable P] (f : α → State) {x y : α} (h1 : P → OGo p e below G (f x) → OGo p e below G U) (h2 : ¬ P → OGo p e below G (f y) → OGo p e below G U) (k : ∀ z, z = (if P then x else y) → OGo p e below G (f z)) : OGo p e below G U := by
  by_cases q : P
  · exact h1 q (k _ (if_pos q).symm)
  · exact h2 q (k _ (if_neg q).symm)
theorem OGo.ite2 {α β : Type} {P : Prop} [Decidable P] (f : α → β → State) {x y : α} {x' y' : β} (h1 : P → OGo p e below G (f x x') → OGo p e below G U) (h2 : ¬ P → OGo p e below G (f y y') → OGo p e below G U) (k : ∀ z z', z = (if P then x else y) → z' = (if P then x' else y') → OGo p e below G (f z z')) : OGo p e below G U := by
  by_cases q : P
  · exact h1 q (k _ _ (if_pos q).symm (if_pos q).symm)
  · exact h2 q (k _ _ (if_neg q).symm (if_neg q).symm)
theorem OGo.cut {H : Prop} (V : State) (k1 : (H → OGo p e below G V) → OGo p e below G U) (k2 : H → OGo p e below G V) : OGo p e below G U := k1 k2
theorem OGo.cut2 {α : Type} {H : α → Prop} (V : α → State) (k1 : (∀ a, H a → OGo p e below G (V a)) → OGo p e below G U) (k2 : ∀ a, H a → OGo p e below G (V a)) : OGo p e below G U := k1 k2
theorem OGo.nm {α : Type} (f : α → State) {x : α} (k : ∀ z, z = x → OGo p e below G (f z)) : OGo p e below G (f x) := k x rfl
/-- the end of the walk -/
theorem OGo.ret (X : Stand p l e R s m args below meth c T locs cells slots) {v : Option Value} {g : JFrame} (hv : meth.sig.returnType = none → v = none) (hlk : meth.locks = false)
    (hs : ∀ fs, (∀ (f : JFrame) (acts : List Action), f.method = m → f.locked = none → f.entered = [] → (doReturn e (T.setTop f) acts v).1 = T.setFrames fs) → Steps p.tables e below (T.setTop g) (T.setFrames fs))
    (hQ : Q v T.heap locs) (hc : cells ≤ kc) (hl : slots ≤ ks) : OGo p e below (OEnd s kc ks Q) (T.setTop g) := by
  obtain ⟨fs, hr, hrun, hended, hW, hsame⟩ := X.leave (v := v) hv hlk
  exact ⟨_, _, hs fs hr, hrun, hended, v, locs, rfl, hQ, ⟨_, rfl⟩, hW, hsame.mono hc hl⟩
/-- return of a boolean, byte, char, short -/
theorem OGo.retN (X : Stand p l e R s m args below meth c T locs cells slots) (hx : p.tables.exec = Jvm.exec) {pc : Nat} {Ls : Array Slot} {z : Int32} {t : FieldType} {rest : List Value} (hret : meth.sig.returnType = some t) (hlk : meth.locks = false) (ht : t = .boolean ∨ t = .byte ∨ t = .char ∨ t = .short)
    (hd : decode c.code pc = .ok (.ireturn, 1)) (hQ : Q (some (.int (nar t z))) T.heap locs) (hc : cells ≤ kc) (hl : slots ≤ ks) : OGo p e below (OEnd s kc ks Q) (T.setTop (mkF m pc Ls (.int z :: rest))) :=
  OGo.ret X (fun q => by rw [hret] at q; cases q) hlk (fun fs hr => Jvm.RoadKit.retN X hx hret ht hd hr) hQ hc hl
/-- return of an int, a long, a double, a reference -/
theorem OGo.retV (X : Stand p l e R s m args below meth c T locs cells slots) (hx : p.tables.exec = Jvm.exec) {pc : Nat} {Ls : Array Slot} {w : Value} {t : FieldType} {i : Instr} {rest : List Value} (hret : meth.sig.returnType = some t) (hlk : meth.locks = false) (hn : narrow t w = w)
    (hi : (i = .ireturn ∧ (t = .int ∨ t = .boolean ∨ t = .byte ∨ t = .char ∨ t = .short) ∧ ∃ z, w = .int z) ∨ (i = .lreturn ∧ t = .long ∧ ∃ z, w = .long z) ∨ (i = .dreturn ∧ t = .double ∧ ∃ z, w = .double z) ∨ (i = .freturn ∧ t = .float ∧ ∃ z, w = .float z) ∨ (i = .areturn ∧ t.isReference = true ∧ w.isRef = true))
    (hd : decode c.code pc = .ok (i, 1)) (hQ : Q (some w) T.heap locs) (hc : cells ≤ kc) (hl : slots ≤ ks) : OGo p e below (OEnd s kc ks Q) (T.setTop (mkF m pc Ls (w :: rest))) :=
  OGo.ret X (fun q => by rw [hret] at q; cases q) hlk (fun fs hr => Jvm.RoadKit.retOut X hx hret hn hi hd hr) hQ hc hl
theorem OGo.retI (X : Stand p l e R s m args below meth c T locs cells slots) (hx : p.tables.exec = Jvm.exec) {pc : Nat} {Ls : Array Slot} {z : Int32} {rest : List Value} (hret : meth.sig.returnType = some .int) (hlk : meth.locks = false)
    (hd : decode c.code pc = .ok (.ireturn, 1)) (hQ : Q (some (.int z)) T.heap locs) (hc : cells ≤ kc) (hl : slots ≤ ks) : OGo p e below (OEnd s kc ks Q) (T.setTop (mkF m pc Ls (.int z :: rest))) :=
  OGo.retV X hx hret hlk rfl (Or.inl ⟨rfl, Or.inl rfl, z, rfl⟩) hd hQ hc hl
theorem OGo.retJ (X : Stand p l e R s m args below meth c T locs cells slots) (hx : p.tables.exec = Jvm.exec) {pc : Nat} {Ls : Array Slot} {z : Int64} {rest : List Value} (hret : meth.sig.returnType = some .long) (hlk : meth.locks = false)
    (hd : decode c.code pc = .ok (.lreturn, 1)) (hQ : Q (some (.long z)) T.heap locs) (hc : cells ≤ kc) (hl : slots ≤ ks) : OGo p e below (OEnd s kc ks Q) (T.setTop (mkF m pc Ls (.long z :: rest))) :=
  OGo.retV X hx hret hlk rfl (Or.inr (Or.inl ⟨rfl, rfl, z, rfl⟩)) hd hQ hc hl
theorem OGo.retD (X : Stand p l e R s m args below meth c T locs cells slots) (hx : p.tables.exec = Jvm.exec) {pc : Nat} {Ls : Array Slot} {z : UInt64} {rest : List Value} (hret : meth.sig.returnType = some .double) (hlk : meth.locks = false)
    (hd : decode c.code pc = .ok (.dreturn, 1)) (hQ : Q (some (.double z)) T.heap locs) (hc : cells ≤ kc) (hl : slots ≤ ks) : OGo p e below (OEnd s kc ks Q) (T.setTop (mkF m pc Ls (.double z :: rest))) :=
  OGo.retV X hx hret hlk rfl (Or.inr (Or.inr (Or.inl ⟨rfl, rfl, z, rfl⟩))) hd hQ hc hl
theorem OGo.retA (X : Stand p l e R s m args below meth c T locs cells slots) (hx : p.tables.exec = Jvm.exec) {pc : Nat} {Ls : Array Slot} {w : Value} {t : FieldType} {rest : List Value} (hret : meth.sig.returnType = some t) (hlk : meth.locks = false) (ht : t.isReference = true) (hw : w.isRef = true)
    (hd : decode c.code pc = .ok (.areturn, 1)) (hQ : Q (some w) T.heap locs) (hc : cells ≤ kc) (hl : slots ≤ ks) : OGo p e below (OEnd s kc ks Q) (T.setTop (mkF m pc Ls (w :: rest))) :=
  OGo.retV X hx hret hlk (by cases t <;> first | (cases ht; done) | (cases w <;> first | rfl | (cases hw; done))) (Or.inr (Or.inr (Or.inr (Or.inr ⟨rfl, ht, hw⟩)))) hd hQ hc hl
theorem OGo.ret0 (X : Stand p l e R s m args below meth c T locs cells slots) (hx : p.tables.exec = Jvm.exec) {pc : Nat} {Ls : Array Slot} (hret : meth.sig.returnType = none) (hlk : meth.locks = false)
    (hd : decode c.code pc = .ok (.return_, 1)) (hQ : Q none T.heap locs) (hc : cells ≤ kc) (hl : slots ≤ ks) : OGo p e below (OEnd s kc ks Q) (T.setTop (mkF m pc Ls [])) :=
  OGo.ret X (fun _ => rfl) hlk (fun fs hr => X.returnOut hx hret hd hr) hQ hc hl
/-- the end of the walk where a String constant may have come to be interned -/
theorem OGo.retW {vm₁ : Vm} {n : Nat} (X : Stand p l e R (s.setVm vm₁) m args below meth c T locs cells slots) (hS : s.Since vm₁ n) (hn : n ≤ T.heap.size) {v : Option Value} {g : JFrame} (hv : meth.sig.returnType = none → v = none) (hlk : meth.locks = false)
    (hs : ∀ fs, (∀ (f : JFrame) (acts : List Action), f.method = m → f.locked = none → f.entered = [] → (doReturn e (T.setTop f) acts v).1 = T.setFrames fs) → Steps p.tables e below (T.setTop g) (T.setFrames fs))
    (hQ : Q v T.heap locs) (hc : cells ≤ kc) (hl : slots ≤ ks) : OGo p e below (OEndW s kc ks Q) (T.setTop g) := by
  obtain ⟨fs, hr, hrun, hended, h1, h2, h3, h4⟩ := X.leaveW hS hn (v := v) hv hlk
  exact ⟨_, _, hs fs hr, hrun, hended, v, locs, rfl, hQ, h1, h2, h3, h4.mono hc hl⟩
theorem OGo.retNW {vm₁ : Vm} {n : Nat} (X : Stand p l e R (s.setVm vm₁) m args below meth c T locs cells slots) (hS : s.Since vm₁ n) (hn : n ≤ T.heap.size) (hx : p.tables.exec = Jvm.exec) {pc : Nat} {Ls : Array Slot} {z : Int32} {t : FieldType} {rest : List Value} (hret : meth.sig.returnType = some t) (hlk : meth.locks = false) (ht : t = .boolean ∨ t = .byte ∨ t = .char ∨ t = .short)
    (hd : decode c.code pc = .ok (.ireturn, 1)) (hQ : Q (some (.int (nar t z))) T.heap locs) (hc : cells ≤ kc) (hl : slots ≤ ks) : OGo p e below (OEndW s kc ks Q) (T.setTop (mkF m pc Ls (.int z :: rest))) :=
  OGo.retW X hS hn (fun q => by rw [hret] at q; cases q) hlk (fun fs hr => Jvm.RoadKit.retN X hx hret ht hd hr) hQ hc hl
/-- a body's contract: called with 'as' at a heap h0, it returns, and Q says what it left -/
def OMet (l : Launch) (Z : State) (y : MethodName) (bytes : ByteArray) (maxL : Nat) (ret : Option FieldType) (ws : List Jvm.Cond) (rm : Room) (as : Array Value) (h0 : Heap) (Q : Option Value → Heap → List Loc → Prop) : Prop :=
  MetFree l y (head1 (Jvm.Cond.code y bytes maxL ret :: ws) rm) (fun a U => a = as ∧ Z.Warmed39 U.vm ∧ U.heap = h0) (fun _ _ _ _ _ => True) (fun _ U o U' => ∃ v L, o = .returned v ∧ Q v U'.heap L ∧ FrameEnd U o U' L rm.cells rm.slots)
theorem OMet.of {y : MethodName} {bytes : ByteArray} {maxL : Nat} {ret : Option FieldType} {ws : List Jvm.Cond} {rm : Room} {as : Array Value} {h0 : Heap} (hpn : plainFor y = true)
    (H : ∀ (p : Program) (e : Env) (s : State) (m : MethodId) (below : List Frame) (meth : Method) (c : Code) (T0 : State), Stand p l e rm s m as below meth c T0 [] 0 0 → p.tables.exec = Jvm.exec → c.code = bytes → c.maxLocals = maxL → s.vm.findClass y.cls = some m.cls → meth.name = y.name → meth.sig.returnType = ret → meth.locks = false → Z.Warmed39 s.vm → T0.heap = h0 →
      OGo p e below (OEnd s rm.cells rm.slots Q) (T0.setTop (entryFrame m as maxL))) : OMet l Z y bytes maxL ret ws rm as h0 Q := by
  refine MetFree.of_bodySF hpn hisR ?_
  intro p e s m args below meth c s₁ Bd hml0 hP hK
  obtain ⟨rfl, hZ, hh⟩ := hP
  exact H p e s m below meth c s₁ (Stand.of_body Bd) Bd.exec Bd.bytes hml0 (findClass_of_methodNamed Bd.named) (name_of_methodNamed Bd.named Bd.method).1 Bd.returns Bd.notSynchronized hZ (by rw [← hh, Bd.state]; rfl)
def OMetW (l : Launch) (Z : State) (y : MethodName) (bytes : ByteArray) (maxL : Nat) (ret : Option FieldType) (ws : List Jvm.Cond) (rm : Room) (as : Array Value) (h0 : Heap) (Q : Option Value → Heap → List Loc → Prop) : Prop :=
  MetFree l y (head1 (Jvm.Cond.code y bytes maxL ret :: ws) rm) (fun a U => a = as ∧ Z.Warmed39 U.vm ∧ U.heap = h0) (fun _ _ _ _ _ => True) (fun _ U o U' => ∃ v L, o = .returned v ∧ Q v U'.heap L ∧ ReturnedEndW U o U' L rm.cells rm.slots)
theorem OMetW.of {y : MethodName} {bytes : ByteArray} {maxL : Nat} {ret : Option FieldType} {ws : List Jvm.Cond} {rm : Room} {as : Array Value} {h0 : Heap} (hpn : plainFor y = true)
    (H : ∀ (p : Program) (e : Env) (s : State) (m : MethodId) (below : List Frame) (meth : Method) (c : Code) (T0 : State), Stand p l e rm s m as below meth c T0 [] 0 0 → p.tables.exec = Jvm.exec → c.code = bytes → c.maxLocals = maxL → s.vm.findClass y.cls = some m.cls → meth.name = y.name → meth.sig.returnType = ret → meth.locks = false → Z.Warmed39 s.vm → T0.heap = h0 →
      OGo p e below (OEndW s rm.cells rm.slots Q) (T0.setTop (entryFrame m as maxL))) : OMetW l Z y bytes maxL ret ws rm as h0 Q := by
  refine MetFree.of_bodySF hpn hisR ?_
  intro p e s m args below meth c s₁ Bd hml0 hP hK
  obtain ⟨rfl, hZ, hh⟩ := hP
  exact H p e s m below meth c s₁ (Stand.of_body Bd) Bd.exec Bd.bytes hml0 (findClass_of_methodNamed Bd.named) (name_of_methodNamed Bd.named Bd.method).1 Bd.returns Bd.notSynchronized hZ (by rw [← hh, Bd.state]; rfl)
/-- a call of a static method -/
theorem OGo.callS (X : Stand p l e R s m args below meth c T locs cells slots) (hx : p.tables.exec = Jvm.exec) (hZ : Z.Warmed39 s.vm) {own : String} {index : Nat} {y : MethodName} {bytes : ByteArray} {maxL : Nat} {ret : Option FieldType}
    (hown : s.vm.findClass own = some m.cls) (w1 : (Jvm.Cond.methodLink own index y).before a0 Z = true) (w2 : (Jvm.Cond.static y).before a0 Z = true) (w3 : (Jvm.Cond.initialized y.cls).before a0 Z = true) (w4 : (Jvm.Cond.code y bytes maxL ret).before a0 Z = true)
    (hy : y.cls ≠ "java/lang/invoke/MethodHandle" ∧ y.cls ≠ "java/lang/invoke/VarHandle") {g : JFrame} {argsL rest : List Value} {rm : Room} {Q' : Option Value → Heap → List Loc → Prop} (eT : T.heap = h) (hM : OMet l Z y bytes maxL ret [] rm argsL.toArray h Q')
    (hg : g.method = m) (hsize : g.locals.size = c.maxLocals) (hlen : ∀ sig, parseMethodDescriptor y.desc = some sig → argsL.length = sig.parameters.length) (hstack : g.stack = argsL.reverse ++ rest) {W : Nat} (hW : 2 * g.monitorRoom + (rest.map fun v => v.category).sum ≤ W) (hd : decode c.code g.pc = .ok (.invokestatic index, 3))
    (hf : rm.frames + 1 ≤ R.frames) (hl : W + (maxL + 11) + rm.locals ≤ R.locals) (hc : cells + rm.cells ≤ R.cells) (hs : slots + rm.slots ≤ R.slots)
    (k : ∀ (v : Option Value) (T' : State) (L' : List Loc), Stand p l e R s m args below meth c T' (locs ++ L') (cells + rm.cells) (slots + rm.slots) → Q' v T'.heap L' → OGo p e below G (T'.setTop { g with pc := g.pc + 3, stack := v.toList ++ rest })) : OGo p e below G (T.setTop g) := by
  obtain ⟨v, vm₁, B, hW₁, X', ⟨L, hQ, e1, e2, e3⟩, st⟩ := Jvm.LawKit.callS X hx (y := y) hown (mvT hZ w1) (mvT hZ w2) (mvT hZ w3) (mvT hZ w4) hy (backOf (W := W) hM hZ w4 w3 hf hl) (g := g) hg hsize (argsL := argsL) (rest := rest) hlen hstack hW hd (fun _ _ => ⟨rfl, eT, hc, hs⟩)
  rw [e1, e2, e3] at X'
  exact OGo.go st (k v B.U L X' hQ)
/-- a call of a constructor -/
theorem OGo.callI (X : Stand p l e R s m args below meth c T locs cells slots) (hx : p.tables.exec = Jvm.exec) (hZ : Z.Warmed39 s.vm) {own : String} {index : Nat} {y : MethodName} {bytes : ByteArray} {maxL : Nat} (hy1 : y.name = "<init>")
    (hown : s.vm.findClass own = some m.cls) (w1 : (Jvm.Cond.methodLink own index y).before a0 Z = true) (w2 : (Jvm.Cond.instanceMethod y).before a0 Z = true) (w3 : (Jvm.Cond.initialized y.cls).before a0 Z = true) (w4 : (Jvm.Cond.code y bytes maxL none).before a0 Z = true)
    (hy : y.cls ≠ "java/lang/invoke/MethodHandle" ∧ y.cls ≠ "java/lang/invoke/VarHandle") {g : JFrame} {a : Addr} {argsL rest : List Value} {rm : Room} {Q' : Option Value → Heap → List Loc → Prop} (eT : T.heap = h) (hM : OMet l Z y bytes maxL none [] rm (.ref a :: argsL).toArray h Q')
    (hg : g.method = m) (hsize : g.locals.size = c.maxLocals) (hlen : ∀ sig, parseMethodDescriptor y.desc = some sig → argsL.length = sig.parameters.length) (hstack : g.stack = argsL.reverse ++ .ref a :: rest) {W : Nat} (hW : 2 * g.monitorRoom + (rest.map fun v => v.category).sum ≤ W) (hd : decode c.code g.pc = .ok (.invokespecial index, 3))
    (hf : rm.frames + 1 ≤ R.frames) (hl : W + (maxL + 11) + rm.locals ≤ R.locals) (hc : cells + rm.cells ≤ R.cells) (hs : slots + rm.slots ≤ R.slots)
    (k : ∀ (v : Option Value) (T' : State) (L' : List Loc), Stand p l e R s m args below meth c T' (locs ++ L') (cells + rm.cells) (slots + rm.slots) → Q' v T'.heap L' → OGo p e below G (T'.setTop { g with pc := g.pc + 3, stack := v.toList ++ rest })) : OGo p e below G (T.setTop g) := by
  obtain ⟨v, vm₁, B, hW₁, X', ⟨L, hQ, e1, e2, e3⟩, st⟩ := X.specialBack hx (y := y) hy1 hown (mvT hZ w1) (mvT hZ w2) (mvT hZ w4) hy (backOf (W := W) hM hZ w4 w3 hf hl) (g := g) hg hsize (Steps.refl _) (a := a) (argsL := argsL) (rest := rest) hlen hstack hW hd (fun _ _ => ⟨rfl, eT, hc, hs⟩)
  rw [e1, e2, e3] at X'
  exact OGo.trans st (k v B.U L X' hQ)
/-- a call of an instance method -/
theorem OGo.callV (X : Stand p l e R s m args below meth c T locs cells slots) (hx : p.tables.exec = Jvm.exec) (hZ : Z.Warmed39 s.vm) {own C : String} {index : Nat} {y : MethodName} {bytes : ByteArray} {maxL : Nat} {ret : Option FieldType}
    (hown : s.vm.findClass own = some m.cls) (w1 : (Jvm.Cond.methodLink own index y).before a0 Z = true) (w5 : (Jvm.Cond.declares y).before a0 Z = true) (w6 : (Jvm.Cond.selects C y y).before a0 Z = true) (w2 : (Jvm.Cond.instanceMethod y).before a0 Z = true) (w3 : (Jvm.Cond.initialized y.cls).before a0 Z = true) (w4 : (Jvm.Cond.code y bytes maxL ret).before a0 Z = true)
    (hy : y.cls ≠ "java/lang/invoke/MethodHandle" ∧ y.cls ≠ "java/lang/invoke/VarHandle") {g : JFrame} {a : Addr} {argsL rest : List Value} {rm : Room} {Q' : Option Value → Heap → List Loc → Prop} (eT : T.heap = h) (E : Exa Z h a C) (hM : OMet l Z y bytes maxL ret [] rm (.ref a :: argsL).toArray h Q')
    (hg : g.method = m) (hsize : g.locals.size = c.maxLocals) (hlen : ∀ sig, parseMethodDescriptor y.desc = some sig → argsL.length = sig.parameters.length) (hstack : g.stack = argsL.reverse ++ .ref a :: rest) {W : Nat} (hW : 2 * g.monitorRoom + (rest.map fun v => v.category).sum ≤ W) (hd : decode c.code g.pc = .ok (.invokevirtual index, 3))
    (hf : rm.frames + 1 ≤ R.frames) (hl : W + (maxL + 11) + rm.locals ≤ R.locals) (hc : cells + rm.cells ≤ R.cells) (hs : slots + rm.slots ≤ R.slots)
    (k : ∀ (v : Option Value) (T' : State) (L' : List Loc), Stand p l e R s m args below meth c T' (locs ++ L') (cells + rm.cells) (slots + rm.slots) → Q' v T'.heap L' → OGo p e below G (T'.setTop { g with pc := g.pc + 3, stack := v.toList ++ rest })) : OGo p e below G (T.setTop g) := by
  obtain ⟨cB, kB, q1, q2, q3⟩ := isOf hZ eT E
  obtain ⟨v, vm₁, B, hW₁, X', ⟨L, hQ, e1, e2, e3⟩, st⟩ := X.virtualBack hx (y := y) (z := y) hown (mvT hZ w1) (mvT hZ w5) (notFace_of_selects (args := #[]) (mvT hZ w6)) (mvT hZ w6) (mvT hZ w2) hy (backOf (W := W) hM hZ w4 w3 hf hl) q1 q3 (g := g) hg hsize (Steps.refl _) (argsL := argsL) (rest := rest) hlen hstack hW hd (fun _ _ => ⟨rfl, eT, hc, hs⟩)
  rw [e1, e2, e3] at X'
  exact OGo.trans st (k v B.U L X' hQ)
/-- what a contract says that leaves the heap as it was -/
def OPure (w : Option Value) (h0 : Heap) (v : Option Value) (h : Heap) (L : List Loc) : Prop := v = w ∧ h = h0 ∧ L = []
/-- a static that a sheet says to hold an object of just this class -/
theorem own_enum {s : State} {args : Array Value} {C n d K : String} (hx : (Jvm.Cond.exactly (.static C n d) K).value args s none s [] = some true) (w1 : (Jvm.Cond.initialized C).before args s = true) (w2 : (Jvm.Cond.laysStatic C n d).before args s = true) :
    ∃ a, (Term.static C n d).eval args s none [] s = some (.ref a) ∧ Sta s s.heap C n d (.ref a) ∧ Exa s s.heap a K := by
  obtain ⟨a, ev⟩ := exa_v hx
  exact ⟨a, ev, Sta.start ev (Or.inr ⟨w1, w2⟩), Exa.start ev hx⟩
theorem own_efld {s : State} {args : Array Value} {t : Term} {C n d : String} {a : Addr} {k : Int32} (ev : t.eval args s none [] s = some (.ref a)) (h : (Jvm.Cond.eq (.field t C n d) (.int k)).value args s none s [] = some true) : Fld s s.heap a C n d (.int k) := by
  obtain ⟨x, y, h1, h2, h3, h4⟩ := cmp_v (Or.inl h)
  have h2' : y = .int k := (Option.some.inj h2).symm
  subst h2'
  obtain ⟨z, rfl⟩ := h4
  have q : (Jvm.Cond.eq (.field t C n d) (.int k)).value args s none s [] = some (decide (z = k)) := by simp [Cond.value, h1, h2]
  have e := gotT q h
  subst e
  exact Fld.start ((fld_at ev).symm.trans h1)
theorem own_sta_keep {h' : Heap} {C n d : String} {v : Value} {ws : List Addr} (F : Sta Z h C n d v) (K : Keep h h' ws) (q : ∀ x ∈ ws, ∀ cell : Cell, h[x]? = some cell → cell.vm.isStatics = false) : Sta Z h' C n d v := by
  obtain ⟨cf, i, k, f, st, cell, h1, h2, h3, h4, h5, h6, h7⟩ := F
  exact ⟨cf, i, k, f, st, cell, h1, h2, h3, h4, K.2.1 _ _ h5 (fun r => by rw [q _ r _ h5] at h6; cases h6), h6, h7⟩
theorem own_plain {a : Addr} {C : String} (F : Exa Z h a C) : ∀ cell : Cell, h[a]? = some cell → cell.vm.isStatics = false := fun cell hc => by
  obtain ⟨c', k, h1, h2, h3, h4, h5⟩ := F
  cases h1.symm.trans hc
  exact h4
theorem nar_b0 : nar .boolean 0 = 0 := by decide
theorem nar_b1 : nar .boolean 1 = 1 := by decide
theorem nar_bite {P : Prop} [Decidable P] {x y : Int32} : nar .boolean (if P then x else y) = if P then nar .boolean x else nar .boolean y := by split <;> rfl
end OwnGo
end Jvm.RoadKit
namespace Jvm.Pilot.@@N@@
open Jvm Jvm.ClassFile Sem Op Lib Jvm.Free Jvm.Stand Jvm.LawKit Jvm.RoadKit Bundle Jvm.Pilot.@@N@@.Jvm.D
theorem pd_0 : parseMethodDescriptor "(II)I" = some ⟨[.int, .int], some .int⟩ := by decide +kernel
def F_mx (x0 : Int32) (x1 : Int32) : Int32 := (if x0 < x1 then x1 else x0)
theorem d_mx_0 : decode jdk_29_method_65_code 0 = .ok (.iload_n 0, 1) := by decide +kernel
theorem d_mx_1 : decode jdk_29_method_65_code 1 = .ok (.iload_n 1, 1) := by decide +kernel
theorem d_mx_2 : decode jdk_29_method_65_code 2 = .ok (.if_icmp .lt 7, 3) := by decide +kernel
theorem d_mx_5 : decode jdk_29_method_65_code 5 = .ok (.iload_n 0, 1) := by decide +kernel
theorem d_mx_6 : decode jdk_29_method_65_code 6 = .ok (.goto 4, 3) := by decide +kernel
theorem d_mx_9 : decode jdk_29_method_65_code 9 = .ok (.iload_n 1, 1) := by decide +kernel
theorem d_mx_10 : decode jdk_29_method_65_code 10 = .ok (.ireturn, 1) := by decide +kernel
theorem ef_mx (m : MethodId) (x0 : Int32) (x1 : Int32) : entryFrame m #[(.int x0), (.int x1)] 2 = mkF m 0 #[.val (.int x0), .val (.int x1)] [] := by first | (simp [entryFrame, mkF, argsToLocals, Value.category]; done) | rfl
theorem pn_mx : plainFor (⟨"java/lang/Math", "max", "(II)I"⟩ : MethodName) = true := by first | exact plainFor_of_name (by first | (simp [plainName, overriddenIn]; done) | decide +kernel) | decide +kernel
set_option maxRecDepth 65536 in
set_option maxHeartbeats 40000000 in
theorem rm_mx (l : Launch) (Z : State) (a0 : Array Value) (hw : ∀ d ∈ tables_1, d.before a0 Z = true) (x0 : Int32) (x1 : Int32)  (h0 : Heap)  :
    OMet l Z (⟨"java/lang/Math", "max", "(II)I"⟩ : MethodName) jdk_29_method_65_code 2 (some .int) [] ({ frames := 0, cells := 0, slots := 0, locals := 0 } : Room) #[(.int x0), (.int x1)] h0 (OPure (some (.int (F_mx x0 x1))) h0) := by
  refine OMet.of pn_mx ?_
  intro p e s m below meth c T0 X0 hx hby hml hown0 hnm hret hlk hZ e0
  have hown : s.vm.findClass "java/lang/Math" = some m.cls := hown0
  refine OGo.go (fun t k => castTop (ef_mx m x0 x1) k) ?_
  refine OGo.go (U' := T0.setTop (mkF m 1 #[.val (.int x0), .val (.int x1)] [(.int x0)])) (fun _ k => XS.iloadN X0.here hx rfl (hb hby d_mx_0) rfl k) ?_
  refine OGo.go (U' := T0.setTop (mkF m 2 #[.val (.int x0), .val (.int x1)] [(.int x1), (.int x0)])) (fun _ k => XS.iloadN X0.here hx rfl (hb hby d_mx_1) rfl k) ?_
  refine OGo.ite1 (P := x0 < x1) (fun (z2 : Int32) => T0.setTop (mkF m 10 #[.val (.int x0), .val (.int x1)] [(.int z2)])) (x := x1) (y := x0) (fun hc1 k3 => ?_) (fun hc1 k3 => ?_) ?_
  · skip
    refine OGo.go (U' := T0.setTop (mkF m 9 #[.val (.int x0), .val (.int x1)] [])) (fun _ k => XS.icmpYes X0.here hx rfl (pc0 := 2) (pc' := 9) rfl (hb hby d_mx_2) rfl (tlt hc1).1 (by decide) (by decide) k) ?_
    refine OGo.go (U' := T0.setTop (mkF m 10 #[.val (.int x0), .val (.int x1)] [(.int x1)])) (fun _ k => XS.iloadN X0.here hx rfl (hb hby d_mx_9) rfl k) ?_
    exact k3
  · skip
    refine OGo.go (U' := T0.setTop (mkF m 5 #[.val (.int x0), .val (.int x1)] [])) (fun _ k => XS.icmpNo X0.here hx rfl (hb hby d_mx_2) rfl (flt hc1).1 k) ?_
    refine OGo.go (U' := T0.setTop (mkF m 6 #[.val (.int x0), .val (.int x1)] [(.int x0)])) (fun _ k => XS.iloadN X0.here hx rfl (hb hby d_mx_5) rfl k) ?_
    refine OGo.go (U' := T0.setTop (mkF m 10 #[.val (.int x0), .val (.int x1)] [(.int x0)])) (fun _ k => XS.goto X0.here hx rfl (pc0 := 6) (pc' := 10) rfl (hb hby d_mx_6) (by decide) (by decide) k) ?_
    exact k3
  intro z2 hz2
  refine OGo.retI X0 hx hret hlk (hb hby d_mx_10) ?_ (by decide) (by decide)
  refine ⟨?_, e0, rfl⟩
  subst hz2
  rfl
def F_mm (x0 : Int32) (x1 : Int32) : Int32 := (((((2 : Int64) * ((x0.toInt64) * (254 : Int64))) + ((10 : Int64) * (x1.toInt64))) / ((20 : Int64) * (x1.toInt64))).toInt32)
theorem d_mm_0 : decode prog_21_method_7_code 0 = .ok (.iload_n 0, 1) := by decide +kernel
theorem d_mm_1 : decode prog_21_method_7_code 1 = .ok (.i2l, 1) := by decide +kernel
theorem d_mm_2 : decode prog_21_method_7_code 2 = .ok (.ldc2_w 108, 3) := by decide +kernel
theorem d_mm_5 : decode prog_21_method_7_code 5 = .ok (.lmul, 1) := by decide +kernel
theorem d_mm_6 : decode prog_21_method_7_code 6 = .ok (.lstore_n 2, 1) := by decide +kernel
theorem d_mm_7 : decode prog_21_method_7_code 7 = .ok (.ldc2_w 110, 3) := by decide +kernel
theorem d_mm_10 : decode prog_21_method_7_code 10 = .ok (.lload_n 2, 1) := by decide +kernel
theorem d_mm_11 : decode prog_21_method_7_code 11 = .ok (.lmul, 1) := by decide +kernel
theorem d_mm_12 : decode prog_21_method_7_code 12 = .ok (.ldc2_w 112, 3) := by decide +kernel
theorem d_mm_15 : decode prog_21_method_7_code 15 = .ok (.iload_n 1, 1) := by decide +kernel
theorem d_mm_16 : decode prog_21_method_7_code 16 = .ok (.i2l, 1) := by decide +kernel
theorem d_mm_17 : decode prog_21_method_7_code 17 = .ok (.lmul, 1) := by decide +kernel
theorem d_mm_18 : decode prog_21_method_7_code 18 = .ok (.ladd, 1) := by decide +kernel
theorem d_mm_19 : decode prog_21_method_7_code 19 = .ok (.ldc2_w 114, 3) := by decide +kernel
theorem d_mm_22 : decode prog_21_method_7_code 22 = .ok (.iload_n 1, 1) := by decide +kernel
theorem d_mm_23 : decode prog_21_method_7_code 23 = .ok (.i2l, 1) := by decide +kernel
theorem d_mm_24 : decode prog_21_method_7_code 24 = .ok (.lmul, 1) := by decide +kernel
theorem d_mm_25 : decode prog_21_method_7_code 25 = .ok (.ldiv, 1) := by decide +kernel
theorem d_mm_26 : decode prog_21_method_7_code 26 = .ok (.l2i, 1) := by decide +kernel
theorem d_mm_27 : decode prog_21_method_7_code 27 = .ok (.ireturn, 1) := by decide +kernel
theorem ef_mm (m : MethodId) (x0 : Int32) (x1 : Int32) : entryFrame m #[(.int x0), (.int x1)] 4 = mkF m 0 #[.val (.int x0), .val (.int x1), .unset, .unset] [] := by first | (simp [entryFrame, mkF, argsToLocals, Value.category]; done) | rfl
theorem pn_mm : plainFor (⟨"com/example/scanout/scanout/display/DisplayDevice", "millimetres", "(II)I"⟩ : MethodName) = true := by first | exact plainFor_of_name (by first | (simp [plainName, overriddenIn]; done) | decide +kernel) | decide +kernel
set_option maxRecDepth 65536 in
set_option maxHeartbeats 40000000 in
theorem rm_mm (l : Launch) (Z : State) (a0 : Array Value) (hw : ∀ d ∈ tables_1, d.before a0 Z = true) (x0 : Int32) (x1 : Int32)  (h0 : Heap) (hnz : ¬ ((20 : Int64) * x1.toInt64) = 0) :
    OMet l Z (⟨"com/example/scanout/scanout/display/DisplayDevice", "millimetres", "(II)I"⟩ : MethodName) prog_21_method_7_code 4 (some .int) [] ({ frames := 0, cells := 0, slots := 0, locals := 0 } : Room) #[(.int x0), (.int x1)] h0 (OPure (some (.int (F_mm x0 x1))) h0) := by
  refine OMet.of pn_mm ?_
  intro p e s m below meth c T0 X0 hx hby hml hown0 hnm hret hlk hZ e0
  have hown : s.vm.findClass "com/example/scanout/scanout/display/DisplayDevice" = some m.cls := hown0
  refine OGo.go (fun t k => castTop (ef_mm m x0 x1) k) ?_
  refine OGo.go (U' := T0.setTop (mkF m 1 #[.val (.int x0), .val (.int x1), .unset, .unset] [(.int x0)])) (fun _ k => XS.iloadN X0.here hx rfl (hb hby d_mm_0) rfl k) ?_
  refine OGo.go (U' := T0.setTop (mkF m 2 #[.val (.int x0), .val (.int x1), .unset, .unset] [(.long (x0.toInt64))])) (fun _ k => XS.i2l X0.here hx rfl (hb hby d_mm_1) rfl k) ?_
  refine OGo.go (U' := T0.setTop (mkF m 5 #[.val (.int x0), .val (.int x1), .unset, .unset] [(.long (254 : Int64)), (.long (x0.toInt64))])) (fun _ k => X0.ldc2Long hx hown (mvT hZ (hw _ (List.mem_of_getElem? (i := 13) rfl))) (g := (mkF m 2 #[.val (.int x0), .val (.int x1), .unset, .unset] [(.long (x0.toInt64))])) rfl (hb hby d_mm_2) _ k) ?_
  refine OGo.go (U' := T0.setTop (mkF m 6 #[.val (.int x0), .val (.int x1), .unset, .unset] [(.long ((x0.toInt64) * (254 : Int64)))])) (fun _ k => XS.lmul X0.here hx rfl (hb hby d_mm_5) rfl k) ?_
  refine OGo.go (U' := T0.setTop (mkF m 7 #[.val (.int x0), .val (.int x1), .val (.long ((x0.toInt64) * (254 : Int64))), .second] [])) (fun _ k => XS.lstoreN X0.here hx rfl (hb hby d_mm_6) rfl (l' := #[.val (.int x0), .val (.int x1), .val (.long ((x0.toInt64) * (254 : Int64))), .second]) rfl k) ?_
  refine OGo.go (U' := T0.setTop (mkF m 10 #[.val (.int x0), .val (.int x1), .val (.long ((x0.toInt64) * (254 : Int64))), .second] [(.long (2 : Int64))])) (fun _ k => X0.ldc2Long hx hown (mvT hZ (hw _ (List.mem_of_getElem? (i := 14) rfl))) (g := (mkF m 7 #[.val (.int x0), .val (.int x1), .val (.long ((x0.toInt64) * (254 : Int64))), .second] [])) rfl (hb hby d_mm_7) _ k) ?_
  refine OGo.go (U' := T0.setTop (mkF m 11 #[.val (.int x0), .val (.int x1), .val (.long ((x0.toInt64) * (254 : Int64))), .second] [(.long ((x0.toInt64) * (254 : Int64))), (.long (2 : Int64))])) (fun _ k => XS.lloadN X0.here hx rfl (hb hby d_mm_10) rfl k) ?_
  refine OGo.go (U' := T0.setTop (mkF m 12 #[.val (.int x0), .val (.int x1), .val (.long ((x0.toInt64) * (254 : Int64))), .second] [(.long ((2 : Int64) * ((x0.toInt64) * (254 : Int64))))])) (fun _ k => XS.lmul X0.here hx rfl (hb hby d_mm_11) rfl k) ?_
  refine OGo.go (U' := T0.setTop (mkF m 15 #[.val (.int x0), .val (.int x1), .val (.long ((x0.toInt64) * (254 : Int64))), .second] [(.long (10 : Int64)), (.long ((2 : Int64) * ((x0.toInt64) * (254 : Int64))))])) (fun _ k => X0.ldc2Long hx hown (mvT hZ (hw _ (List.mem_of_getElem? (i := 15) rfl))) (g := (mkF m 12 #[.val (.int x0), .val (.int x1), .val (.long ((x0.toInt64) * (254 : Int64))), .second] [(.long ((2 : Int64) * ((x0.toInt64) * (254 : Int64))))])) rfl (hb hby d_mm_12) _ k) ?_
  refine OGo.go (U' := T0.setTop (mkF m 16 #[.val (.int x0), .val (.int x1), .val (.long ((x0.toInt64) * (254 : Int64))), .second] [(.int x1), (.long (10 : Int64)), (.long ((2 : Int64) * ((x0.toInt64) * (254 : Int64))))])) (fun _ k => XS.iloadN X0.here hx rfl (hb hby d_mm_15) rfl k) ?_
  refine OGo.go (U' := T0.setTop (mkF m 17 #[.val (.int x0), .val (.int x1), .val (.long ((x0.toInt64) * (254 : Int64))), .second] [(.long (x1.toInt64)), (.long (10 : Int64)), (.long ((2 : Int64) * ((x0.toInt64) * (254 : Int64))))])) (fun _ k => XS.i2l X0.here hx rfl (hb hby d_mm_16) rfl k) ?_
  refine OGo.go (U' := T0.setTop (mkF m 18 #[.val (.int x0), .val (.int x1), .val (.long ((x0.toInt64) * (254 : Int64))), .second] [(.long ((10 : Int64) * (x1.toInt64))), (.long ((2 : Int64) * ((x0.toInt64) * (254 : Int64))))])) (fun _ k => XS.lmul X0.here hx rfl (hb hby d_mm_17) rfl k) ?_
  refine OGo.go (U' := T0.setTop (mkF m 19 #[.val (.int x0), .val (.int x1), .val (.long ((x0.toInt64) * (254 : Int64))), .second] [(.long (((2 : Int64) * ((x0.toInt64) * (254 : Int64))) + ((10 : Int64) * (x1.toInt64))))])) (fun _ k => XS.ladd X0.here hx rfl (hb hby d_mm_18) rfl k) ?_
  refine OGo.go (U' := T0.setTop (mkF m 22 #[.val (.int x0), .val (.int x1), .val (.long ((x0.toInt64) * (254 : Int64))), .second] [(.long (20 : Int64)), (.long (((2 : Int64) * ((x0.toInt64) * (254 : Int64))) + ((10 : Int64) * (x1.toInt64))))])) (fun _ k => X0.ldc2Long hx hown (mvT hZ (hw _ (List.mem_of_getElem? (i := 16) rfl))) (g := (mkF m 19 #[.val (.int x0), .val (.int x1), .val (.long ((x0.toInt64) * (254 : Int64))), .second] [(.long (((2 : Int64) * ((x0.toInt64) * (254 : Int64))) + ((10 : Int64) * (x1.toInt64))))])) rfl (hb hby d_mm_19) _ k) ?_
  refine OGo.go (U' := T0.setTop (mkF m 23 #[.val (.int x0), .val (.int x1), .val (.long ((x0.toInt64) * (254 : Int64))), .second] [(.int x1), (.long (20 : Int64)), (.long (((2 : Int64) * ((x0.toInt64) * (254 : Int64))) + ((10 : Int64) * (x1.toInt64))))])) (fun _ k => XS.iloadN X0.here hx rfl (hb hby d_mm_22) rfl k) ?_
  refine OGo.go (U' := T0.setTop (mkF m 24 #[.val (.int x0), .val (.int x1), .val (.long ((x0.toInt64) * (254 : Int64))), .second] [(.long (x1.toInt64)), (.long (20 : Int64)), (.long (((2 : Int64) * ((x0.toInt64) * (254 : Int64))) + ((10 : Int64) * (x1.toInt64))))])) (fun _ k => XS.i2l X0.here hx rfl (hb hby d_mm_23) rfl k) ?_
  refine OGo.go (U' := T0.setTop (mkF m 25 #[.val (.int x0), .val (.int x1), .val (.long ((x0.toInt64) * (254 : Int64))), .second] [(.long ((20 : Int64) * (x1.toInt64))), (.long (((2 : Int64) * ((x0.toInt64) * (254 : Int64))) + ((10 : Int64) * (x1.toInt64))))])) (fun _ k => XS.lmul X0.here hx rfl (hb hby d_mm_24) rfl k) ?_
  refine OGo.go (U' := T0.setTop (mkF m 26 #[.val (.int x0), .val (.int x1), .val (.long ((x0.toInt64) * (254 : Int64))), .second] [(.long ((((2 : Int64) * ((x0.toInt64) * (254 : Int64))) + ((10 : Int64) * (x1.toInt64))) / ((20 : Int64) * (x1.toInt64))))])) (fun _ k => XS.ldiv X0.here hx rfl (hb hby d_mm_25) rfl hnz k) ?_
  refine OGo.go (U' := T0.setTop (mkF m 27 #[.val (.int x0), .val (.int x1), .val (.long ((x0.toInt64) * (254 : Int64))), .second] [(.int (((((2 : Int64) * ((x0.toInt64) * (254 : Int64))) + ((10 : Int64) * (x1.toInt64))) / ((20 : Int64) * (x1.toInt64))).toInt32))])) (fun _ k => XS.l2i X0.here hx rfl (hb hby d_mm_26) rfl k) ?_
  refine OGo.retI X0 hx hret hlk (hb hby d_mm_27) ?_ (by decide) (by decide)
  refine ⟨?_, e0, rfl⟩
  rfl
theorem own_mul (a b : Int64) (x : Int) (h : a.toInt * b.toInt = x) (h1 : -9223372036854775808 ≤ x) (h2 : x < 9223372036854775808) : (a * b).toInt = x := by
  have q := c_lmul a b
  have r := rng64 (a * b)
  rw [h] at q
  omega
theorem own_add (a b : Int64) (x : Int) (h : a.toInt + b.toInt = x) (h1 : -9223372036854775808 ≤ x) (h2 : x < 9223372036854775808) : (a + b).toInt = x := by
  have q := c_ladd a b
  have r := rng64 (a + b)
  rw [h] at q
  omega
theorem own_sub (a b : Int64) (x : Int) (h : a.toInt - b.toInt = x) (h1 : -9223372036854775808 ≤ x) (h2 : x < 9223372036854775808) : (a - b).toInt = x := by
  have q := c_lsub a b
  have r := rng64 (a - b)
  rw [h] at q
  omega
theorem own_P {x0 y1 : Int32} (hy1 : y1 = (x0 &&& (2147483647 : Int32))) : 0 ≤ y1.toInt ∧ y1.toInt ≤ 2147483647 := by
  have h := c_and x0 2147483647 (by decide)
  rw [← hy1] at h
  exact ⟨h.1, h.2⟩
theorem own_D {x1 y3 : Int32} (hy3 : y3 = (F_mx (1 : Int32) (x1 &&& (2147483647 : Int32)))) : 1 ≤ y3.toInt ∧ y3.toInt ≤ 2147483647 := by
  have e1 : (1 : Int32).toInt = 1 := by decide
  have r := rng32 (x1 &&& (2147483647 : Int32))
  rw [F_mx] at hy3
  split at hy3
  · rename_i h
    rw [Int32.lt_iff_toInt_lt, e1] at h
    rw [hy3]; omega
  · rw [hy3, e1]; omega
theorem own_k {y : Int32} (k : Int64) (K : Int) (hk : k.toInt = K) (h0 : 0 ≤ K) (hK : K ≤ 1000000) : (k * y.toInt64).toInt = K * y.toInt := by
  have r := rng32 y
  refine own_mul _ _ _ (by rw [hk, c_i2l]) ?_ ?_
  · have : -(1000000 * 2147483648) ≤ K * y.toInt := by
      have h1 : K * (-2147483648) ≤ K * y.toInt := Int.mul_le_mul_of_nonneg_left r.1 h0
      omega
    omega
  · have h1 : K * y.toInt ≤ K * 2147483648 := Int.mul_le_mul_of_nonneg_left (by omega) h0
    omega
theorem own_nz {x1 y3 : Int32} (hy3 : y3 = (F_mx (1 : Int32) (x1 &&& (2147483647 : Int32)))) : ¬ ((20 : Int64) * y3.toInt64) = 0 := fun q => by
  have h := own_k (y := y3) 20 20 (by decide) (by omega) (by omega)
  have d := own_D hy3
  rw [q] at h
  have e : (0 : Int64).toInt = 0 := by decide
  omega
theorem own_q {y1 y3 : Int32} (p0 : 0 ≤ y1.toInt) (p1 : y1.toInt ≤ 2147483647) (d0 : 1 ≤ y3.toInt) (d1 : y3.toInt ≤ 2147483647) (h : 508 * y1.toInt + 10 * y3.toInt < 42949672960 * y3.toInt) :
    (F_mm y1 y3).toInt = (508 * y1.toInt + 10 * y3.toInt) / (20 * y3.toInt) := by
  have a1 : (y1.toInt64 * (254 : Int64)).toInt = 254 * y1.toInt := by
    refine own_mul _ _ _ (by rw [c_i2l, show (254 : Int64).toInt = 254 by decide]; omega) ?_ ?_ <;> omega
  have a2 : ((2 : Int64) * (y1.toInt64 * (254 : Int64))).toInt = 508 * y1.toInt := by
    refine own_mul _ _ _ (by rw [a1, show (2 : Int64).toInt = 2 by decide]; omega) ?_ ?_ <;> omega
  have a3 := own_k (y := y3) 10 10 (by decide) (by omega) (by omega)
  have a4 := own_k (y := y3) 20 20 (by decide) (by omega) (by omega)
  have a5 : ((2 : Int64) * (y1.toInt64 * (254 : Int64)) + (10 : Int64) * y3.toInt64).toInt = 508 * y1.toInt + 10 * y3.toInt := by
    refine own_add _ _ _ (by rw [a2, a3]) ?_ ?_ <;> omega
  have a6 := (c_ldiv ((2 : Int64) * (y1.toInt64 * (254 : Int64)) + (10 : Int64) * y3.toInt64) ((20 : Int64) * y3.toInt64) (20 * y3.toInt) a4 (fun q => by
    rw [q] at a4; have e : (-1 : Int64).toInt = -1 := by decide
    omega)).1 (by rw [a5]; omega)
  rw [a5] at a6
  have b1 : 0 ≤ (508 * y1.toInt + 10 * y3.toInt) / (20 * y3.toInt) := Int.ediv_nonneg (by omega) (by omega)
  have b2 : (508 * y1.toInt + 10 * y3.toInt) / (20 * y3.toInt) < 2147483648 := Int.ediv_lt_of_lt_mul (by omega) (by omega)
  have a7 := c_l2i (((2 : Int64) * (y1.toInt64 * (254 : Int64)) + (10 : Int64) * y3.toInt64) / ((20 : Int64) * y3.toInt64))
  rw [a6] at a7
  have r := rng32 (F_mm y1 y3)
  have e : F_mm y1 y3 = (((2 : Int64) * (y1.toInt64 * (254 : Int64)) + (10 : Int64) * y3.toInt64) / ((20 : Int64) * y3.toInt64)).toInt32 := rfl
  rw [← e] at a7
  omega
theorem own_all {x0 x1 y1 y3 y8 : Int32} {y4 : Int64} (hy1 : y1 = (x0 &&& (2147483647 : Int32))) (hy3 : y3 = (F_mx (1 : Int32) (x1 &&& (2147483647 : Int32)))) (hy4 : y4 = ((508 : Int64) * (y1.toInt64)))
    (hH : ¬ (y3 < (1024 : Int32)) ∨ y4 + (10 : Int64) * y3.toInt64 < ((20 : Int64) * y3.toInt64) * (2147483648 : Int64)) (hy8 : y8 = (F_mm y1 y3)) :
    0 ≤ y8.toInt ∧ y4.toInt = 508 * y1.toInt ∧ (0 ≤ y1.toInt ∧ y1.toInt ≤ 2147483647) ∧ (1 ≤ y3.toInt ∧ y3.toInt ≤ 2147483647) ∧ (y8.toInt64 * y3.toInt64).toInt = y8.toInt * y3.toInt ∧ 0 ≤ y8.toInt * y3.toInt ∧
      20 * (y8.toInt * y3.toInt) ≤ 508 * y1.toInt + 10 * y3.toInt ∧ 508 * y1.toInt + 10 * y3.toInt < 20 * (y8.toInt * y3.toInt) + 20 * y3.toInt := by
  have p := own_P hy1
  have d := own_D hy3
  have t4 : y4.toInt = 508 * y1.toInt := by rw [hy4]; exact own_k 508 508 (by decide) (by omega) (by omega)
  have h : 508 * y1.toInt + 10 * y3.toInt < 42949672960 * y3.toInt := by
    rcases hH with hH | hH
    · rw [Int32.lt_iff_toInt_lt, show (1024 : Int32).toInt = 1024 by decide] at hH
      omega
    · have a3 := own_k (y := y3) 10 10 (by decide) (by omega) (by omega)
      have a4 := own_k (y := y3) 20 20 (by decide) (by omega) (by omega)
      have a5 : (y4 + (10 : Int64) * y3.toInt64).toInt = 508 * y1.toInt + 10 * y3.toInt := by
        refine own_add _ _ _ (by rw [t4, a3]) ?_ ?_ <;> omega
      by_cases hb : y3.toInt < 1024
      · have a6 : (((20 : Int64) * y3.toInt64) * (2147483648 : Int64)).toInt = 42949672960 * y3.toInt := by
          refine own_mul _ _ _ (by rw [a4, show (2147483648 : Int64).toInt = 2147483648 by decide]; omega) ?_ ?_ <;> omega
        rw [Int64.lt_iff_toInt_lt, a5, a6] at hH
        exact hH
      · omega
  have q := own_q p.1 p.2 d.1 d.2 h
  rw [← hy8] at q
  have b1 : 0 ≤ y8.toInt := by rw [q]; exact Int.ediv_nonneg (by omega) (by omega)
  have e : 20 * y3.toInt * y8.toInt = 20 * (y8.toInt * y3.toInt) := by rw [Int.mul_assoc, Int.mul_comm y3.toInt]
  have c1 : 20 * y3.toInt * y8.toInt ≤ 508 * y1.toInt + 10 * y3.toInt := by rw [q]; exact Int.mul_ediv_self_le (by omega)
  have c2 : 508 * y1.toInt + 10 * y3.toInt < 20 * y3.toInt * y8.toInt + 20 * y3.toInt := by rw [q]; exact Int.lt_mul_ediv_self_add (by omega)
  rw [e] at c1 c2
  have b2 : 0 ≤ y8.toInt * y3.toInt := Int.mul_nonneg b1 (by omega)
  have b3 : (y8.toInt64 * y3.toInt64).toInt = y8.toInt * y3.toInt := by
    refine own_mul _ _ _ (by rw [c_i2l, c_i2l]) ?_ ?_ <;> omega
  exact ⟨b1, t4, p, d, b3, b2, c1, c2⟩

theorem own_ret_0 {x0 : Int32} {x1 : Int32} {y1 : Int32} {y3 : Int32} {y4 : Int64} (hy1 : y1 = (x0 &&& (2147483647 : Int32))) (hy3 : y3 = (F_mx (1 : Int32) (x1 &&& (2147483647 : Int32)))) (hy4 : y4 = ((508 : Int64) * (y1.toInt64))) (hc5 : y3 < (1024 : Int32)) (hc6 : ¬ ((y4 + ((10 : Int64) * (y3.toInt64))) < (((20 : Int64) * (y3.toInt64)) * (2147483648 : Int64)))) : some (Value.int (nar .boolean (1 : Int32))) = some (Value.int 1) := by
  rfl
theorem own_ret_1 {x0 : Int32} {x1 : Int32} {y1 : Int32} {y3 : Int32} {y4 : Int64} {y8 : Int32} (hy1 : y1 = (x0 &&& (2147483647 : Int32))) (hy3 : y3 = (F_mx (1 : Int32) (x1 &&& (2147483647 : Int32)))) (hy4 : y4 = ((508 : Int64) * (y1.toInt64))) (hH : ¬ (y3 < (1024 : Int32)) ∨ y4 + (10 : Int64) * y3.toInt64 < ((20 : Int64) * y3.toInt64) * (2147483648 : Int64)) (hy8 : y8 = (F_mm y1 y3)) (hc9 : y8 < (0 : Int32)) : some (Value.int (nar .boolean (0 : Int32))) = some (Value.int 1) := by
  exfalso
  have h := own_all hy1 hy3 hy4 hH hy8
  rw [Int32.lt_iff_toInt_lt, show (0 : Int32).toInt = 0 by decide] at hc9
  omega
theorem own_ret_2 {x0 : Int32} {x1 : Int32} {y1 : Int32} {y3 : Int32} {y4 : Int64} {y8 : Int32} {y10 : Int64} (hy1 : y1 = (x0 &&& (2147483647 : Int32))) (hy3 : y3 = (F_mx (1 : Int32) (x1 &&& (2147483647 : Int32)))) (hy4 : y4 = ((508 : Int64) * (y1.toInt64))) (hH : ¬ (y3 < (1024 : Int32)) ∨ y4 + (10 : Int64) * y3.toInt64 < ((20 : Int64) * y3.toInt64) * (2147483648 : Int64)) (hy8 : y8 = (F_mm y1 y3)) (hc9 : ¬ (y8 < (0 : Int32))) (hy10 : y10 = ((y8.toInt64) * (y3.toInt64))) (hc11 : (60000000000 : Int64) < y10) : some (Value.int (nar .boolean (0 : Int32))) = some (Value.int 1) := by
  exfalso
  have h := own_all hy1 hy3 hy4 hH hy8
  rw [Int64.lt_iff_toInt_lt, show (60000000000 : Int64).toInt = 60000000000 by decide, hy10] at hc11
  omega
theorem own_ret_3 {x0 : Int32} {x1 : Int32} {y1 : Int32} {y3 : Int32} {y4 : Int64} {y8 : Int32} {y10 : Int64} {y12 : Int64} {y13 : Int64} {z15 : Int32} (hy1 : y1 = (x0 &&& (2147483647 : Int32))) (hy3 : y3 = (F_mx (1 : Int32) (x1 &&& (2147483647 : Int32)))) (hy4 : y4 = ((508 : Int64) * (y1.toInt64))) (hH : ¬ (y3 < (1024 : Int32)) ∨ y4 + (10 : Int64) * y3.toInt64 < ((20 : Int64) * y3.toInt64) * (2147483648 : Int64)) (hy8 : y8 = (F_mm y1 y3)) (hc9 : ¬ (y8 < (0 : Int32))) (hy10 : y10 = ((y8.toInt64) * (y3.toInt64))) (hc11 : ¬ ((60000000000 : Int64) < y10)) (hy12 : y12 = (((20 : Int64) * y10) - ((10 : Int64) * (y3.toInt64)))) (hy13 : y13 = (((20 : Int64) * y10) + ((10 : Int64) * (y3.toInt64)))) (hz15 : z15 = (if y4 < y12 then (0 : Int32) else (if y4 < y13 then (1 : Int32) else (0 : Int32)))) : some (Value.int (nar .boolean z15)) = some (Value.int 1) := by
  have h := own_all hy1 hy3 hy4 hH hy8
  obtain ⟨h1, h2, h3, h4, h5, h6, h7, h8⟩ := h
  rw [← hy10] at h5
  have a1 : ((20 : Int64) * y10).toInt = 20 * (y8.toInt * y3.toInt) := by
    refine own_mul _ _ _ (by rw [h5, show (20 : Int64).toInt = 20 by decide]) ?_ ?_ <;> omega
  have a2 := own_k (y := y3) 10 10 (by decide) (by omega) (by omega)
  have a3 : y12.toInt = 20 * (y8.toInt * y3.toInt) - 10 * y3.toInt := by
    rw [hy12]; refine own_sub _ _ _ (by rw [a1, a2]) ?_ ?_ <;> omega
  have a4 : y13.toInt = 20 * (y8.toInt * y3.toInt) + 10 * y3.toInt := by
    rw [hy13]; refine own_add _ _ _ (by rw [a1, a2]) ?_ ?_ <;> omega
  have b1 : ¬ y4 < y12 := by rw [Int64.lt_iff_toInt_lt, a3, h2]; omega
  have b2 : y4 < y13 := by rw [Int64.lt_iff_toInt_lt, a4, h2]; omega
  rw [if_neg b1, if_pos b2] at hz15
  subst hz15
  rfl
theorem ef_law (m : MethodId) (x0 : Int32) (x1 : Int32) : entryFrame m #[(.int x0), (.int x1)] maxLocals = mkF m 0 #[.val (.int x0), .val (.int x1), .unset, .unset, .unset, .unset, .unset, .unset, .unset, .unset, .unset, .unset, .unset] [] := by first | (simp [entryFrame, mkF, argsToLocals, Value.category, maxLocals]; done) | rfl
theorem pn_law : plainFor x = true := by first | exact plainFor_of_name (by first | (simp [plainName, overriddenIn]; done) | decide +kernel) | decide +kernel
set_option maxRecDepth 65536 in
set_option maxHeartbeats 40000000 in
theorem rm_law (l : Launch) (Z : State) (a0 : Array Value) (hw : ∀ d ∈ tables_1, d.before a0 Z = true) (x0 : Int32) (x1 : Int32) (n0 : Nat) (h0 : Heap)  :
    OMet l Z x code maxLocals ret tables_1 room_1 #[(.int x0), (.int x1)] h0 (fun v h L => v = some (.int 1) ∧ Fr n0 L) := by
  refine OMet.of pn_law ?_
  intro p e s m below meth c T0 X0 hx hby hml hown0 hnm hret hlk hZ e0
  have hown : s.vm.findClass "com/example/scanout/scanout/display/DisplayDeviceMillimetresPinLaw" = some m.cls := hown0
  refine OGo.go (fun t k => castTop (ef_law m x0 x1) k) ?_
  refine OGo.go (U' := T0.setTop (mkF m 1 #[.val (.int x0), .val (.int x1), .unset, .unset, .unset, .unset, .unset, .unset, .unset, .unset, .unset, .unset, .unset] [(.int x0)])) (fun _ k => XS.iloadN X0.here hx rfl (hb hby at_0) rfl k) ?_
  refine OGo.go (U' := T0.setTop (mkF m 3 #[.val (.int x0), .val (.int x1), .unset, .unset, .unset, .unset, .unset, .unset, .unset, .unset, .unset, .unset, .unset] [(.int (2147483647 : Int32)), (.int x0)])) (fun _ k => X0.ldcInt hx hown (mvT hZ (hw _ (List.mem_of_getElem? (i := 0) rfl))) (g := (mkF m 1 #[.val (.int x0), .val (.int x1), .unset, .unset, .unset, .unset, .unset, .unset, .unset, .unset, .unset, .unset, .unset] [(.int x0)])) rfl (hb hby at_1) _ k) ?_
  refine OGo.go (U' := T0.setTop (mkF m 4 #[.val (.int x0), .val (.int x1), .unset, .unset, .unset, .unset, .unset, .unset, .unset, .unset, .unset, .unset, .unset] [(.int (x0 &&& (2147483647 : Int32)))])) (fun _ k => XS.iand X0.here hx rfl (hb hby at_3) rfl k) ?_
  refine OGo.go (U' := T0.setTop (mkF m 5 #[.val (.int x0), .val (.int x1), .val (.int (x0 &&& (2147483647 : Int32))), .unset, .unset, .unset, .unset, .unset, .unset, .unset, .unset, .unset, .unset] [])) (fun _ k => XS.istoreN X0.here hx rfl (hb hby at_4) rfl (l' := #[.val (.int x0), .val (.int x1), .val (.int (x0 &&& (2147483647 : Int32))), .unset, .unset, .unset, .unset, .unset, .unset, .unset, .unset, .unset, .unset]) rfl k) ?_
  refine OGo.nm (fun (y1 : Int32) => T0.setTop (mkF m 5 #[.val (.int x0), .val (.int x1), .val (.int y1), .unset, .unset, .unset, .unset, .unset, .unset, .unset, .unset, .unset, .unset] [])) (x := (x0 &&& (2147483647 : Int32))) (fun y1 hy1 => ?_)
  refine OGo.go (U' := T0.setTop (mkF m 6 #[.val (.int x0), .val (.int x1), .val (.int y1), .unset, .unset, .unset, .unset, .unset, .unset, .unset, .unset, .unset, .unset] [(.int (1 : Int32))])) (fun _ k => XS.iconst X0.here hx rfl (hb hby at_5) k) ?_
  refine OGo.go (U' := T0.setTop (mkF m 7 #[.val (.int x0), .val (.int x1), .val (.int y1), .unset, .unset, .unset, .unset, .unset, .unset, .unset, .unset, .unset, .unset] [(.int x1), (.int (1 : Int32))])) (fun _ k => XS.iloadN X0.here hx rfl (hb hby at_6) rfl k) ?_
  refine OGo.go (U' := T0.setTop (mkF m 9 #[.val (.int x0), .val (.int x1), .val (.int y1), .unset, .unset, .unset, .unset, .unset, .unset, .unset, .unset, .unset, .unset] [(.int (2147483647 : Int32)), (.int x1), (.int (1 : Int32))])) (fun _ k => X0.ldcInt hx hown (mvT hZ (hw _ (List.mem_of_getElem? (i := 0) rfl))) (g := (mkF m 7 #[.val (.int x0), .val (.int x1), .val (.int y1), .unset, .unset, .unset, .unset, .unset, .unset, .unset, .unset, .unset, .unset] [(.int x1), (.int (1 : Int32))])) rfl (hb hby at_7) _ k) ?_
  refine OGo.go (U' := T0.setTop (mkF m 10 #[.val (.int x0), .val (.int x1), .val (.int y1), .unset, .unset, .unset, .unset, .unset, .unset, .unset, .unset, .unset, .unset] [(.int (x1 &&& (2147483647 : Int32))), (.int (1 : Int32))])) (fun _ k => XS.iand X0.here hx rfl (hb hby at_9) rfl k) ?_
  refine OGo.callS X0 hx hZ (y := (⟨"java/lang/Math", "max", "(II)I"⟩ : MethodName)) hown (hw _ (List.mem_of_getElem? (i := 1) rfl)) (hw _ (List.mem_of_getElem? (i := 2) rfl)) (hw _ (List.mem_of_getElem? (i := 3) rfl)) (hw _ (List.mem_of_getElem? (i := 4) rfl)) (by decide) (g := (mkF m 10 #[.val (.int x0), .val (.int x1), .val (.int y1), .unset, .unset, .unset, .unset, .unset, .unset, .unset, .unset, .unset, .unset] [(.int (x1 &&& (2147483647 : Int32))), (.int (1 : Int32))])) (argsL := [(.int (1 : Int32)), (.int (x1 &&& (2147483647 : Int32)))]) (rest := []) e0 (rm_mx l Z a0 hw (1 : Int32) (x1 &&& (2147483647 : Int32)) h0) rfl (by rw [hml]; rfl) (lenOf pd_0 rfl) rfl (W := 0) (by show 2 * 0 + _ ≤ _; exact Nat.le_of_eq rfl) (hb hby at_10) (by decide) (by decide) (by decide) (by decide) ?_
  rintro _ T2 _ X2 ⟨rfl, e2, rfl⟩
  rw [List.append_nil] at X2
  refine OGo.nm (fun (y3 : Int32) => T2.setTop (mkF m 13 #[.val (.int x0), .val (.int x1), .val (.int y1), .unset, .unset, .unset, .unset, .unset, .unset, .unset, .unset, .unset, .unset] [(.int y3)])) (x := (F_mx (1 : Int32) (x1 &&& (2147483647 : Int32)))) (fun y3 hy3 => ?_)
  refine OGo.go (U' := T2.setTop (mkF m 14 #[.val (.int x0), .val (.int x1), .val (.int y1), .val (.int y3), .unset, .unset, .unset, .unset, .unset, .unset, .unset, .unset, .unset] [])) (fun _ k => XS.istoreN X2.here hx rfl (hb hby at_13) rfl (l' := #[.val (.int x0), .val (.int x1), .val (.int y1), .val (.int y3), .unset, .unset, .unset, .unset, .unset, .unset, .unset, .unset, .unset]) rfl k) ?_
  refine OGo.go (U' := T2.setTop (mkF m 17 #[.val (.int x0), .val (.int x1), .val (.int y1), .val (.int y3), .unset, .unset, .unset, .unset, .unset, .unset, .unset, .unset, .unset] [(.long (508 : Int64))])) (fun _ k => X2.ldc2Long hx hown (mvT hZ (hw _ (List.mem_of_getElem? (i := 5) rfl))) (g := (mkF m 14 #[.val (.int x0), .val (.int x1), .val (.int y1), .val (.int y3), .unset, .unset, .unset, .unset, .unset, .unset, .unset, .unset, .unset] [])) rfl (hb hby at_14) _ k) ?_
  refine OGo.go (U' := T2.setTop (mkF m 18 #[.val (.int x0), .val (.int x1), .val (.int y1), .val (.int y3), .unset, .unset, .unset, .unset, .unset, .unset, .unset, .unset, .unset] [(.int y1), (.long (508 : Int64))])) (fun _ k => XS.iloadN X2.here hx rfl (hb hby at_17) rfl k) ?_
  refine OGo.go (U' := T2.setTop (mkF m 19 #[.val (.int x0), .val (.int x1), .val (.int y1), .val (.int y3), .unset, .unset, .unset, .unset, .unset, .unset, .unset, .unset, .unset] [(.long (y1.toInt64)), (.long (508 : Int64))])) (fun _ k => XS.i2l X2.here hx rfl (hb hby at_18) rfl k) ?_
  refine OGo.go (U' := T2.setTop (mkF m 20 #[.val (.int x0), .val (.int x1), .val (.int y1), .val (.int y3), .unset, .unset, .unset, .unset, .unset, .unset, .unset, .unset, .unset] [(.long ((508 : Int64) * (y1.toInt64)))])) (fun _ k => XS.lmul X2.here hx rfl (hb hby at_19) rfl k) ?_
  refine OGo.go (U' := T2.setTop (mkF m 22 #[.val (.int x0), .val (.int x1), .val (.int y1), .val (.int y3), .val (.long ((508 : Int64) * (y1.toInt64))), .second, .unset, .unset, .unset, .unset, .unset, .unset, .unset] [])) (fun _ k => XS.lstore X2.here hx rfl (hb hby at_20) rfl (l' := #[.val (.int x0), .val (.int x1), .val (.int y1), .val (.int y3), .val (.long ((508 : Int64) * (y1.toInt64))), .second, .unset, .unset, .unset, .unset, .unset, .unset, .unset]) rfl k) ?_
  refine OGo.nm (fun (y4 : Int64) => T2.setTop (mkF m 22 #[.val (.int x0), .val (.int x1), .val (.int y1), .val (.int y3), .val (.long y4), .second, .unset, .unset, .unset, .unset, .unset, .unset, .unset] [])) (x := ((508 : Int64) * (y1.toInt64))) (fun y4 hy4 => ?_)
  refine OGo.go (U' := T2.setTop (mkF m 23 #[.val (.int x0), .val (.int x1), .val (.int y1), .val (.int y3), .val (.long y4), .second, .unset, .unset, .unset, .unset, .unset, .unset, .unset] [(.int y3)])) (fun _ k => XS.iloadN X2.here hx rfl (hb hby at_22) rfl k) ?_
  refine OGo.go (U' := T2.setTop (mkF m 26 #[.val (.int x0), .val (.int x1), .val (.int y1), .val (.int y3), .val (.long y4), .second, .unset, .unset, .unset, .unset, .unset, .unset, .unset] [(.int (1024 : Int32)), (.int y3)])) (fun _ k => XS.sipush X2.here hx rfl (hb hby at_23) k) ?_
  refine OGo.cut (H := ¬ (y3 < (1024 : Int32)) ∨ y4 + (10 : Int64) * y3.toInt64 < ((20 : Int64) * y3.toInt64) * (2147483648 : Int64)) (T2.setTop (mkF m 54 #[.val (.int x0), .val (.int x1), .val (.int y1), .val (.int y3), .val (.long y4), .second, .unset, .unset, .unset, .unset, .unset, .unset, .unset] [])) (fun tail => ?_) (fun hH => ?_)
  · skip
    by_cases hc5 : y3 < (1024 : Int32)
    · skip
      refine OGo.go (U' := T2.setTop (mkF m 29 #[.val (.int x0), .val (.int x1), .val (.int y1), .val (.int y3), .val (.long y4), .second, .unset, .unset, .unset, .unset, .unset, .unset, .unset] [])) (fun _ k => XS.icmpNo X2.here hx rfl (hb hby at_26) rfl (tlt hc5).2.1 k) ?_
      refine OGo.go (U' := T2.setTop (mkF m 31 #[.val (.int x0), .val (.int x1), .val (.int y1), .val (.int y3), .val (.long y4), .second, .unset, .unset, .unset, .unset, .unset, .unset, .unset] [(.long y4)])) (fun _ k => XS.lload X2.here hx rfl (hb hby at_29) rfl k) ?_
      refine OGo.go (U' := T2.setTop (mkF m 34 #[.val (.int x0), .val (.int x1), .val (.int y1), .val (.int y3), .val (.long y4), .second, .unset, .unset, .unset, .unset, .unset, .unset, .unset] [(.long (10 : Int64)), (.long y4)])) (fun _ k => X2.ldc2Long hx hown (mvT hZ (hw _ (List.mem_of_getElem? (i := 6) rfl))) (g := (mkF m 31 #[.val (.int x0), .val (.int x1), .val (.int y1), .val (.int y3), .val (.long y4), .second, .unset, .unset, .unset, .unset, .unset, .unset, .unset] [(.long y4)])) rfl (hb hby at_31) _ k) ?_
      refine OGo.go (U' := T2.setTop (mkF m 35 #[.val (.int x0), .val (.int x1), .val (.int y1), .val (.int y3), .val (.long y4), .second, .unset, .unset, .unset, .unset, .unset, .unset, .unset] [(.int y3), (.long (10 : Int64)), (.long y4)])) (fun _ k => XS.iloadN X2.here hx rfl (hb hby at_34) rfl k) ?_
      refine OGo.go (U' := T2.setTop (mkF m 36 #[.val (.int x0), .val (.int x1), .val (.int y1), .val (.int y3), .val (.long y4), .second, .unset, .unset, .unset, .unset, .unset, .unset, .unset] [(.long (y3.toInt64)), (.long (10 : Int64)), (.long y4)])) (fun _ k => XS.i2l X2.here hx rfl (hb hby at_35) rfl k) ?_
      refine OGo.go (U' := T2.setTop (mkF m 37 #[.val (.int x0), .val (.int x1), .val (.int y1), .val (.int y3), .val (.long y4), .second, .unset, .unset, .unset, .unset, .unset, .unset, .unset] [(.long ((10 : Int64) * (y3.toInt64))), (.long y4)])) (fun _ k => XS.lmul X2.here hx rfl (hb hby at_36) rfl k) ?_
      refine OGo.go (U' := T2.setTop (mkF m 38 #[.val (.int x0), .val (.int x1), .val (.int y1), .val (.int y3), .val (.long y4), .second, .unset, .unset, .unset, .unset, .unset, .unset, .unset] [(.long (y4 + ((10 : Int64) * (y3.toInt64))))])) (fun _ k => XS.ladd X2.here hx rfl (hb hby at_37) rfl k) ?_
      refine OGo.go (U' := T2.setTop (mkF m 41 #[.val (.int x0), .val (.int x1), .val (.int y1), .val (.int y3), .val (.long y4), .second, .unset, .unset, .unset, .unset, .unset, .unset, .unset] [(.long (20 : Int64)), (.long (y4 + ((10 : Int64) * (y3.toInt64))))])) (fun _ k => X2.ldc2Long hx hown (mvT hZ (hw _ (List.mem_of_getElem? (i := 7) rfl))) (g := (mkF m 38 #[.val (.int x0), .val (.int x1), .val (.int y1), .val (.int y3), .val (.long y4), .second, .unset, .unset, .unset, .unset, .unset, .unset, .unset] [(.long (y4 + ((10 : Int64) * (y3.toInt64))))])) rfl (hb hby at_38) _ k) ?_
      refine OGo.go (U' := T2.setTop (mkF m 42 #[.val (.int x0), .val (.int x1), .val (.int y1), .val (.int y3), .val (.long y4), .second, .unset, .unset, .unset, .unset, .unset, .unset, .unset] [(.int y3), (.long (20 : Int64)), (.long (y4 + ((10 : Int64) * (y3.toInt64))))])) (fun _ k => XS.iloadN X2.here hx rfl (hb hby at_41) rfl k) ?_
      refine OGo.go (U' := T2.setTop (mkF m 43 #[.val (.int x0), .val (.int x1), .val (.int y1), .val (.int y3), .val (.long y4), .second, .unset, .unset, .unset, .unset, .unset, .unset, .unset] [(.long (y3.toInt64)), (.long (20 : Int64)), (.long (y4 + ((10 : Int64) * (y3.toInt64))))])) (fun _ k => XS.i2l X2.here hx rfl (hb hby at_42) rfl k) ?_
      refine OGo.go (U' := T2.setTop (mkF m 44 #[.val (.int x0), .val (.int x1), .val (.int y1), .val (.int y3), .val (.long y4), .second, .unset, .unset, .unset, .unset, .unset, .unset, .unset] [(.long ((20 : Int64) * (y3.toInt64))), (.long (y4 + ((10 : Int64) * (y3.toInt64))))])) (fun _ k => XS.lmul X2.here hx rfl (hb hby at_43) rfl k) ?_
      refine OGo.go (U' := T2.setTop (mkF m 47 #[.val (.int x0), .val (.int x1), .val (.int y1), .val (.int y3), .val (.long y4), .second, .unset, .unset, .unset, .unset, .unset, .unset, .unset] [(.long (2147483648 : Int64)), (.long ((20 : Int64) * (y3.toInt64))), (.long (y4 + ((10 : Int64) * (y3.toInt64))))])) (fun _ k => X2.ldc2Long hx hown (mvT hZ (hw _ (List.mem_of_getElem? (i := 8) rfl))) (g := (mkF m 44 #[.val (.int x0), .val (.int x1), .val (.int y1), .val (.int y3), .val (.long y4), .second, .unset, .unset, .unset, .unset, .unset, .unset, .unset] [(.long ((20 : Int64) * (y3.toInt64))), (.long (y4 + ((10 : Int64) * (y3.toInt64))))])) rfl (hb hby at_44) _ k) ?_
      refine OGo.go (U' := T2.setTop (mkF m 48 #[.val (.int x0), .val (.int x1), .val (.int y1), .val (.int y3), .val (.long y4), .second, .unset, .unset, .unset, .unset, .unset, .unset, .unset] [(.long (((20 : Int64) * (y3.toInt64)) * (2147483648 : Int64))), (.long (y4 + ((10 : Int64) * (y3.toInt64))))])) (fun _ k => XS.lmul X2.here hx rfl (hb hby at_47) rfl k) ?_
      refine OGo.go (U' := T2.setTop (mkF m 49 #[.val (.int x0), .val (.int x1), .val (.int y1), .val (.int y3), .val (.long y4), .second, .unset, .unset, .unset, .unset, .unset, .unset, .unset] [(.int (lcmpW (y4 + ((10 : Int64) * (y3.toInt64))) (((20 : Int64) * (y3.toInt64)) * (2147483648 : Int64))))])) (fun _ k => XS.lcmp X2.here hx rfl (hb hby at_48) rfl k) ?_
      by_cases hc6 : (y4 + ((10 : Int64) * (y3.toInt64))) < (((20 : Int64) * (y3.toInt64)) * (2147483648 : Int64))
      · skip
        refine OGo.go (U' := T2.setTop (mkF m 54 #[.val (.int x0), .val (.int x1), .val (.int y1), .val (.int y3), .val (.long y4), .second, .unset, .unset, .unset, .unset, .unset, .unset, .unset] [])) (fun _ k => XS.ifYes X2.here hx rfl (pc0 := 49) (pc' := 54) rfl (hb hby at_49) rfl ((if0 _ _).trans (tlt ((lw_lt (y4 + ((10 : Int64) * (y3.toInt64))) (((20 : Int64) * (y3.toInt64)) * (2147483648 : Int64))).mpr hc6)).1) (by decide) (by decide) k) ?_
        exact tail (by first | exact Or.inl ‹_› | exact Or.inr ‹_›)
      · skip
        refine OGo.go (U' := T2.setTop (mkF m 52 #[.val (.int x0), .val (.int x1), .val (.int y1), .val (.int y3), .val (.long y4), .second, .unset, .unset, .unset, .unset, .unset, .unset, .unset] [])) (fun _ k => XS.ifNo X2.here hx rfl (hb hby at_49) rfl ((if0 _ _).trans (flt (fun q => hc6 ((lw_lt (y4 + ((10 : Int64) * (y3.toInt64))) (((20 : Int64) * (y3.toInt64)) * (2147483648 : Int64))).mp q))).1) k) ?_
        refine OGo.go (U' := T2.setTop (mkF m 53 #[.val (.int x0), .val (.int x1), .val (.int y1), .val (.int y3), .val (.long y4), .second, .unset, .unset, .unset, .unset, .unset, .unset, .unset] [(.int (1 : Int32))])) (fun _ k => XS.iconst X2.here hx rfl (hb hby at_52) k) ?_
        refine OGo.retN X2 hx (t := .boolean) hret hlk (by simp) (hb hby at_53) ?_ (by decide) (by decide)
        exact ⟨own_ret_0 hy1 hy3 hy4 hc5 hc6, Fr.nil _⟩
    · skip
      refine OGo.go (U' := T2.setTop (mkF m 54 #[.val (.int x0), .val (.int x1), .val (.int y1), .val (.int y3), .val (.long y4), .second, .unset, .unset, .unset, .unset, .unset, .unset, .unset] [])) (fun _ k => XS.icmpYes X2.here hx rfl (pc0 := 26) (pc' := 54) rfl (hb hby at_26) rfl (flt hc5).2.1 (by decide) (by decide) k) ?_
      exact tail (by first | exact Or.inl ‹_› | exact Or.inr ‹_›)
  · skip
    refine OGo.go (U' := T2.setTop (mkF m 55 #[.val (.int x0), .val (.int x1), .val (.int y1), .val (.int y3), .val (.long y4), .second, .unset, .unset, .unset, .unset, .unset, .unset, .unset] [(.int y1)])) (fun _ k => XS.iloadN X2.here hx rfl (hb hby at_54) rfl k) ?_
    refine OGo.go (U' := T2.setTop (mkF m 56 #[.val (.int x0), .val (.int x1), .val (.int y1), .val (.int y3), .val (.long y4), .second, .unset, .unset, .unset, .unset, .unset, .unset, .unset] [(.int y3), (.int y1)])) (fun _ k => XS.iloadN X2.here hx rfl (hb hby at_55) rfl k) ?_
    refine OGo.callS X2 hx hZ (y := (⟨"com/example/scanout/scanout/display/DisplayDevice", "millimetres", "(II)I"⟩ : MethodName)) hown (hw _ (List.mem_of_getElem? (i := 9) rfl)) (hw _ (List.mem_of_getElem? (i := 10) rfl)) (hw _ (List.mem_of_getElem? (i := 11) rfl)) (hw _ (List.mem_of_getElem? (i := 12) rfl)) (by decide) (g := (mkF m 56 #[.val (.int x0), .val (.int x1), .val (.int y1), .val (.int y3), .val (.long y4), .second, .unset, .unset, .unset, .unset, .unset, .unset, .unset] [(.int y3), (.int y1)])) (argsL := [(.int y1), (.int y3)]) (rest := []) e2 (rm_mm l Z a0 hw y1 y3 h0 (own_nz hy3)) rfl (by rw [hml]; rfl) (lenOf pd_0 rfl) rfl (W := 0) (by show 2 * 0 + _ ≤ _; exact Nat.le_of_eq rfl) (hb hby at_56) (by decide) (by decide) (by decide) (by decide) ?_
    rintro _ T7 _ X7 ⟨rfl, e7, rfl⟩
    rw [List.append_nil] at X7
    refine OGo.nm (fun (y8 : Int32) => T7.setTop (mkF m 59 #[.val (.int x0), .val (.int x1), .val (.int y1), .val (.int y3), .val (.long y4), .second, .unset, .unset, .unset, .unset, .unset, .unset, .unset] [(.int y8)])) (x := (F_mm y1 y3)) (fun y8 hy8 => ?_)
    refine OGo.go (U' := T7.setTop (mkF m 61 #[.val (.int x0), .val (.int x1), .val (.int y1), .val (.int y3), .val (.long y4), .second, .val (.int y8), .unset, .unset, .unset, .unset, .unset, .unset] [])) (fun _ k => XS.istore X7.here hx rfl (hb hby at_59) rfl (l' := #[.val (.int x0), .val (.int x1), .val (.int y1), .val (.int y3), .val (.long y4), .second, .val (.int y8), .unset, .unset, .unset, .unset, .unset, .unset]) rfl k) ?_
    refine OGo.go (U' := T7.setTop (mkF m 63 #[.val (.int x0), .val (.int x1), .val (.int y1), .val (.int y3), .val (.long y4), .second, .val (.int y8), .unset, .unset, .unset, .unset, .unset, .unset] [(.int y8)])) (fun _ k => XS.iload X7.here hx rfl (hb hby at_61) rfl k) ?_
    by_cases hc9 : y8 < (0 : Int32)
    · skip
      refine OGo.go (U' := T7.setTop (mkF m 66 #[.val (.int x0), .val (.int x1), .val (.int y1), .val (.int y3), .val (.long y4), .second, .val (.int y8), .unset, .unset, .unset, .unset, .unset, .unset] [])) (fun _ k => XS.ifNo X7.here hx rfl (hb hby at_63) rfl ((if0 _ _).trans (tlt hc9).2.1) k) ?_
      refine OGo.go (U' := T7.setTop (mkF m 67 #[.val (.int x0), .val (.int x1), .val (.int y1), .val (.int y3), .val (.long y4), .second, .val (.int y8), .unset, .unset, .unset, .unset, .unset, .unset] [(.int (0 : Int32))])) (fun _ k => XS.iconst X7.here hx rfl (hb hby at_66) k) ?_
      refine OGo.retN X7 hx (t := .boolean) hret hlk (by simp) (hb hby at_67) ?_ (by decide) (by decide)
      exact ⟨own_ret_1 hy1 hy3 hy4 hH hy8 hc9, Fr.nil _⟩
    · skip
      refine OGo.go (U' := T7.setTop (mkF m 68 #[.val (.int x0), .val (.int x1), .val (.int y1), .val (.int y3), .val (.long y4), .second, .val (.int y8), .unset, .unset, .unset, .unset, .unset, .unset] [])) (fun _ k => XS.ifYes X7.here hx rfl (pc0 := 63) (pc' := 68) rfl (hb hby at_63) rfl ((if0 _ _).trans (flt hc9).2.1) (by decide) (by decide) k) ?_
      refine OGo.go (U' := T7.setTop (mkF m 70 #[.val (.int x0), .val (.int x1), .val (.int y1), .val (.int y3), .val (.long y4), .second, .val (.int y8), .unset, .unset, .unset, .unset, .unset, .unset] [(.int y8)])) (fun _ k => XS.iload X7.here hx rfl (hb hby at_68) rfl k) ?_
      refine OGo.go (U' := T7.setTop (mkF m 71 #[.val (.int x0), .val (.int x1), .val (.int y1), .val (.int y3), .val (.long y4), .second, .val (.int y8), .unset, .unset, .unset, .unset, .unset, .unset] [(.long (y8.toInt64))])) (fun _ k => XS.i2l X7.here hx rfl (hb hby at_70) rfl k) ?_
      refine OGo.go (U' := T7.setTop (mkF m 72 #[.val (.int x0), .val (.int x1), .val (.int y1), .val (.int y3), .val (.long y4), .second, .val (.int y8), .unset, .unset, .unset, .unset, .unset, .unset] [(.int y3), (.long (y8.toInt64))])) (fun _ k => XS.iloadN X7.here hx rfl (hb hby at_71) rfl k) ?_
      refine OGo.go (U' := T7.setTop (mkF m 73 #[.val (.int x0), .val (.int x1), .val (.int y1), .val (.int y3), .val (.long y4), .second, .val (.int y8), .unset, .unset, .unset, .unset, .unset, .unset] [(.long (y3.toInt64)), (.long (y8.toInt64))])) (fun _ k => XS.i2l X7.here hx rfl (hb hby at_72) rfl k) ?_
      refine OGo.go (U' := T7.setTop (mkF m 74 #[.val (.int x0), .val (.int x1), .val (.int y1), .val (.int y3), .val (.long y4), .second, .val (.int y8), .unset, .unset, .unset, .unset, .unset, .unset] [(.long ((y8.toInt64) * (y3.toInt64)))])) (fun _ k => XS.lmul X7.here hx rfl (hb hby at_73) rfl k) ?_
      refine OGo.go (U' := T7.setTop (mkF m 76 #[.val (.int x0), .val (.int x1), .val (.int y1), .val (.int y3), .val (.long y4), .second, .val (.int y8), .val (.long ((y8.toInt64) * (y3.toInt64))), .second, .unset, .unset, .unset, .unset] [])) (fun _ k => XS.lstore X7.here hx rfl (hb hby at_74) rfl (l' := #[.val (.int x0), .val (.int x1), .val (.int y1), .val (.int y3), .val (.long y4), .second, .val (.int y8), .val (.long ((y8.toInt64) * (y3.toInt64))), .second, .unset, .unset, .unset, .unset]) rfl k) ?_
      refine OGo.nm (fun (y10 : Int64) => T7.setTop (mkF m 76 #[.val (.int x0), .val (.int x1), .val (.int y1), .val (.int y3), .val (.long y4), .second, .val (.int y8), .val (.long y10), .second, .unset, .unset, .unset, .unset] [])) (x := ((y8.toInt64) * (y3.toInt64))) (fun y10 hy10 => ?_)
      refine OGo.go (U' := T7.setTop (mkF m 78 #[.val (.int x0), .val (.int x1), .val (.int y1), .val (.int y3), .val (.long y4), .second, .val (.int y8), .val (.long y10), .second, .unset, .unset, .unset, .unset] [(.long y10)])) (fun _ k => XS.lload X7.here hx rfl (hb hby at_76) rfl k) ?_
      refine OGo.go (U' := T7.setTop (mkF m 81 #[.val (.int x0), .val (.int x1), .val (.int y1), .val (.int y3), .val (.long y4), .second, .val (.int y8), .val (.long y10), .second, .unset, .unset, .unset, .unset] [(.long (60000000000 : Int64)), (.long y10)])) (fun _ k => X7.ldc2Long hx hown (mvT hZ (hw _ (List.mem_of_getElem? (i := 17) rfl))) (g := (mkF m 78 #[.val (.int x0), .val (.int x1), .val (.int y1), .val (.int y3), .val (.long y4), .second, .val (.int y8), .val (.long y10), .second, .unset, .unset, .unset, .unset] [(.long y10)])) rfl (hb hby at_78) _ k) ?_
      refine OGo.go (U' := T7.setTop (mkF m 82 #[.val (.int x0), .val (.int x1), .val (.int y1), .val (.int y3), .val (.long y4), .second, .val (.int y8), .val (.long y10), .second, .unset, .unset, .unset, .unset] [(.int (lcmpW y10 (60000000000 : Int64)))])) (fun _ k => XS.lcmp X7.here hx rfl (hb hby at_81) rfl k) ?_
      by_cases hc11 : (60000000000 : Int64) < y10
      · skip
        refine OGo.go (U' := T7.setTop (mkF m 85 #[.val (.int x0), .val (.int x1), .val (.int y1), .val (.int y3), .val (.long y4), .second, .val (.int y8), .val (.long y10), .second, .unset, .unset, .unset, .unset] [])) (fun _ k => XS.ifNo X7.here hx rfl (hb hby at_82) rfl ((if0 _ _).trans (tlt ((lw_gt y10 (60000000000 : Int64)).mpr hc11)).2.2.2) k) ?_
        refine OGo.go (U' := T7.setTop (mkF m 86 #[.val (.int x0), .val (.int x1), .val (.int y1), .val (.int y3), .val (.long y4), .second, .val (.int y8), .val (.long y10), .second, .unset, .unset, .unset, .unset] [(.int (0 : Int32))])) (fun _ k => XS.iconst X7.here hx rfl (hb hby at_85) k) ?_
        refine OGo.retN X7 hx (t := .boolean) hret hlk (by simp) (hb hby at_86) ?_ (by decide) (by decide)
        exact ⟨own_ret_2 hy1 hy3 hy4 hH hy8 hc9 hy10 hc11, Fr.nil _⟩
      · skip
        refine OGo.go (U' := T7.setTop (mkF m 87 #[.val (.int x0), .val (.int x1), .val (.int y1), .val (.int y3), .val (.long y4), .second, .val (.int y8), .val (.long y10), .second, .unset, .unset, .unset, .unset] [])) (fun _ k => XS.ifYes X7.here hx rfl (pc0 := 82) (pc' := 87) rfl (hb hby at_82) rfl ((if0 _ _).trans (flt (fun q => hc11 ((lw_gt y10 (60000000000 : Int64)).mp q))).2.2.2) (by decide) (by decide) k) ?_
        refine OGo.go (U' := T7.setTop (mkF m 90 #[.val (.int x0), .val (.int x1), .val (.int y1), .val (.int y3), .val (.long y4), .second, .val (.int y8), .val (.long y10), .second, .unset, .unset, .unset, .unset] [(.long (20 : Int64))])) (fun _ k => X7.ldc2Long hx hown (mvT hZ (hw _ (List.mem_of_getElem? (i := 7) rfl))) (g := (mkF m 87 #[.val (.int x0), .val (.int x1), .val (.int y1), .val (.int y3), .val (.long y4), .second, .val (.int y8), .val (.long y10), .second, .unset, .unset, .unset, .unset] [])) rfl (hb hby at_87) _ k) ?_
        refine OGo.go (U' := T7.setTop (mkF m 92 #[.val (.int x0), .val (.int x1), .val (.int y1), .val (.int y3), .val (.long y4), .second, .val (.int y8), .val (.long y10), .second, .unset, .unset, .unset, .unset] [(.long y10), (.long (20 : Int64))])) (fun _ k => XS.lload X7.here hx rfl (hb hby at_90) rfl k) ?_
        refine OGo.go (U' := T7.setTop (mkF m 93 #[.val (.int x0), .val (.int x1), .val (.int y1), .val (.int y3), .val (.long y4), .second, .val (.int y8), .val (.long y10), .second, .unset, .unset, .unset, .unset] [(.long ((20 : Int64) * y10))])) (fun _ k => XS.lmul X7.here hx rfl (hb hby at_92) rfl k) ?_
        refine OGo.go (U' := T7.setTop (mkF m 96 #[.val (.int x0), .val (.int x1), .val (.int y1), .val (.int y3), .val (.long y4), .second, .val (.int y8), .val (.long y10), .second, .unset, .unset, .unset, .unset] [(.long (10 : Int64)), (.long ((20 : Int64) * y10))])) (fun _ k => X7.ldc2Long hx hown (mvT hZ (hw _ (List.mem_of_getElem? (i := 6) rfl))) (g := (mkF m 93 #[.val (.int x0), .val (.int x1), .val (.int y1), .val (.int y3), .val (.long y4), .second, .val (.int y8), .val (.long y10), .second, .unset, .unset, .unset, .unset] [(.long ((20 : Int64) * y10))])) rfl (hb hby at_93) _ k) ?_
        refine OGo.go (U' := T7.setTop (mkF m 97 #[.val (.int x0), .val (.int x1), .val (.int y1), .val (.int y3), .val (.long y4), .second, .val (.int y8), .val (.long y10), .second, .unset, .unset, .unset, .unset] [(.int y3), (.long (10 : Int64)), (.long ((20 : Int64) * y10))])) (fun _ k => XS.iloadN X7.here hx rfl (hb hby at_96) rfl k) ?_
        refine OGo.go (U' := T7.setTop (mkF m 98 #[.val (.int x0), .val (.int x1), .val (.int y1), .val (.int y3), .val (.long y4), .second, .val (.int y8), .val (.long y10), .second, .unset, .unset, .unset, .unset] [(.long (y3.toInt64)), (.long (10 : Int64)), (.long ((20 : Int64) * y10))])) (fun _ k => XS.i2l X7.here hx rfl (hb hby at_97) rfl k) ?_
        refine OGo.go (U' := T7.setTop (mkF m 99 #[.val (.int x0), .val (.int x1), .val (.int y1), .val (.int y3), .val (.long y4), .second, .val (.int y8), .val (.long y10), .second, .unset, .unset, .unset, .unset] [(.long ((10 : Int64) * (y3.toInt64))), (.long ((20 : Int64) * y10))])) (fun _ k => XS.lmul X7.here hx rfl (hb hby at_98) rfl k) ?_
        refine OGo.go (U' := T7.setTop (mkF m 100 #[.val (.int x0), .val (.int x1), .val (.int y1), .val (.int y3), .val (.long y4), .second, .val (.int y8), .val (.long y10), .second, .unset, .unset, .unset, .unset] [(.long (((20 : Int64) * y10) - ((10 : Int64) * (y3.toInt64))))])) (fun _ k => XS.lsub X7.here hx rfl (hb hby at_99) rfl k) ?_
        refine OGo.go (U' := T7.setTop (mkF m 102 #[.val (.int x0), .val (.int x1), .val (.int y1), .val (.int y3), .val (.long y4), .second, .val (.int y8), .val (.long y10), .second, .val (.long (((20 : Int64) * y10) - ((10 : Int64) * (y3.toInt64)))), .second, .unset, .unset] [])) (fun _ k => XS.lstore X7.here hx rfl (hb hby at_100) rfl (l' := #[.val (.int x0), .val (.int x1), .val (.int y1), .val (.int y3), .val (.long y4), .second, .val (.int y8), .val (.long y10), .second, .val (.long (((20 : Int64) * y10) - ((10 : Int64) * (y3.toInt64)))), .second, .unset, .unset]) rfl k) ?_
        refine OGo.nm (fun (y12 : Int64) => T7.setTop (mkF m 102 #[.val (.int x0), .val (.int x1), .val (.int y1), .val (.int y3), .val (.long y4), .second, .val (.int y8), .val (.long y10), .second, .val (.long y12), .second, .unset, .unset] [])) (x := (((20 : Int64) * y10) - ((10 : Int64) * (y3.toInt64)))) (fun y12 hy12 => ?_)
        refine OGo.go (U' := T7.setTop (mkF m 105 #[.val (.int x0), .val (.int x1), .val (.int y1), .val (.int y3), .val (.long y4), .second, .val (.int y8), .val (.long y10), .second, .val (.long y12), .second, .unset, .unset] [(.long (20 : Int64))])) (fun _ k => X7.ldc2Long hx hown (mvT hZ (hw _ (List.mem_of_getElem? (i := 7) rfl))) (g := (mkF m 102 #[.val (.int x0), .val (.int x1), .val (.int y1), .val (.int y3), .val (.long y4), .second, .val (.int y8), .val (.long y10), .second, .val (.long y12), .second, .unset, .unset] [])) rfl (hb hby at_102) _ k) ?_
        refine OGo.go (U' := T7.setTop (mkF m 107 #[.val (.int x0), .val (.int x1), .val (.int y1), .val (.int y3), .val (.long y4), .second, .val (.int y8), .val (.long y10), .second, .val (.long y12), .second, .unset, .unset] [(.long y10), (.long (20 : Int64))])) (fun _ k => XS.lload X7.here hx rfl (hb hby at_105) rfl k) ?_
        refine OGo.go (U' := T7.setTop (mkF m 108 #[.val (.int x0), .val (.int x1), .val (.int y1), .val (.int y3), .val (.long y4), .second, .val (.int y8), .val (.long y10), .second, .val (.long y12), .second, .unset, .unset] [(.long ((20 : Int64) * y10))])) (fun _ k => XS.lmul X7.here hx rfl (hb hby at_107) rfl k) ?_
        refine OGo.go (U' := T7.setTop (mkF m 111 #[.val (.int x0), .val (.int x1), .val (.int y1), .val (.int y3), .val (.long y4), .second, .val (.int y8), .val (.long y10), .second, .val (.long y12), .second, .unset, .unset] [(.long (10 : Int64)), (.long ((20 : Int64) * y10))])) (fun _ k => X7.ldc2Long hx hown (mvT hZ (hw _ (List.mem_of_getElem? (i := 6) rfl))) (g := (mkF m 108 #[.val (.int x0), .val (.int x1), .val (.int y1), .val (.int y3), .val (.long y4), .second, .val (.int y8), .val (.long y10), .second, .val (.long y12), .second, .unset, .unset] [(.long ((20 : Int64) * y10))])) rfl (hb hby at_108) _ k) ?_
        refine OGo.go (U' := T7.setTop (mkF m 112 #[.val (.int x0), .val (.int x1), .val (.int y1), .val (.int y3), .val (.long y4), .second, .val (.int y8), .val (.long y10), .second, .val (.long y12), .second, .unset, .unset] [(.int y3), (.long (10 : Int64)), (.long ((20 : Int64) * y10))])) (fun _ k => XS.iloadN X7.here hx rfl (hb hby at_111) rfl k) ?_
        refine OGo.go (U' := T7.setTop (mkF m 113 #[.val (.int x0), .val (.int x1), .val (.int y1), .val (.int y3), .val (.long y4), .second, .val (.int y8), .val (.long y10), .second, .val (.long y12), .second, .unset, .unset] [(.long (y3.toInt64)), (.long (10 : Int64)), (.long ((20 : Int64) * y10))])) (fun _ k => XS.i2l X7.here hx rfl (hb hby at_112) rfl k) ?_
        refine OGo.go (U' := T7.setTop (mkF m 114 #[.val (.int x0), .val (.int x1), .val (.int y1), .val (.int y3), .val (.long y4), .second, .val (.int y8), .val (.long y10), .second, .val (.long y12), .second, .unset, .unset] [(.long ((10 : Int64) * (y3.toInt64))), (.long ((20 : Int64) * y10))])) (fun _ k => XS.lmul X7.here hx rfl (hb hby at_113) rfl k) ?_
        refine OGo.go (U' := T7.setTop (mkF m 115 #[.val (.int x0), .val (.int x1), .val (.int y1), .val (.int y3), .val (.long y4), .second, .val (.int y8), .val (.long y10), .second, .val (.long y12), .second, .unset, .unset] [(.long (((20 : Int64) * y10) + ((10 : Int64) * (y3.toInt64))))])) (fun _ k => XS.ladd X7.here hx rfl (hb hby at_114) rfl k) ?_
        refine OGo.go (U' := T7.setTop (mkF m 117 #[.val (.int x0), .val (.int x1), .val (.int y1), .val (.int y3), .val (.long y4), .second, .val (.int y8), .val (.long y10), .second, .val (.long y12), .second, .val (.long (((20 : Int64) * y10) + ((10 : Int64) * (y3.toInt64)))), .second] [])) (fun _ k => XS.lstore X7.here hx rfl (hb hby at_115) rfl (l' := #[.val (.int x0), .val (.int x1), .val (.int y1), .val (.int y3), .val (.long y4), .second, .val (.int y8), .val (.long y10), .second, .val (.long y12), .second, .val (.long (((20 : Int64) * y10) + ((10 : Int64) * (y3.toInt64)))), .second]) rfl k) ?_
        refine OGo.nm (fun (y13 : Int64) => T7.setTop (mkF m 117 #[.val (.int x0), .val (.int x1), .val (.int y1), .val (.int y3), .val (.long y4), .second, .val (.int y8), .val (.long y10), .second, .val (.long y12), .second, .val (.long y13), .second] [])) (x := (((20 : Int64) * y10) + ((10 : Int64) * (y3.toInt64)))) (fun y13 hy13 => ?_)
        refine OGo.go (U' := T7.setTop (mkF m 119 #[.val (.int x0), .val (.int x1), .val (.int y1), .val (.int y3), .val (.long y4), .second, .val (.int y8), .val (.long y10), .second, .val (.long y12), .second, .val (.long y13), .second] [(.long y12)])) (fun _ k => XS.lload X7.here hx rfl (hb hby at_117) rfl k) ?_
        refine OGo.go (U' := T7.setTop (mkF m 121 #[.val (.int x0), .val (.int x1), .val (.int y1), .val (.int y3), .val (.long y4), .second, .val (.int y8), .val (.long y10), .second, .val (.long y12), .second, .val (.long y13), .second] [(.long y4), (.long y12)])) (fun _ k => XS.lload X7.here hx rfl (hb hby at_119) rfl k) ?_
        refine OGo.go (U' := T7.setTop (mkF m 122 #[.val (.int x0), .val (.int x1), .val (.int y1), .val (.int y3), .val (.long y4), .second, .val (.int y8), .val (.long y10), .second, .val (.long y12), .second, .val (.long y13), .second] [(.int (lcmpW y12 y4))])) (fun _ k => XS.lcmp X7.here hx rfl (hb hby at_121) rfl k) ?_
        refine OGo.ite1 (P := y4 < y12) (fun (z15 : Int32) => T7.setTop (mkF m 138 #[.val (.int x0), .val (.int x1), .val (.int y1), .val (.int y3), .val (.long y4), .second, .val (.int y8), .val (.long y10), .second, .val (.long y12), .second, .val (.long y13), .second] [(.int z15)])) (x := (0 : Int32)) (y := (if y4 < y13 then (1 : Int32) else (0 : Int32))) (fun hc14 k16 => ?_) (fun hc14 k16 => ?_) ?_
        · skip
          refine OGo.go (U' := T7.setTop (mkF m 137 #[.val (.int x0), .val (.int x1), .val (.int y1), .val (.int y3), .val (.long y4), .second, .val (.int y8), .val (.long y10), .second, .val (.long y12), .second, .val (.long y13), .second] [])) (fun _ k => XS.ifYes X7.here hx rfl (pc0 := 122) (pc' := 137) rfl (hb hby at_122) rfl ((if0 _ _).trans (tlt ((lw_gt y12 y4).mpr hc14)).2.2.1) (by decide) (by decide) k) ?_
          refine OGo.go (U' := T7.setTop (mkF m 138 #[.val (.int x0), .val (.int x1), .val (.int y1), .val (.int y3), .val (.long y4), .second, .val (.int y8), .val (.long y10), .second, .val (.long y12), .second, .val (.long y13), .second] [(.int (0 : Int32))])) (fun _ k => XS.iconst X7.here hx rfl (hb hby at_137) k) ?_
          exact k16
        · skip
          refine OGo.go (U' := T7.setTop (mkF m 125 #[.val (.int x0), .val (.int x1), .val (.int y1), .val (.int y3), .val (.long y4), .second, .val (.int y8), .val (.long y10), .second, .val (.long y12), .second, .val (.long y13), .second] [])) (fun _ k => XS.ifNo X7.here hx rfl (hb hby at_122) rfl ((if0 _ _).trans (flt (fun q => hc14 ((lw_gt y12 y4).mp q))).2.2.1) k) ?_
          refine OGo.go (U' := T7.setTop (mkF m 127 #[.val (.int x0), .val (.int x1), .val (.int y1), .val (.int y3), .val (.long y4), .second, .val (.int y8), .val (.long y10), .second, .val (.long y12), .second, .val (.long y13), .second] [(.long y4)])) (fun _ k => XS.lload X7.here hx rfl (hb hby at_125) rfl k) ?_
          refine OGo.go (U' := T7.setTop (mkF m 129 #[.val (.int x0), .val (.int x1), .val (.int y1), .val (.int y3), .val (.long y4), .second, .val (.int y8), .val (.long y10), .second, .val (.long y12), .second, .val (.long y13), .second] [(.long y13), (.long y4)])) (fun _ k => XS.lload X7.here hx rfl (hb hby at_127) rfl k) ?_
          refine OGo.go (U' := T7.setTop (mkF m 130 #[.val (.int x0), .val (.int x1), .val (.int y1), .val (.int y3), .val (.long y4), .second, .val (.int y8), .val (.long y10), .second, .val (.long y12), .second, .val (.long y13), .second] [(.int (lcmpW y4 y13))])) (fun _ k => XS.lcmp X7.here hx rfl (hb hby at_129) rfl k) ?_
          refine OGo.ite1 (P := y4 < y13) (fun (z18 : Int32) => T7.setTop (mkF m 138 #[.val (.int x0), .val (.int x1), .val (.int y1), .val (.int y3), .val (.long y4), .second, .val (.int y8), .val (.long y10), .second, .val (.long y12), .second, .val (.long y13), .second] [(.int z18)])) (x := (1 : Int32)) (y := (0 : Int32)) (fun hc17 k19 => ?_) (fun hc17 k19 => ?_) (fun z18 hz18 => by subst hz18; exact k16)
          · skip
            refine OGo.go (U' := T7.setTop (mkF m 133 #[.val (.int x0), .val (.int x1), .val (.int y1), .val (.int y3), .val (.long y4), .second, .val (.int y8), .val (.long y10), .second, .val (.long y12), .second, .val (.long y13), .second] [])) (fun _ k => XS.ifNo X7.here hx rfl (hb hby at_130) rfl ((if0 _ _).trans (tlt ((lw_lt y4 y13).mpr hc17)).2.1) k) ?_
            refine OGo.go (U' := T7.setTop (mkF m 134 #[.val (.int x0), .val (.int x1), .val (.int y1), .val (.int y3), .val (.long y4), .second, .val (.int y8), .val (.long y10), .second, .val (.long y12), .second, .val (.long y13), .second] [(.int (1 : Int32))])) (fun _ k => XS.iconst X7.here hx rfl (hb hby at_133) k) ?_
            refine OGo.go (U' := T7.setTop (mkF m 138 #[.val (.int x0), .val (.int x1), .val (.int y1), .val (.int y3), .val (.long y4), .second, .val (.int y8), .val (.long y10), .second, .val (.long y12), .second, .val (.long y13), .second] [(.int (1 : Int32))])) (fun _ k => XS.goto X7.here hx rfl (pc0 := 134) (pc' := 138) rfl (hb hby at_134) (by decide) (by decide) k) ?_
            exact k19
          · skip
            refine OGo.go (U' := T7.setTop (mkF m 137 #[.val (.int x0), .val (.int x1), .val (.int y1), .val (.int y3), .val (.long y4), .second, .val (.int y8), .val (.long y10), .second, .val (.long y12), .second, .val (.long y13), .second] [])) (fun _ k => XS.ifYes X7.here hx rfl (pc0 := 130) (pc' := 137) rfl (hb hby at_130) rfl ((if0 _ _).trans (flt (fun q => hc17 ((lw_lt y4 y13).mp q))).2.1) (by decide) (by decide) k) ?_
            refine OGo.go (U' := T7.setTop (mkF m 138 #[.val (.int x0), .val (.int x1), .val (.int y1), .val (.int y3), .val (.long y4), .second, .val (.int y8), .val (.long y10), .second, .val (.long y12), .second, .val (.long y13), .second] [(.int (0 : Int32))])) (fun _ k => XS.iconst X7.here hx rfl (hb hby at_137) k) ?_
            exact k19
        intro z15 hz15
        refine OGo.retN X7 hx (t := .boolean) hret hlk (by simp) (hb hby at_138) ?_ (by decide) (by decide)
        exact ⟨own_ret_3 hy1 hy3 hy4 hH hy8 hc9 hy10 hc11 hy12 hy13 hz15, Fr.nil _⟩
set_option maxRecDepth 65536 in
set_option maxHeartbeats 40000000 in
theorem comes_1 {Post : Tables → Env → Array Value → State → Outcome → State → Prop} (hpost : ∀ tb e args s v u, (limb_1_1.after args s (.returned v) u = true ∧ limb_1_2.after args s (.returned v) u = true ∧ True) → FrameEnd s (.returned v) u (Jvm.fieldLocs frame_1_writes args s ++ Jvm.arrayLocs frame_1_arrays args s ++ Jvm.staticLocs frame_1_statics s) 0 0 → Post tb e args s (.returned v) u) :
    ArmFor flags0 classFile x code maxLocals ret World_1 tables_1 room_1 Calls_1 rest_1 Pre_1 Post := by
  intro l hfl _ _ p e ha hc hk s m args below hf hA hF happ hP
  obtain ⟨hcalls, hrest, hpre⟩ := hP
  obtain ⟨-, -, -, hnamed, -, -, -, hat⟩ := (Spec.applies_iff hf).mp happ
  obtain ⟨hg, hn⟩ := and_e (Cond.before_iff.mp (show (Jvm.Cond.and given_1 narrow_1).before args s = true from hpre))
  obtain ⟨g0, g1⟩ := and_e hg
  obtain ⟨w0, w1, rfl⟩ : ∃ w0 w1 : Value, args = #[w0, w1] := by
    have hs : args.size = 2 := by simpa [Cond.value, given_1] using g0
    obtain ⟨L⟩ := args
    match L, hs with
    | [w0, w1], _ => exact ⟨w0, w1, rfl⟩
  have hw := fun d (hd : d ∈ tables_1) => atoms_spec (ws := Jvm.Cond.code x code maxLocals ret :: tables_1) hat d (List.mem_cons_of_mem _ hd)
  have hfit : Fit s := fun {y c} hc i hi => by
    obtain ⟨ha, rfl⟩ := Array.getElem?_eq_some_iff.mp hc
    have q := List.all_eq_true.mp ((Array.all_eq_true_iff_forall_mem.mp hF) _ (Array.getElem_mem ha)) i (List.mem_range.mpr hi)
    simpa [Array.getElem?_eq_getElem hi] using q
  obtain ⟨v0, g2⟩ := and_e g1
  obtain ⟨i0, q0⟩ := is_v v0
  obtain rfl : w0 = (.int i0) := Option.some.inj q0
  obtain ⟨i1, q1⟩ := is_v g2
  obtain rfl : w1 = (.int i1) := Option.some.inj q1
  obtain ⟨n, o, h1, h2, h3, _, L, rfl, ⟨rfl, N⟩, hq⟩ := rm_law l s _ hw i0 i1 s.heap.size s.heap p e ha hc hk s m _ below hf ((Spec.applies_iff_loose hf).mp happ).1 ⟨rfl, State.Warmed39.refl s, rfl⟩ trivial
  refine ⟨n, _, h1, h2, h3, hpost _ _ _ _ _ _ ⟨Cond.after_iff.mpr rfl, Cond.after_iff.mpr (eq_i res_at (Term.int_eval (1)) rfl), trivial⟩ ⟨hq.1, hq.2.1, (hq.2.2.sift fun y hy => Or.inr (N y hy)).mono (by decide) (by decide)⟩⟩
theorem main_1_1 : Claimed_1_1 := comes_1 fun _ _ _ _ _ _ h hF => ⟨h.1, hF⟩
theorem main_1_2 : Claimed_1_2 := comes_1 fun _ _ _ _ _ _ h hF => ⟨h.2.1, hF⟩
end Jvm.Pilot.@@N@@
namespace Jvm.Pilot.@@N@@
open Jvm Jvm.ClassFile Sem Op Lib Jvm.Free Jvm.Stand Jvm.Pilot.@@N@@.Jvm.D
/-! MADE BY PROGRAM (witnessworld.py) out of the Statement's table words and the real class files: 10 classes; the members and pool entries that the words name. The judged class is class 1, her method 1. -/
namespace start1
open Jvm.ClassFile
def u (s : String) : CpInfo := .utf8 (stringToUtf16 s)
/-- a pool by its gaps: so many unusable entries, then the entry; so many at the end -/
def gap : Nat → List CpInfo → List CpInfo
  | 0, r => r
  | n + 1, r => .unusable :: gap n r
def poolList (es : List (Nat × CpInfo)) (last : Nat) : List CpInfo := es.foldr (fun e r => gap e.1 (e.2 :: r)) (gap last [])
def pool (es : List (Nat × CpInfo)) (last : Nat) : Array CpInfo := ⟨poolList es last⟩
def fileOf (pool : Array CpInfo) (this : Nat) (attrs : Array Attribute := #[]) (ms : Array MethodInfo := #[]) (fl : Nat := 33) (sup : Nat := 0) (ifs : Array Nat := #[]) (fds : Array FieldInfo := #[]) : ClassFile where
  minorVersion := 0
  majorVersion := 65
  constantPool := pool
  accessFlags := fl
  thisClass := this
  superClass := sup
  interfaces := ifs
  fields := fds
  methods := ms
  attributes := attrs
def plain (name : String) (sup : Option ClassId) : Class where
  name := name
  kind := .ordinary
  loader := none
  accessFlags := 33
  super := sup
  interfaces := #[]
  cf := none
  fields := #[]
  methods := #[]
  instanceTypes := #[]
  staticTypes := #[]
  resolved := #[]
  callSites := []
  init := .initialized
  statics := none
  mirror := none

def pool0 : Array CpInfo := pool [(5, u "<init>"), (0, u "()V"), (1, .class_ 10), (1, u "java/lang/Object")] 113

def k0m0 : Method := { name := "<init>", desc := "()V", sig := { parameters := [], returnType := none }, accessFlags := 1, code := none }
/-- java/lang/Object -/
def k0 : Class := { plain "java/lang/Object" none with
  accessFlags := 33
  interfaces := #[]
  cf := some (fileOf pool0 8 #[] #[{ accessFlags := 1, nameIndex := 5, descriptorIndex := 6, attributes := #[] }] 33 0 #[] #[])
  fields := #[]
  methods := #[k0m0]
  instanceTypes := #[]
  staticTypes := #[]
  resolved := Array.replicate 124 none
  statics := none }

def pool1 : Array CpInfo := pool [(2, .class_ 4), (1, u "java/lang/Object"), (0, u "<init>"), (0, u "()V"), (0, .integer 2147483647), (0, .methodref 9 10), (0, .class_ 11), (0, .nameAndType 12 13), (0, u "java/lang/Math"), (0, u "max"), (0, u "(II)I"), (0, .long 508), (1, .long 10), (1, .long 20), (1, .long 2147483648), (1, .methodref 23 24), (0, .class_ 25), (0, .nameAndType 26 13), (0, u "com/example/scanout/scanout/display/DisplayDevice"), (0, u "millimetres"), (0, .long 60000000000), (1, .class_ 30), (0, u "com/example/scanout/scanout/display/DisplayDeviceMillimetresPinLaw"), (2, u "law"), (0, u "(II)Z")] 3

def k1m0 : Method := { name := "<init>", desc := "()V", sig := { parameters := [], returnType := none }, accessFlags := 1, code := none }
def k1c1 : Code := { maxStack := 6, maxLocals := 13, code := code, exceptionTable := #[], attributes := #[] }
def k1m1 : Method := { name := "law", desc := "(II)Z", sig := { parameters := [.int, .int], returnType := some .boolean }, accessFlags := 9, code := some k1c1 }
/-- com/example/scanout/scanout/display/DisplayDeviceMillimetresPinLaw -/
def k1 : Class := { plain "com/example/scanout/scanout/display/DisplayDeviceMillimetresPinLaw" (some 0) with
  accessFlags := 49
  interfaces := #[]
  cf := some (fileOf pool1 29 #[] #[{ accessFlags := 1, nameIndex := 5, descriptorIndex := 6, attributes := #[] }, { accessFlags := 9, nameIndex := 33, descriptorIndex := 34, attributes := #[] }] 49 2 #[] #[])
  fields := #[]
  methods := #[k1m0, k1m1]
  instanceTypes := #[]
  staticTypes := #[]
  resolved := Array.replicate 38 none
  statics := none }

def pool2 : Array CpInfo := pool [(1, .class_ 2), (0, u "java/lang/Math"), (1, .class_ 6), (1, u "java/lang/Object"), (0, u "<init>"), (0, u "()V"), (89, .class_ 100), (1, u "java/lang/Math$RandomNumberGeneratorHolder"), (71, u "negativeZeroFloatBits"), (0, u "J"), (2, u "negativeZeroDoubleBits"), (21, u "max"), (46, u "$assertionsDisabled"), (0, u "Z"), (88, u "(II)I"), (2, u "twoToTheDoubleScaleDown"), (0, u "D"), (4, u "twoToTheDoubleScaleUp"), (9, u "E"), (3, u "PI"), (2, u "TAU"), (2, u "DEGREES_TO_RADIANS"), (0, u "RADIANS_TO_DEGREES")] 94

def k2m0 : Method := { name := "<init>", desc := "()V", sig := { parameters := [], returnType := none }, accessFlags := 2, code := none }
def k2c1 : Code := { maxStack := 2, maxLocals := 2, code := jdk_29_method_65_code, exceptionTable := #[], attributes := #[] }
def k2m1 : Method := { name := "max", desc := "(II)I", sig := { parameters := [.int, .int], returnType := some .int }, accessFlags := 9, code := some k2c1 }
/-- java/lang/Math -/
def k2 : Class := { plain "java/lang/Math" (some 0) with
  accessFlags := 49
  interfaces := #[]
  cf := some (fileOf pool2 1 #[.nestMembers #[98]] #[{ accessFlags := 2, nameIndex := 7, descriptorIndex := 8, attributes := #[] }, { accessFlags := 9, nameIndex := 198, descriptorIndex := 335, attributes := #[] }] 49 4 #[] #[{ accessFlags := 25, nameIndex := 354, descriptorIndex := 339, attributes := #[] }, { accessFlags := 25, nameIndex := 358, descriptorIndex := 339, attributes := #[] }, { accessFlags := 25, nameIndex := 361, descriptorIndex := 339, attributes := #[] }, { accessFlags := 26, nameIndex := 364, descriptorIndex := 339, attributes := #[] }, { accessFlags := 26, nameIndex := 365, descriptorIndex := 339, attributes := #[] }, { accessFlags := 26, nameIndex := 172, descriptorIndex := 173, attributes := #[] }, { accessFlags := 26, nameIndex := 176, descriptorIndex := 173, attributes := #[] }, { accessFlags := 8, nameIndex := 344, descriptorIndex := 339, attributes := #[] }, { accessFlags := 8, nameIndex := 338, descriptorIndex := 339, attributes := #[] }, { accessFlags := 4120, nameIndex := 245, descriptorIndex := 246, attributes := #[] }])
  fields := #[{ name := "E", type := .double, accessFlags := 25, slot := 0, constantValue := 0 }, { name := "PI", type := .double, accessFlags := 25, slot := 1, constantValue := 0 }, { name := "TAU", type := .double, accessFlags := 25, slot := 2, constantValue := 0 }, { name := "DEGREES_TO_RADIANS", type := .double, accessFlags := 26, slot := 3, constantValue := 0 }, { name := "RADIANS_TO_DEGREES", type := .double, accessFlags := 26, slot := 4, constantValue := 0 }, { name := "negativeZeroFloatBits", type := .long, accessFlags := 26, slot := 5, constantValue := 0 }, { name := "negativeZeroDoubleBits", type := .long, accessFlags := 26, slot := 6, constantValue := 0 }, { name := "twoToTheDoubleScaleUp", type := .double, accessFlags := 8, slot := 7, constantValue := 0 }, { name := "twoToTheDoubleScaleDown", type := .double, accessFlags := 8, slot := 8, constantValue := 0 }, { name := "$assertionsDisabled", type := .boolean, accessFlags := 4120, slot := 9, constantValue := 0 }]
  methods := #[k2m0, k2m1]
  instanceTypes := #[]
  staticTypes := #[.double, .double, .double, .double, .double, .long, .long, .double, .double, .boolean]
  resolved := Array.replicate 460 none
  statics := none }

def pool3 : Array CpInfo := pool [(4, .class_ 6), (1, u "java/lang/Object"), (3, .class_ 12), (1, u "com/example/scanout/scanout/display/DisplayDevice"), (0, u "mKind"), (0, u "Lcom/example/scanout/scanout/display/DisplayDevice$Kind;"), (2, u "mConnector"), (0, u "Ljava/lang/String;"), (2, u "mMake"), (2, u "mModel"), (2, u "mSerial"), (2, u "mWidth"), (0, u "I"), (2, u "mHeight"), (2, u "mRefreshMilliHz"), (2, u "mDensityDpi"), (2, u "mPhysicalWidthMm"), (2, u "mPhysicalHeightMm"), (2, u "mSecure"), (0, u "Z"), (5, u "(II)I"), (1, .class_ 60), (1, u "com/example/scanout/scanout/display/DisplayDevice$Kind"), (46, u "millimetres"), (0, .long 254), (1, .long 2), (1, .long 10), (1, .long 20), (3, u "SCANOUT_MAKE"), (1, u "MAX_REFRESH_MILLI_HZ"), (0, u "J")] 45

def k3c0 : Code := { maxStack := 6, maxLocals := 4, code := prog_21_method_7_code, exceptionTable := #[], attributes := #[] }
def k3m0 : Method := { name := "millimetres", desc := "(II)I", sig := { parameters := [.int, .int], returnType := some .int }, accessFlags := 8, code := some k3c0 }
/-- com/example/scanout/scanout/display/DisplayDevice -/
def k3 : Class := { plain "com/example/scanout/scanout/display/DisplayDevice" (some 0) with
  accessFlags := 33
  interfaces := #[]
  cf := some (fileOf pool3 10 #[.nestMembers #[58]] #[{ accessFlags := 8, nameIndex := 107, descriptorIndex := 56, attributes := #[] }] 33 4 #[] #[{ accessFlags := 24, nameIndex := 118, descriptorIndex := 18, attributes := #[] }, { accessFlags := 25, nameIndex := 120, descriptorIndex := 121, attributes := #[] }, { accessFlags := 18, nameIndex := 13, descriptorIndex := 14, attributes := #[] }, { accessFlags := 18, nameIndex := 17, descriptorIndex := 18, attributes := #[] }, { accessFlags := 18, nameIndex := 21, descriptorIndex := 18, attributes := #[] }, { accessFlags := 18, nameIndex := 24, descriptorIndex := 18, attributes := #[] }, { accessFlags := 18, nameIndex := 27, descriptorIndex := 18, attributes := #[] }, { accessFlags := 18, nameIndex := 30, descriptorIndex := 31, attributes := #[] }, { accessFlags := 18, nameIndex := 34, descriptorIndex := 31, attributes := #[] }, { accessFlags := 18, nameIndex := 37, descriptorIndex := 31, attributes := #[] }, { accessFlags := 18, nameIndex := 40, descriptorIndex := 31, attributes := #[] }, { accessFlags := 18, nameIndex := 43, descriptorIndex := 31, attributes := #[] }, { accessFlags := 18, nameIndex := 46, descriptorIndex := 31, attributes := #[] }, { accessFlags := 18, nameIndex := 49, descriptorIndex := 50, attributes := #[] }])
  fields := #[{ name := "SCANOUT_MAKE", type := (.object "java/lang/String"), accessFlags := 24, slot := 0, constantValue := 0 }, { name := "MAX_REFRESH_MILLI_HZ", type := .long, accessFlags := 25, slot := 1, constantValue := 0 }, { name := "mKind", type := (.object "com/example/scanout/scanout/display/DisplayDevice$Kind"), accessFlags := 18, slot := 0, constantValue := 0 }, { name := "mConnector", type := (.object "java/lang/String"), accessFlags := 18, slot := 1, constantValue := 0 }, { name := "mMake", type := (.object "java/lang/String"), accessFlags := 18, slot := 2, constantValue := 0 }, { name := "mModel", type := (.object "java/lang/String"), accessFlags := 18, slot := 3, constantValue := 0 }, { name := "mSerial", type := (.object "java/lang/String"), accessFlags := 18, slot := 4, constantValue := 0 }, { name := "mWidth", type := .int, accessFlags := 18, slot := 5, constantValue := 0 }, { name := "mHeight", type := .int, accessFlags := 18, slot := 6, constantValue := 0 }, { name := "mRefreshMilliHz", type := .int, accessFlags := 18, slot := 7, constantValue := 0 }, { name := "mDensityDpi", type := .int, accessFlags := 18, slot := 8, constantValue := 0 }, { name := "mPhysicalWidthMm", type := .int, accessFlags := 18, slot := 9, constantValue := 0 }, { name := "mPhysicalHeightMm", type := .int, accessFlags := 18, slot := 10, constantValue := 0 }, { name := "mSecure", type := .boolean, accessFlags := 18, slot := 11, constantValue := 0 }]
  methods := #[k3m0]
  instanceTypes := #[(.object "com/example/scanout/scanout/display/DisplayDevice$Kind"), (.object "java/lang/String"), (.object "java/lang/String"), (.object "java/lang/String"), (.object "java/lang/String"), .int, .int, .int, .int, .int, .int, .boolean]
  staticTypes := #[(.object "java/lang/String"), .long]
  resolved := Array.replicate 167 none
  statics := none }

def pool4 : Array CpInfo := pool [(1, u "java/lang/Cloneable"), (0, .class_ 1), (0, u "java/lang/Object"), (0, .class_ 3)] 3

/-- java/lang/Cloneable -/
def k4 : Class := { plain "java/lang/Cloneable" (some 0) with
  accessFlags := 1537
  interfaces := #[]
  cf := some (fileOf pool4 2 #[] #[] 1537 4 #[] #[])
  fields := #[]
  methods := #[]
  instanceTypes := #[]
  staticTypes := #[]
  resolved := Array.replicate 8 none
  statics := none }

def pool5 : Array CpInfo := pool [(1, u "java/io/Serializable"), (0, .class_ 1), (0, u "java/lang/Object"), (0, .class_ 3)] 3

/-- java/io/Serializable -/
def k5 : Class := { plain "java/io/Serializable" (some 0) with
  accessFlags := 1537
  interfaces := #[]
  cf := some (fileOf pool5 2 #[] #[] 1537 4 #[] #[])
  fields := #[]
  methods := #[]
  instanceTypes := #[]
  staticTypes := #[]
  resolved := Array.replicate 8 none
  statics := none }

/-- the primitive byte -/
def k6 : Class := { plain "byte" none with kind := .primitive 'B', accessFlags := 0x411 }
/-- [B -/
def k7 : Class := { plain "[B" (some 0) with kind := .array 6 .byte, interfaces := #[4, 5], accessFlags := 1041 }

/-- the primitive int -/
def k8 : Class := { plain "int" none with kind := .primitive 'I', accessFlags := 0x411 }
/-- [I -/
def k9 : Class := { plain "[I" (some 0) with kind := .array 8 .int, interfaces := #[4, 5], accessFlags := 1041 }

def heap : Heap := #[]
def classes : Array Class := #[k0, k1, k2, k3, k4, k5, k6, k7, k8, k9]
def interned : List (Array UInt16 × Addr) := []
def slotsUsed : Nat := 0
def theMethod : MethodId := ⟨1, 1⟩
def args0 : Array Value := #[.int 5, .int 7]
def aboutOver (below : List Frame) : State where
  vm := { classes := classes, interned := interned.toArray }
  heap := heap
  slotsUsed := slotsUsed
  threads := #[{ frames := .invoking theMethod args0 :: below }]
def below0 : List Frame := [.native { method := ⟨0, 0⟩, args := #[] }]
def about1 : State := aboutOver below0
def p0 : Program := .bare "" "" ""
def e0 : Env := launch0.env 0 0 0
theorem w_frames : about1.frames = Frame.invoking theMethod args0 :: below0 := rfl
set_option maxRecDepth 65536 in
theorem w_args : argsFit about1.vm theMethod args0 = true := by decide +kernel
set_option maxRecDepth 65536 in
theorem w_heap : heapFits about1 = true := by decide +kernel
set_option maxRecDepth 65536 in
theorem w_runnable : about1.curStatus? = some .runnable := by decide +kernel
set_option maxRecDepth 65536 in
theorem w_alone : about1.alone = true := by decide +kernel
set_option maxRecDepth 65536 in
theorem w_named : about1.methodNamed? x = some theMethod := by decide +kernel
set_option maxRecDepth 65536 in
theorem w_hears : about1.hears theMethod below0 = true := by decide +kernel
set_option maxRecDepth 65536 in
theorem w_ripe : about1.ripe theMethod args0 below0 = true := by decide +kernel
theorem w_running : about1.status = .running := rfl
set_option maxRecDepth 65536 in
theorem w_room : about1.hasRoom e0.platform room_1 = true :=
  launch0.hasRoom_least _ room_1 (by decide +kernel) (by decide +kernel) (by decide +kernel) (by decide +kernel) (by decide +kernel) (by decide +kernel)
theorem allAtoms_all (ts : List Jvm.Cond) (a : Array Jvm.Value) (st : Jvm.State) : (allAtoms ts).before a st = ts.all (fun c => c.before a st) := by
  induction ts with
  | nil => rfl
  | cons c t ih =>
    show (Jvm.Cond.and c (allAtoms t)).before a st = _
    rw [Jvm.Cond.before_and, ih, List.all_cons]
def words1 : List Jvm.Cond := Jvm.Cond.code x code maxLocals ret :: tables_1
/-- a 'code' word, met by the world's own term for the bytes: nothing is compared byte by byte -/
theorem code_word {y : MethodName} {bytes : ByteArray} {mx : Nat} {rt : Option FieldType} {a : Array Value} {s : State} {m : MethodId} {meth : Method} {c : Code} (h1 : s.methodNamed? y = some m) (h2 : s.vm.method? m = some meth) (h3 : meth.code = some c) (h4 : c.code = bytes)
    (h5 : (c.maxLocals == mx && c.exceptionTable.isEmpty && decide (c.maxStack ≤ mostOperands) && decide (meth.sig.returnType = rt) && !meth.locks && decide (parseMethodDescriptor y.desc = some meth.sig)) = true) : (Jvm.Cond.code y bytes mx rt).before a s = true := by
  simp only [Bool.and_eq_true, beq_iff_eq, Bool.not_eq_true', decide_eq_true_eq] at h5
  obtain ⟨⟨⟨⟨⟨g1, g2⟩, g3⟩, g4⟩, g5⟩, g6⟩ := h5
  simp [Cond.before, Cond.holds, Cond.value, h1, h2, h3, h4, g1, g2, g3, g4, g5, g6]
def isCode : Jvm.Cond → Bool
  | .code _ _ _ _ => true
  | _ => false
theorem all_split {L : List Jvm.Cond} {P : Jvm.Cond → Bool} (h1 : L.all (fun c => isCode c || P c) = true) (h2 : ∀ c ∈ L.filter isCode, P c = true) : L.all P = true := by
  refine List.all_eq_true.mpr fun c hc => ?_
  have h := List.all_eq_true.mp h1 c hc
  rcases Bool.eq_false_or_eq_true (isCode c) with hi | hi
  · exact h2 c (List.mem_filter.mpr ⟨hc, hi⟩)
  · simpa [hi] using h
set_option maxRecDepth 65536 in
theorem w_c0 : (Jvm.Cond.code x code maxLocals ret).before args0 about1 = true := code_word (m := ⟨1, 1⟩) (meth := k1m1) (c := k1c1) (by decide +kernel) rfl rfl rfl (by decide +kernel)
set_option maxRecDepth 65536 in
theorem w_c1 : (Jvm.Cond.code ({ cls := "java/lang/Math", name := "max", desc := "(II)I" } : Jvm.MethodName) jdk_29_method_65_code (2 : Nat) (Option.some Jvm.ClassFile.FieldType.int)).before args0 about1 = true := code_word (m := ⟨2, 1⟩) (meth := k2m1) (c := k2c1) (by decide +kernel) rfl rfl rfl (by decide +kernel)
set_option maxRecDepth 65536 in
theorem w_c2 : (Jvm.Cond.code ({ cls := "com/example/scanout/scanout/display/DisplayDevice", name := "millimetres", desc := "(II)I" } : Jvm.MethodName) prog_21_method_7_code (4 : Nat) (Option.some Jvm.ClassFile.FieldType.int)).before args0 about1 = true := code_word (m := ⟨3, 0⟩) (meth := k3m0) (c := k3c0) (by decide +kernel) rfl rfl rfl (by decide +kernel)
def codes1 : List Jvm.Cond := [Jvm.Cond.code x code maxLocals ret, Jvm.Cond.code ({ cls := "java/lang/Math", name := "max", desc := "(II)I" } : Jvm.MethodName) jdk_29_method_65_code (2 : Nat) (Option.some Jvm.ClassFile.FieldType.int), Jvm.Cond.code ({ cls := "com/example/scanout/scanout/display/DisplayDevice", name := "millimetres", desc := "(II)I" } : Jvm.MethodName) prog_21_method_7_code (4 : Nat) (Option.some Jvm.ClassFile.FieldType.int)]
set_option maxRecDepth 65536 in
theorem codes_eq : words1.filter isCode = codes1 := rfl
theorem w_codes : ∀ c ∈ words1.filter isCode, c.before args0 about1 = true := by
  rw [codes_eq]
  intro c hc
  simp only [codes1, List.mem_cons, List.not_mem_nil, or_false] at hc
  rcases hc with rfl | rfl | rfl
  · exact w_c0
  · exact w_c1
  · exact w_c2
set_option maxRecDepth 65536 in
theorem w_t1 : words1.all (fun c => isCode c || c.before args0 about1) = true := by decide +kernel
theorem w_tables : (allAtoms (Jvm.Cond.code x code maxLocals ret :: tables_1)).before args0 about1 = true := by
  rw [allAtoms_all]
  show words1.all (fun c => c.before args0 about1) = true
  refine all_split ?_ w_codes
  rw [w_t1]
set_option maxRecDepth 65536 in
theorem w_case : (Jvm.Cond.and given_1 narrow_1).before args0 about1 = true := by decide +kernel
theorem w_applies : (headSpec (Jvm.Cond.code x code maxLocals ret :: tables_1) room_1).applies x e0.platform about1 = true :=
  (Spec.applies_iff w_frames).mpr ⟨w_running, w_runnable, w_alone, w_named, w_hears, w_ripe, w_room, w_tables⟩
theorem atStart : AtStart classFile x code maxLocals ret World_1 tables_1 room_1 Calls_1 rest_1 Pre_1 launch0 p0 e0 about1 theMethod args0 below0 :=
  ⟨lists_1, trivial, launch0.admits_env _ _ _, launch0.least_env, fairChoices_fair.cas, fairChoices_fair.clock, w_frames, w_args, w_heap, w_applies, trivial, trivial, w_case⟩
end start1
theorem witness_1 : WitnessClaimed_1 := ⟨start1.p0, start1.e0, start1.about1, start1.theMethod, start1.args0, start1.below0, start1.atStart⟩
end Jvm.Pilot.@@N@@
