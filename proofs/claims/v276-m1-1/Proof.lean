import JvmDerived
import JvmDerived.Pilot.@@N@@Statement
import JvmDerived.Pilot.@@N@@Code
set_option linter.unusedVariables false
set_option linter.unusedSimpArgs false
namespace Jvm.RoadKit
open Sem ClassFile Op Lib Jvm.Stand Jvm.Free Jvm.LawKit
section OwnGo
variable {p : Program} {l : Launch} {e : Env} {R : Room} {s : State} {m : MethodId} {args : Array Value} {below : List Frame} {meth : Method} {c : Code} {T : State} {locs : List Loc} {cells slots : Nat} {Z : State} {a0 : Array Value} {h : Heap} {kc ks : Nat} {Q : Option Value → Heap → List Loc → Prop} {G : Outcome → State → Prop} {U U' : State}
/-- from U the walk ends, and G says how -/
def OGo (p : Program) (e : Env) (below : List Frame) (G : Outcome → State → Prop) (U : State) : Prop :=
  ∃ s₂ o, Steps p.tables e below U s₂ ∧ s₂.status = .running ∧ Ended s₂ below o ∧ G o s₂
/-- it returned, Q says what, and the frame is kept -/
def OEnd (s : State) (kc ks : Nat) (Q : Option Value → Heap → List Loc → Prop) (o : Outcome) (t : State) : Prop := ∃ v L, o = .returned v ∧ Q v t.heap L ∧ FrameEnd s o t L kc ks
/-- the same where a String constant may have come to be interned -/
def OEndW (s : State) (kc ks : Nat) (Q : Option Value → Heap → List Loc → Prop) (o : Outcome) (t : State) : Prop := ∃ v L, o = .returned v ∧ Q v t.heap L ∧ ReturnedEndW s o t L kc ks
theorem OGo.go (f : ∀ t, Steps p.tables e below U' t → Steps p.tables e below U t) (k : OGo p e below G U') : OGo p e below G U := by
  obtain ⟨s₂, o, h1, h2⟩ := k
  exact ⟨s₂, o, f _ h1, h2⟩
theorem OGo.trans (f : Steps p.tables e below U U') (k : OGo p e below G U') : OGo p e below G U := OGo.go (fun _ r => f.trans r) k
/-- two roads that meet again, in a state that differs in one value -/
theorem OGo.ite1 {α : Type} {P : Prop} [Decidable P] (f : α → State) {x y : α} (h1 : P → OGo p e below G (f x) → OGo p e below G U) (h2 : ¬ P → OGo p e below G (f y) → OGo p e below G U) (k : ∀ z, z = (if P then x else y) → OGo p e below G (f z)) : OGo p e below G U := by
  by_cases q : P
  · exact h1 q (k _ (if_pos q).symm)
  · exact h2 q (k _ (if_neg q).symm)
theorem OGo.ite2 {α β : Type} {P : Prop} [Decidable P] (f : α → β → State) {x y : α} {x' y' : β} (h1 : P → OGo p e below G (f x x') → OGo p e below G U) (h2 : ¬ P → OGo p e below G (f y y') → OGo p e below G U) (k : ∀ z z', z = (if P then x else y) → z' = (if P then x' else y') → OGo p e below G (f z z')) : OGo p e below G U := by
  by_cases q : P
  · exact h1 q (k _ _ (if_pos q).symm (if_pos q).symm)
  · exact h2 q (k _ _ (if_neg q).symm (if_neg q).symm)
theorem OGo.cut {H : Prop} (V : State) (k1 : (H → OGo p e below G V) → OGo p e below G U) (k2 : H → OGo p e below G V) : OGo p e below G U := k1 k2
theorem OGo.cut2 {α : Type} {H : α → Prop} (V : α → State) (k1 : (∀ a, H a → OGo p e below G (V a)) → OGo p e below G U) (k2 : ∀ a, H a → OGo p e below G (V a)) : OGo p e below G U := k1 k2
theorem OGo.nm {α : Type} (f : α → State) {x : α} (k : ∀ z, z = x → OGo p e below G (f z)) : OGo p e below G (f x) := k x rfl
/-- the end of the walk -/
theorem OGo.ret (X : Stand p l e R s m args below meth c T locs cells slots) {v : Option Value} {g : JFrame} (hv : meth.sig.returnType = none → v = none) (hlk : meth.locks = false)
    (hs : ∀ fs, (∀ (f : JFrame) (acts : List Action), f.method = m → f.locked = none → f.entered = [] → (doReturn e (T.setTop f) acts v).1 = T.setFrames fs) → Steps p.tables e below (T.setTop g) (T.setFrames fs))
    (hQ : Q v T.heap locs) (hc : cells ≤ kc) (hl : slots ≤ ks) : OGo p e below (OEnd s kc ks Q) (T.setTop g) := by
  obtain ⟨fs, hr, hrun, hended, hW, hsame⟩ := X.leave (v := v) hv hlk
  exact ⟨_, _, hs fs hr, hrun, hended, v, locs, rfl, hQ, ⟨_, rfl⟩, hW, hsame.mono hc hl⟩
/-- return of a boolean, byte, char, short -/
theorem OGo.retN (X : Stand p l e R s m args below meth c T locs cells slots) (hx : p.tables.exec = Jvm.exec) {pc : Nat} {Ls : Array Slot} {z : Int32} {t : FieldType} {rest : List Value} (hret : meth.sig.returnType = some t) (hlk : meth.locks = false) (ht : t = .boolean ∨ t = .byte ∨ t = .char ∨ t = .short)
    (hd : decode c.code pc = .ok (.ireturn, 1)) (hQ : Q (some (.int (nar t z))) T.heap locs) (hc : cells ≤ kc) (hl : slots ≤ ks) : OGo p e below (OEnd s kc ks Q) (T.setTop (mkF m pc Ls (.int z :: rest))) :=
  OGo.ret X (fun q => by rw [hret] at q; cases q) hlk (fun fs hr => Jvm.RoadKit.retN X hx hret ht hd hr) hQ hc hl
/-- return of an int, a long, a double, a reference -/
theorem OGo.retV (X : Stand p l e R s m args below meth c T locs cells slots) (hx : p.tables.exec = Jvm.exec) {pc : Nat} {Ls : Array Slot} {w : Value} {t : FieldType} {i : Instr} {rest : List Value} (hret : meth.sig.returnType = some t) (hlk : meth.locks = false) (hn : narrow t w = w)
    (hi : (i = .ireturn ∧ (t = .int ∨ t = .boolean ∨ t = .byte ∨ t = .char ∨ t = .short) ∧ ∃ z, w = .int z) ∨ (i = .lreturn ∧ t = .long ∧ ∃ z, w = .long z) ∨ (i = .dreturn ∧ t = .double ∧ ∃ z, w = .double z) ∨ (i = .freturn ∧ t = .float ∧ ∃ z, w = .float z) ∨ (i = .areturn ∧ t.isReference = true ∧ w.isRef = true))
    (hd : decode c.code pc = .ok (i, 1)) (hQ : Q (some w) T.heap locs) (hc : cells ≤ kc) (hl : slots ≤ ks) : OGo p e below (OEnd s kc ks Q) (T.setTop (mkF m pc Ls (w :: rest))) :=
  OGo.ret X (fun q => by rw [hret] at q; cases q) hlk (fun fs hr => Jvm.RoadKit.retOut X hx hret hn hi hd hr) hQ hc hl
theorem OGo.retI (X : Stand p l e R s m args below meth c T locs cells slots) (hx : p.tables.exec = Jvm.exec) {pc : Nat} {Ls : Array Slot} {z : Int32} {rest : List Value} (hret : meth.sig.returnType = some .int) (hlk : meth.locks = false)
    (hd : decode c.code pc = .ok (.ireturn, 1)) (hQ : Q (some (.int z)) T.heap locs) (hc : cells ≤ kc) (hl : slots ≤ ks) : OGo p e below (OEnd s kc ks Q) (T.setTop (mkF m pc Ls (.int z :: rest))) :=
  OGo.retV X hx hret hlk rfl (Or.inl ⟨rfl, Or.inl rfl, z, rfl⟩) hd hQ hc hl
theorem OGo.retJ (X : Stand p l e R s m args below meth c T locs cells slots) (hx : p.tables.exec = Jvm.exec) {pc : Nat} {Ls : Array Slot} {z : Int64} {rest : List Value} (hret : meth.sig.returnType = some .long) (hlk : meth.locks = false)
    (hd : decode c.code pc = .ok (.lreturn, 1)) (hQ : Q (some (.long z)) T.heap locs) (hc : cells ≤ kc) (hl : slots ≤ ks) : OGo p e below (OEnd s kc ks Q) (T.setTop (mkF m pc Ls (.long z :: rest))) :=
  OGo.retV X hx hret hlk rfl (Or.inr (Or.inl ⟨rfl, rfl, z, rfl⟩)) hd hQ hc hl
theorem OGo.retD (X : Stand p l e R s m args below meth c T locs cells slots) (hx : p.tables.exec = Jvm.exec) {pc : Nat} {Ls : Array Slot} {z : UInt64} {rest : List Value} (hret : meth.sig.returnType = some .double) (hlk : meth.locks = false)
    (hd : decode c.code pc = .ok (.dreturn, 1)) (hQ : Q (some (.double z)) T.heap locs) (hc : cells ≤ kc) (hl : slots ≤ ks) : OGo p e below (OEnd s kc ks Q) (T.setTop (mkF m pc Ls (.double z :: rest))) :=
  OGo.retV X hx hret hlk rfl (Or.inr (Or.inr (Or.inl ⟨rfl, rfl, z, rfl⟩))) hd hQ hc hl
theorem OGo.retA (X : Stand p l e R s m args below meth c T locs cells slots) (hx : p.tables.exec = Jvm.exec) {pc : Nat} {Ls : Array Slot} {w : Value} {t : FieldType} {rest : List Value} (hret : meth.sig.returnType = some t) (hlk : meth.locks = false) (ht : t.isReference = true) (hw : w.isRef = true)
    (hd : decode c.code pc = .ok (.areturn, 1)) (hQ : Q (some w) T.heap locs) (hc : cells ≤ kc) (hl : slots ≤ ks) : OGo p e below (OEnd s kc ks Q) (T.setTop (mkF m pc Ls (w :: rest))) :=
  OGo.retV X hx hret hlk (by cases t <;> first | (cases ht; done) | (cases w <;> first | rfl | (cases hw; done))) (Or.inr (Or.inr (Or.inr (Or.inr ⟨rfl, ht, hw⟩)))) hd hQ hc hl
theorem OGo.ret0 (X : Stand p l e R s m args below meth c T locs cells slots) (hx : p.tables.exec = Jvm.exec) {pc : Nat} {Ls : Array Slot} (hret : meth.sig.returnType = none) (hlk : meth.locks = false)
    (hd : decode c.code pc = .ok (.return_, 1)) (hQ : Q none T.heap locs) (hc : cells ≤ kc) (hl : slots ≤ ks) : OGo p e below (OEnd s kc ks Q) (T.setTop (mkF m pc Ls [])) :=
  OGo.ret X (fun _ => rfl) hlk (fun fs hr => X.returnOut hx hret hd hr) hQ hc hl
/-- the end of the walk where a String constant may have come to be interned -/
theorem OGo.retW {vm₁ : Vm} {n : Nat} (X : Stand p l e R (s.setVm vm₁) m args below meth c T locs cells slots) (hS : s.Since vm₁ n) (hn : n ≤ T.heap.size) {v : Option Value} {g : JFrame} (hv : meth.sig.returnType = none → v = none) (hlk : meth.locks = false)
    (hs : ∀ fs, (∀ (f : JFrame) (acts : List Action), f.method = m → f.locked = none → f.entered = [] → (doReturn e (T.setTop f) acts v).1 = T.setFrames fs) → Steps p.tables e below (T.setTop g) (T.setFrames fs))
    (hQ : Q v T.heap locs) (hc : cells ≤ kc) (hl : slots ≤ ks) : OGo p e below (OEndW s kc ks Q) (T.setTop g) := by
  obtain ⟨fs, hr, hrun, hended, h1, h2, h3, h4⟩ := X.leaveW hS hn (v := v) hv hlk
  exact ⟨_, _, hs fs hr, hrun, hended, v, locs, rfl, hQ, h1, h2, h3, h4.mono hc hl⟩
theorem OGo.retNW {vm₁ : Vm} {n : Nat} (X : Stand p l e R (s.setVm vm₁) m args below meth c T locs cells slots) (hS : s.Since vm₁ n) (hn : n ≤ T.heap.size) (hx : p.tables.exec = Jvm.exec) {pc : Nat} {Ls : Array Slot} {z : Int32} {t : FieldType} {rest : List Value} (hret : meth.sig.returnType = some t) (hlk : meth.locks = false) (ht : t = .boolean ∨ t = .byte ∨ t = .char ∨ t = .short)
    (hd : decode c.code pc = .ok (.ireturn, 1)) (hQ : Q (some (.int (nar t z))) T.heap locs) (hc : cells ≤ kc) (hl : slots ≤ ks) : OGo p e below (OEndW s kc ks Q) (T.setTop (mkF m pc Ls (.int z :: rest))) :=
  OGo.retW X hS hn (fun q => by rw [hret] at q; cases q) hlk (fun fs hr => Jvm.RoadKit.retN X hx hret ht hd hr) hQ hc hl
/-- a body's contract: called with 'as' at a heap h0, it returns, and Q says what it left -/
def OMet (l : Launch) (Z : State) (y : MethodName) (bytes : ByteArray) (maxL : Nat) (ret : Option FieldType) (ws : List Jvm.Cond) (rm : Room) (as : Array Value) (h0 : Heap) (Q : Option Value → Heap → List Loc → Prop) : Prop :=
  MetFree l y (head1 (Jvm.Cond.code y bytes maxL ret :: ws) rm) (fun a U => a = as ∧ Z.Warmed39 U.vm ∧ U.heap = h0) (fun _ _ _ _ _ => True) (fun _ U o U' => ∃ v L, o = .returned v ∧ Q v U'.heap L ∧ FrameEnd U o U' L rm.cells rm.slots)
theorem OMet.of {y : MethodName} {bytes : ByteArray} {maxL : Nat} {ret : Option FieldType} {ws : List Jvm.Cond} {rm : Room} {as : Array Value} {h0 : Heap} (hpn : plainFor y = true)
    (H : ∀ (p : Program) (e : Env) (s : State) (m : MethodId) (below : List Frame) (meth : Method) (c : Code) (T0 : State), Stand p l e rm s m as below meth c T0 [] 0 0 → p.tables.exec = Jvm.exec → c.code = bytes → c.maxLocals = maxL → s.vm.findClass y.cls = some m.cls → meth.name = y.name → meth.sig.returnType = ret → meth.locks = false → Z.Warmed39 s.vm → T0.heap = h0 →
      OGo p e below (OEnd s rm.cells rm.slots Q) (T0.setTop (entryFrame m as maxL))) : OMet l Z y bytes maxL ret ws rm as h0 Q := by
  refine MetFree.of_bodySF hpn hisR ?_
  intro p e s m args below meth c s₁ Bd hml0 hP hK
  obtain ⟨rfl, hZ, hh⟩ := hP
  exact H p e s m below meth c s₁ (Stand.of_body Bd) Bd.exec Bd.bytes hml0 (findClass_of_methodNamed Bd.named) (name_of_methodNamed Bd.named Bd.method).1 Bd.returns Bd.notSynchronized hZ (by rw [← hh, Bd.state]; rfl)
def OMetW (l : Launch) (Z : State) (y : MethodName) (bytes : ByteArray) (maxL : Nat) (ret : Option FieldType) (ws : List Jvm.Cond) (rm : Room) (as : Array Value) (h0 : Heap) (Q : Option Value → Heap → List Loc → Prop) : Prop :=
  MetFree l y (head1 (Jvm.Cond.code y bytes maxL ret :: ws) rm) (fun a U => a = as ∧ Z.Warmed39 U.vm ∧ U.heap = h0) (fun _ _ _ _ _ => True) (fun _ U o U' => ∃ v L, o = .returned v ∧ Q v U'.heap L ∧ ReturnedEndW U o U' L rm.cells rm.slots)
theorem OMetW.of {y : MethodName} {bytes : ByteArray} {maxL : Nat} {ret : Option FieldType} {ws : List Jvm.Cond} {rm : Room} {as : Array Value} {h0 : Heap} (hpn : plainFor y = true)
    (H : ∀ (p : Program) (e : Env) (s : State) (m : MethodId) (below : List Frame) (meth : Method) (c : Code) (T0 : State), Stand p l e rm s m as below meth c T0 [] 0 0 → p.tables.exec = Jvm.exec → c.code = bytes → c.maxLocals = maxL → s.vm.findClass y.cls = some m.cls → meth.name = y.name → meth.sig.returnType = ret → meth.locks = false → Z.Warmed39 s.vm → T0.heap = h0 →
      OGo p e below (OEndW s rm.cells rm.slots Q) (T0.setTop (entryFrame m as maxL))) : OMetW l Z y bytes maxL ret ws rm as h0 Q := by
  refine MetFree.of_bodySF hpn hisR ?_
  intro p e s m args below meth c s₁ Bd hml0 hP hK
  obtain ⟨rfl, hZ, hh⟩ := hP
  exact H p e s m below meth c s₁ (Stand.of_body Bd) Bd.exec Bd.bytes hml0 (findClass_of_methodNamed Bd.named) (name_of_methodNamed Bd.named Bd.method).1 Bd.returns Bd.notSynchronized hZ (by rw [← hh, Bd.state]; rfl)
/-- a call of a static method -/
theorem OGo.callS (X : Stand p l e R s m args below meth c T locs cells slots) (hx : p.tables.exec = Jvm.exec) (hZ : Z.Warmed39 s.vm) {own : String} {index : Nat} {y : MethodName} {bytes : ByteArray} {maxL : Nat} {ret : Option FieldType}
    (hown : s.vm.findClass own = some m.cls) (w1 : (Jvm.Cond.methodLink own index y).before a0 Z = true) (w2 : (Jvm.Cond.static y).before a0 Z = true) (w3 : (Jvm.Cond.initialized y.cls).before a0 Z = true) (w4 : (Jvm.Cond.code y bytes maxL ret).before a0 Z = true)
    (hy : y.cls ≠ "java/lang/invoke/MethodHandle" ∧ y.cls ≠ "java/lang/invoke/VarHandle") {g : JFrame} {argsL rest : List Value} {rm : Room} {Q' : Option Value → Heap → List Loc → Prop} (eT : T.heap = h) (hM : OMet l Z y bytes maxL ret [] rm argsL.toArray h Q')
    (hg : g.method = m) (hsize : g.locals.size = c.maxLocals) (hlen : ∀ sig, parseMethodDescriptor y.desc = some sig → argsL.length = sig.parameters.length) (hstack : g.stack = argsL.reverse ++ rest) {W : Nat} (hW : 2 * g.monitorRoom + (rest.map fun v => v.category).sum ≤ W) (hd : decode c.code g.pc = .ok (.invokestatic index, 3))
    (hf : rm.frames + 1 ≤ R.frames) (hl : W + (maxL + 11) + rm.locals ≤ R.locals) (hc : cells + rm.cells ≤ R.cells) (hs : slots + rm.slots ≤ R.slots)
    (k : ∀ (v : Option Value) (T' : State) (L' : List Loc), Stand p l e R s m args below meth c T' (locs ++ L') (cells + rm.cells) (slots + rm.slots) → Q' v T'.heap L' → OGo p e below G (T'.setTop { g with pc := g.pc + 3, stack := v.toList ++ rest })) : OGo p e below G (T.setTop g) := by
  obtain ⟨v, vm₁, B, hW₁, X', ⟨L, hQ, e1, e2, e3⟩, st⟩ := Jvm.LawKit.callS X hx (y := y) hown (mvT hZ w1) (mvT hZ w2) (mvT hZ w3) (mvT hZ w4) hy (backOf (W := W) hM hZ w4 w3 hf hl) (g := g) hg hsize (argsL := argsL) (rest := rest) hlen hstack hW hd (fun _ _ => ⟨rfl, eT, hc, hs⟩)
  rw [e1, e2, e3] at X'
  exact OGo.go st (k v B.U L X' hQ)
/-- a call of a constructor -/
theorem OGo.callI (X : Stand p l e R s m args below meth c T locs cells slots) (hx : p.tables.exec = Jvm.exec) (hZ : Z.Warmed39 s.vm) {own : String} {index : Nat} {y : MethodName} {bytes : ByteArray} {maxL : Nat} (hy1 : y.name = "<init>")
    (hown : s.vm.findClass own = some m.cls) (w1 : (Jvm.Cond.methodLink own index y).before a0 Z = true) (w2 : (Jvm.Cond.instanceMethod y).before a0 Z = true) (w3 : (Jvm.Cond.initialized y.cls).before a0 Z = true) (w4 : (Jvm.Cond.code y bytes maxL none).before a0 Z = true)
    (hy : y.cls ≠ "java/lang/invoke/MethodHandle" ∧ y.cls ≠ "java/lang/invoke/VarHandle") {g : JFrame} {a : Addr} {argsL rest : List Value} {rm : Room} {Q' : Option Value → Heap → List Loc → Prop} (eT : T.heap = h) (hM : OMet l Z y bytes maxL none [] rm (.ref a :: argsL).toArray h Q')
    (hg : g.method = m) (hsize : g.locals.size = c.maxLocals) (hlen : ∀ sig, parseMethodDescriptor y.desc = some sig → argsL.length = sig.parameters.length) (hstack : g.stack = argsL.reverse ++ .ref a :: rest) {W : Nat} (hW : 2 * g.monitorRoom + (rest.map fun v => v.category).sum ≤ W) (hd : decode c.code g.pc = .ok (.invokespecial index, 3))
    (hf : rm.frames + 1 ≤ R.frames) (hl : W + (maxL + 11) + rm.locals ≤ R.locals) (hc : cells + rm.cells ≤ R.cells) (hs : slots + rm.slots ≤ R.slots)
    (k : ∀ (v : Option Value) (T' : State) (L' : List Loc), Stand p l e R s m args below meth c T' (locs ++ L') (cells + rm.cells) (slots + rm.slots) → Q' v T'.heap L' → OGo p e below G (T'.setTop { g with pc := g.pc + 3, stack := v.toList ++ rest })) : OGo p e below G (T.setTop g) := by
  obtain ⟨v, vm₁, B, hW₁, X', ⟨L, hQ, e1, e2, e3⟩, st⟩ := X.specialBack hx (y := y) hy1 hown (mvT hZ w1) (mvT hZ w2) (mvT hZ w4) hy (backOf (W := W) hM hZ w4 w3 hf hl) (g := g) hg hsize (Steps.refl _) (a := a) (argsL := argsL) (rest := rest) hlen hstack hW hd (fun _ _ => ⟨rfl, eT, hc, hs⟩)
  rw [e1, e2, e3] at X'
  exact OGo.trans st (k v B.U L X' hQ)
/-- a call of an instance method -/
theorem OGo.callV (X : Stand p l e R s m args below meth c T locs cells slots) (hx : p.tables.exec = Jvm.exec) (hZ : Z.Warmed39 s.vm) {own C : String} {index : Nat} {y : MethodName} {bytes : ByteArray} {maxL : Nat} {ret : Option FieldType}
    (hown : s.vm.findClass own = some m.cls) (w1 : (Jvm.Cond.methodLink own index y).before a0 Z = true) (w5 : (Jvm.Cond.declares y).before a0 Z = true) (w6 : (Jvm.Cond.selects C y y).before a0 Z = true) (w2 : (Jvm.Cond.instanceMethod y).before a0 Z = true) (w3 : (Jvm.Cond.initialized y.cls).before a0 Z = true) (w4 : (Jvm.Cond.code y bytes maxL ret).before a0 Z = true)
    (hy : y.cls ≠ "java/lang/invoke/MethodHandle" ∧ y.cls ≠ "java/lang/invoke/VarHandle") {g : JFrame} {a : Addr} {argsL rest : List Value} {rm : Room} {Q' : Option Value → Heap → List Loc → Prop} (eT : T.heap = h) (E : Exa Z h a C) (hM : OMet l Z y bytes maxL ret [] rm (.ref a :: argsL).toArray h Q')
    (hg : g.method = m) (hsize : g.locals.size = c.maxLocals) (hlen : ∀ sig, parseMethodDescriptor y.desc = some sig → argsL.length = sig.parameters.length) (hstack : g.stack = argsL.reverse ++ .ref a :: rest) {W : Nat} (hW : 2 * g.monitorRoom + (rest.map fun v => v.category).sum ≤ W) (hd : decode c.code g.pc = .ok (.invokevirtual index, 3))
    (hf : rm.frames + 1 ≤ R.frames) (hl : W + (maxL + 11) + rm.locals ≤ R.locals) (hc : cells + rm.cells ≤ R.cells) (hs : slots + rm.slots ≤ R.slots)
    (k : ∀ (v : Option Value) (T' : State) (L' : List Loc), Stand p l e R s m args below meth c T' (locs ++ L') (cells + rm.cells) (slots + rm.slots) → Q' v T'.heap L' → OGo p e below G (T'.setTop { g with pc := g.pc + 3, stack := v.toList ++ rest })) : OGo p e below G (T.setTop g) := by
  obtain ⟨cB, kB, q1, q2, q3⟩ := isOf hZ eT E
  obtain ⟨v, vm₁, B, hW₁, X', ⟨L, hQ, e1, e2, e3⟩, st⟩ := X.virtualBack hx (y := y) (z := y) hown (mvT hZ w1) (mvT hZ w5) (notFace_of_selects (args := #[]) (mvT hZ w6)) (mvT hZ w6) (mvT hZ w2) hy (backOf (W := W) hM hZ w4 w3 hf hl) q1 q3 (g := g) hg hsize (Steps.refl _) (argsL := argsL) (rest := rest) hlen hstack hW hd (fun _ _ => ⟨rfl, eT, hc, hs⟩)
  rw [e1, e2, e3] at X'
  exact OGo.trans st (k v B.U L X' hQ)
/-- what a contract says that leaves the heap as it was -/
def OPure (w : Option Value) (h0 : Heap) (v : Option Value) (h : Heap) (L : List Loc) : Prop := v = w ∧ h = h0 ∧ L = []
/-- a static that a sheet says to hold an object of just this class -/
theorem own_enum {s : State} {args : Array Value} {C n d K : String} (hx : (Jvm.Cond.exactly (.static C n d) K).value args s none s [] = some true) (w1 : (Jvm.Cond.initialized C).before args s = true) (w2 : (Jvm.Cond.laysStatic C n d).before args s = true) :
    ∃ a, (Term.static C n d).eval args s none [] s = some (.ref a) ∧ Sta s s.heap C n d (.ref a) ∧ Exa s s.heap a K := by
  obtain ⟨a, ev⟩ := exa_v hx
  exact ⟨a, ev, Sta.start ev (Or.inr ⟨w1, w2⟩), Exa.start ev hx⟩
theorem own_efld {s : State} {args : Array Value} {t : Term} {C n d : String} {a : Addr} {k : Int32} (ev : t.eval args s none [] s = some (.ref a)) (h : (Jvm.Cond.eq (.field t C n d) (.int k)).value args s none s [] = some true) : Fld s s.heap a C n d (.int k) := by
  obtain ⟨x, y, h1, h2, h3, h4⟩ := cmp_v (Or.inl h)
  have h2' : y = .int k := (Option.some.inj h2).symm
  subst h2'
  obtain ⟨z, rfl⟩ := h4
  have q : (Jvm.Cond.eq (.field t C n d) (.int k)).value args s none s [] = some (decide (z = k)) := by simp [Cond.value, h1, h2]
  have e := gotT q h
  subst e
  exact Fld.start ((fld_at ev).symm.trans h1)
theorem own_sta_keep {h' : Heap} {C n d : String} {v : Value} {ws : List Addr} (F : Sta Z h C n d v) (K : Keep h h' ws) (q : ∀ x ∈ ws, ∀ cell : Cell, h[x]? = some cell → cell.vm.isStatics = false) : Sta Z h' C n d v := by
  obtain ⟨cf, i, k, f, st, cell, h1, h2, h3, h4, h5, h6, h7⟩ := F
  exact ⟨cf, i, k, f, st, cell, h1, h2, h3, h4, K.2.1 _ _ h5 (fun r => by rw [q _ r _ h5] at h6; cases h6), h6, h7⟩
theorem own_plain {a : Addr} {C : String} (F : Exa Z h a C) : ∀ cell : Cell, h[a]? = some cell → cell.vm.isStatics = false := fun cell hc => by
  obtain ⟨c', k, h1, h2, h3, h4, h5⟩ := F
  cases h1.symm.trans hc
  exact h4
theorem nar_b0 : nar .boolean 0 = 0 := by decide
theorem nar_b1 : nar .boolean 1 = 1 := by decide
theorem nar_bite {P : Prop} [Decidable P] {x y : Int32} : nar .boolean (if P then x else y) = if P then nar .boolean x else nar .boolean y := by split <;> rfl
end OwnGo
end Jvm.RoadKit
namespace Jvm.Pilot.@@N@@
open Jvm Jvm.ClassFile Sem Op Lib Jvm.Free Jvm.Stand Jvm.LawKit Jvm.RoadKit Bundle Jvm.Pilot.@@N@@.Jvm.D
theorem pd_0 : parseMethodDescriptor "(I)V" = some ⟨[.int], none⟩ := by decide +kernel
theorem pd_1 : parseMethodDescriptor "(IZJLjava/lang/String;Lcom/example/okstream/okstream/tap/Directive;Ljava/lang/String;)V" = some ⟨[.int, .boolean, .long, (.object "java/lang/String"), (.object "com/example/okstream/okstream/tap/Directive"), (.object "java/lang/String")], none⟩ := by decide +kernel
theorem pd_2 : parseMethodDescriptor "(J)J" = some ⟨[.long], some .long⟩ := by decide +kernel
theorem d_tli_0 : decode prog_11_method_1_code 0 = .ok (.aload_n 0, 1) := by decide +kernel
theorem d_tli_1 : decode prog_11_method_1_code 1 = .ok (.invokespecial 1, 3) := by decide +kernel
theorem d_tli_4 : decode prog_11_method_1_code 4 = .ok (.aload_n 0, 1) := by decide +kernel
theorem d_tli_5 : decode prog_11_method_1_code 5 = .ok (.iload_n 1, 1) := by decide +kernel
theorem d_tli_6 : decode prog_11_method_1_code 6 = .ok (.putfield 7, 3) := by decide +kernel
theorem d_tli_9 : decode prog_11_method_1_code 9 = .ok (.return_, 1) := by decide +kernel
theorem ef_tli (m : MethodId) (a1 : Addr) (x1 : Int32) : entryFrame m #[(.ref a1), (.int x1)] 2 = mkF m 0 #[.val (.ref a1), .val (.int x1)] [] := by first | (simp [entryFrame, mkF, argsToLocals, Value.category]; done) | rfl
theorem pn_tli : plainFor (⟨"com/example/okstream/okstream/tap/TapLine", "<init>", "(I)V"⟩ : MethodName) = true := by first | exact plainFor_of_name (by first | (simp [plainName, overriddenIn]; done) | decide +kernel) | decide +kernel
set_option maxRecDepth 65536 in
set_option maxHeartbeats 40000000 in
theorem rm_tli (l : Launch) (Z : State) (a0 : Array Value) (hw : ∀ d ∈ tables_1, d.before a0 Z = true) (a1 : Addr) (x1 : Int32)  (u_indent : Value) (u_ok : Value) (u_id : Value) (u_description : Value) (u_directive : Value) (u_reason : Value) (n0 : Nat) (h0 : Heap) (Z0 : n0 ≤ h0.size) (E0 : Exa Z h0 a1 "com/example/okstream/okstream/tap/TapLine$TestPoint") (F_indent : Fld Z h0 a1 "com/example/okstream/okstream/tap/TapLine" "indent" "I" u_indent) (F_ok : Fld Z h0 a1 "com/example/okstream/okstream/tap/TapLine$TestPoint" "ok" "Z" u_ok) (F_id : Fld Z h0 a1 "com/example/okstream/okstream/tap/TapLine$TestPoint" "id" "J" u_id) (F_description : Fld Z h0 a1 "com/example/okstream/okstream/tap/TapLine$TestPoint" "description" "Ljava/lang/String;" u_description) (F_directive : Fld Z h0 a1 "com/example/okstream/okstream/tap/TapLine$TestPoint" "directive" "Lcom/example/okstream/okstream/tap/Directive;" u_directive) (F_reason : Fld Z h0 a1 "com/example/okstream/okstream/tap/TapLine$TestPoint" "reason" "Ljava/lang/String;" u_reason) (g0 : n0 ≤ a1)  :
    OMet l Z (⟨"com/example/okstream/okstream/tap/TapLine", "<init>", "(I)V"⟩ : MethodName) prog_11_method_1_code 2 none [] ({ frames := 1, cells := 0, slots := 0, locals := 12 } : Room) #[(.ref a1), (.int x1)] h0 (fun v h L => v = none ∧ Fr n0 L ∧ Keep h0 h [a1] ∧ Exa Z h a1 "com/example/okstream/okstream/tap/TapLine$TestPoint" ∧ Fld Z h a1 "com/example/okstream/okstream/tap/TapLine" "indent" "I" (.int x1) ∧ Fld Z h a1 "com/example/okstream/okstream/tap/TapLine$TestPoint" "ok" "Z" u_ok ∧ Fld Z h a1 "com/example/okstream/okstream/tap/TapLine$TestPoint" "id" "J" u_id ∧ Fld Z h a1 "com/example/okstream/okstream/tap/TapLine$TestPoint" "description" "Ljava/lang/String;" u_description ∧ Fld Z h a1 "com/example/okstream/okstream/tap/TapLine$TestPoint" "directive" "Lcom/example/okstream/okstream/tap/Directive;" u_directive ∧ Fld Z h a1 "com/example/okstream/okstream/tap/TapLine$TestPoint" "reason" "Ljava/lang/String;" u_reason) := by
  refine OMet.of pn_tli ?_
  intro p e s m below meth c T0 X0 hx hby hml hown0 hnm hret hlk hZ e0
  have hown : s.vm.findClass "com/example/okstream/okstream/tap/TapLine" = some m.cls := hown0
  refine OGo.go (fun t k => castTop (ef_tli m a1 x1) k) ?_
  refine OGo.go (U' := T0.setTop (mkF m 1 #[.val (.ref a1), .val (.int x1)] [(.ref a1)])) (fun _ k => XS.aloadN X0.here hx rfl (hb hby d_tli_0) rfl rfl k) ?_
  obtain ⟨T1, X1, e1, st1⟩ := initO X0 hx hZ hown (hw _ (List.mem_of_getElem? (i := 22) rfl)) (hw _ (List.mem_of_getElem? (i := 23) rfl)) (hw _ (List.mem_of_getElem? (i := 24) rfl)) e0 (g := (mkF m 1 #[.val (.ref a1), .val (.int x1)] [(.ref a1)])) rfl (by rw [hml]; rfl) rfl (hb hby d_tli_1) (by decide) (W := 0) (by show 2 * 0 + _ ≤ _; exact Nat.le_of_eq rfl) (by decide)
  refine OGo.go (U' := T1.setTop (mkF m 4 #[.val (.ref a1), .val (.int x1)] [])) st1 ?_
  refine OGo.go (U' := T1.setTop (mkF m 5 #[.val (.ref a1), .val (.int x1)] [(.ref a1)])) (fun _ k => XS.aloadN X1.here hx rfl (hb hby d_tli_4) rfl rfl k) ?_
  refine OGo.go (U' := T1.setTop (mkF m 6 #[.val (.ref a1), .val (.int x1)] [(.int x1), (.ref a1)])) (fun _ k => XS.iloadN X1.here hx rfl (hb hby d_tli_5) rfl k) ?_
  obtain ⟨T2, h2, X2, e2, W2, st2⟩ := putF X1 hx hZ hown (host := "") (Or.inl (hw _ (List.mem_of_getElem? (i := 25) rfl))) Via.refl e1 F_indent E0 (Or.inr ⟨(hw _ (List.mem_of_getElem? (i := 26) rfl)), rfl, hnm⟩) (hw _ (List.mem_of_getElem? (i := 4) rfl)) (ty := .int) (by decide) rfl rfl (g := (mkF m 6 #[.val (.ref a1), .val (.int x1)] [(.int x1), (.ref a1)])) rfl rfl (hb hby d_tli_6)
  have N3 := Fr.snoc X2 (Fr.nil n0) g0
  have f4 := E0.wr W2
  have f5 := F_indent.same W2
  have f6 := F_ok.other W2 (Or.inr (slot_ne (Or.inr (hw _ (List.mem_of_getElem? (i := 28) rfl))) (Or.inr (hw _ (List.mem_of_getElem? (i := 26) rfl))) (by decide) (t := .boolean) (t' := .int) (by decide) (by decide)))
  have f7 := F_id.other W2 (Or.inr (slot_ne (Or.inr (hw _ (List.mem_of_getElem? (i := 30) rfl))) (Or.inr (hw _ (List.mem_of_getElem? (i := 26) rfl))) (by decide) (t := .long) (t' := .int) (by decide) (by decide)))
  have f8 := F_description.other W2 (Or.inr (slot_ne (Or.inr (hw _ (List.mem_of_getElem? (i := 32) rfl))) (Or.inr (hw _ (List.mem_of_getElem? (i := 26) rfl))) (by decide) (t := (.object "java/lang/String")) (t' := .int) (by decide) (by decide)))
  have f9 := F_directive.other W2 (Or.inr (slot_ne (Or.inr (hw _ (List.mem_of_getElem? (i := 34) rfl))) (Or.inr (hw _ (List.mem_of_getElem? (i := 26) rfl))) (by decide) (t := (.object "com/example/okstream/okstream/tap/Directive")) (t' := .int) (by decide) (by decide)))
  have f10 := F_reason.other W2 (Or.inr (slot_ne (Or.inr (hw _ (List.mem_of_getElem? (i := 36) rfl))) (Or.inr (hw _ (List.mem_of_getElem? (i := 26) rfl))) (by decide) (t := (.object "java/lang/String")) (t' := .int) (by decide) (by decide)))
  have K11 := (Keep.refl h0 [a1]).wr W2 (Or.inl (List.mem_of_getElem? (i := 0) rfl))
  refine OGo.go (U' := T2.setTop (mkF m 9 #[.val (.ref a1), .val (.int x1)] [])) st2 ?_
  refine OGo.ret0 X2 hx hret hlk (hb hby d_tli_9) ?_ (by decide) (by decide)
  rw [e2]
  exact ⟨rfl, N3, K11, f4, f5, f6, f7, f8, f9, f10⟩
theorem d_ini_0 : decode prog_18_method_1_code 0 = .ok (.aload_n 0, 1) := by decide +kernel
theorem d_ini_1 : decode prog_18_method_1_code 1 = .ok (.iload_n 1, 1) := by decide +kernel
theorem d_ini_2 : decode prog_18_method_1_code 2 = .ok (.invokespecial 1, 3) := by decide +kernel
theorem d_ini_5 : decode prog_18_method_1_code 5 = .ok (.aload_n 0, 1) := by decide +kernel
theorem d_ini_6 : decode prog_18_method_1_code 6 = .ok (.iload_n 2, 1) := by decide +kernel
theorem d_ini_7 : decode prog_18_method_1_code 7 = .ok (.putfield 7, 3) := by decide +kernel
theorem d_ini_10 : decode prog_18_method_1_code 10 = .ok (.aload_n 0, 1) := by decide +kernel
theorem d_ini_11 : decode prog_18_method_1_code 11 = .ok (.lload_n 3, 1) := by decide +kernel
theorem d_ini_12 : decode prog_18_method_1_code 12 = .ok (.putfield 13, 3) := by decide +kernel
theorem d_ini_15 : decode prog_18_method_1_code 15 = .ok (.aload_n 0, 1) := by decide +kernel
theorem d_ini_16 : decode prog_18_method_1_code 16 = .ok (.aload 5, 2) := by decide +kernel
theorem d_ini_18 : decode prog_18_method_1_code 18 = .ok (.putfield 17, 3) := by decide +kernel
theorem d_ini_21 : decode prog_18_method_1_code 21 = .ok (.aload_n 0, 1) := by decide +kernel
theorem d_ini_22 : decode prog_18_method_1_code 22 = .ok (.aload 6, 2) := by decide +kernel
theorem d_ini_24 : decode prog_18_method_1_code 24 = .ok (.putfield 21, 3) := by decide +kernel
theorem d_ini_27 : decode prog_18_method_1_code 27 = .ok (.aload_n 0, 1) := by decide +kernel
theorem d_ini_28 : decode prog_18_method_1_code 28 = .ok (.aload 7, 2) := by decide +kernel
theorem d_ini_30 : decode prog_18_method_1_code 30 = .ok (.putfield 25, 3) := by decide +kernel
theorem d_ini_33 : decode prog_18_method_1_code 33 = .ok (.return_, 1) := by decide +kernel
theorem ef_ini (m : MethodId) (a1 : Addr) (x1 : Int32) (x2 : Int32) (x3 : Int64) (x4 : Addr) (x5 : Addr) : entryFrame m #[(.ref a1), (.int x1), (.int x2), (.long x3), (.ref x4), (.ref x5), .null] 8 = mkF m 0 #[.val (.ref a1), .val (.int x1), .val (.int x2), .val (.long x3), .second, .val (.ref x4), .val (.ref x5), .val .null] [] := by first | (simp [entryFrame, mkF, argsToLocals, Value.category]; done) | rfl
theorem pn_ini : plainFor (⟨"com/example/okstream/okstream/tap/TapLine$TestPoint", "<init>", "(IZJLjava/lang/String;Lcom/example/okstream/okstream/tap/Directive;Ljava/lang/String;)V"⟩ : MethodName) = true := by first | exact plainFor_of_name (by first | (simp [plainName, overriddenIn]; done) | decide +kernel) | decide +kernel
set_option maxRecDepth 65536 in
set_option maxHeartbeats 40000000 in
theorem rm_ini (l : Launch) (Z : State) (a0 : Array Value) (hw : ∀ d ∈ tables_1, d.before a0 Z = true) (a1 : Addr) (x1 : Int32) (x2 : Int32) (x3 : Int64) (x4 : Addr) (x5 : Addr)  (u_indent : Value) (u_ok : Value) (u_id : Value) (u_description : Value) (u_directive : Value) (u_reason : Value) (n0 : Nat) (h0 : Heap) (Z0 : n0 ≤ h0.size) (E0 : Exa Z h0 a1 "com/example/okstream/okstream/tap/TapLine$TestPoint") (F_indent : Fld Z h0 a1 "com/example/okstream/okstream/tap/TapLine" "indent" "I" u_indent) (F_ok : Fld Z h0 a1 "com/example/okstream/okstream/tap/TapLine$TestPoint" "ok" "Z" u_ok) (F_id : Fld Z h0 a1 "com/example/okstream/okstream/tap/TapLine$TestPoint" "id" "J" u_id) (F_description : Fld Z h0 a1 "com/example/okstream/okstream/tap/TapLine$TestPoint" "description" "Ljava/lang/String;" u_description) (F_directive : Fld Z h0 a1 "com/example/okstream/okstream/tap/TapLine$TestPoint" "directive" "Lcom/example/okstream/okstream/tap/Directive;" u_directive) (F_reason : Fld Z h0 a1 "com/example/okstream/okstream/tap/TapLine$TestPoint" "reason" "Ljava/lang/String;" u_reason) (g0 : n0 ≤ a1)  :
    OMet l Z (⟨"com/example/okstream/okstream/tap/TapLine$TestPoint", "<init>", "(IZJLjava/lang/String;Lcom/example/okstream/okstream/tap/Directive;Ljava/lang/String;)V"⟩ : MethodName) prog_18_method_1_code 8 none [] ({ frames := 2, cells := 0, slots := 0, locals := 25 } : Room) #[(.ref a1), (.int x1), (.int x2), (.long x3), (.ref x4), (.ref x5), .null] h0 (fun v h L => v = none ∧ Fr n0 L ∧ Keep h0 h [a1] ∧ Exa Z h a1 "com/example/okstream/okstream/tap/TapLine$TestPoint" ∧ Fld Z h a1 "com/example/okstream/okstream/tap/TapLine" "indent" "I" (.int x1) ∧ Fld Z h a1 "com/example/okstream/okstream/tap/TapLine$TestPoint" "ok" "Z" (.int (nar .boolean x2)) ∧ Fld Z h a1 "com/example/okstream/okstream/tap/TapLine$TestPoint" "id" "J" (.long x3) ∧ Fld Z h a1 "com/example/okstream/okstream/tap/TapLine$TestPoint" "description" "Ljava/lang/String;" (.ref x4) ∧ Fld Z h a1 "com/example/okstream/okstream/tap/TapLine$TestPoint" "directive" "Lcom/example/okstream/okstream/tap/Directive;" (.ref x5) ∧ Fld Z h a1 "com/example/okstream/okstream/tap/TapLine$TestPoint" "reason" "Ljava/lang/String;" .null) := by
  refine OMet.of pn_ini ?_
  intro p e s m below meth c T0 X0 hx hby hml hown0 hnm hret hlk hZ e0
  have hown : s.vm.findClass "com/example/okstream/okstream/tap/TapLine$TestPoint" = some m.cls := hown0
  refine OGo.go (fun t k => castTop (ef_ini m a1 x1 x2 x3 x4 x5) k) ?_
  refine OGo.go (U' := T0.setTop (mkF m 1 #[.val (.ref a1), .val (.int x1), .val (.int x2), .val (.long x3), .second, .val (.ref x4), .val (.ref x5), .val .null] [(.ref a1)])) (fun _ k => XS.aloadN X0.here hx rfl (hb hby d_ini_0) rfl rfl k) ?_
  refine OGo.go (U' := T0.setTop (mkF m 2 #[.val (.ref a1), .val (.int x1), .val (.int x2), .val (.long x3), .second, .val (.ref x4), .val (.ref x5), .val .null] [(.int x1), (.ref a1)])) (fun _ k => XS.iloadN X0.here hx rfl (hb hby d_ini_1) rfl k) ?_
  refine OGo.callI X0 hx hZ (y := (⟨"com/example/okstream/okstream/tap/TapLine", "<init>", "(I)V"⟩ : MethodName)) rfl hown (hw _ (List.mem_of_getElem? (i := 17) rfl)) (hw _ (List.mem_of_getElem? (i := 18) rfl)) (hw _ (List.mem_of_getElem? (i := 20) rfl)) (hw _ (List.mem_of_getElem? (i := 21) rfl)) (by decide) (g := (mkF m 2 #[.val (.ref a1), .val (.int x1), .val (.int x2), .val (.long x3), .second, .val (.ref x4), .val (.ref x5), .val .null] [(.int x1), (.ref a1)])) (a := a1) (argsL := [(.int x1)]) (rest := []) e0 (rm_tli l Z a0 hw a1 x1 u_indent u_ok u_id u_description u_directive u_reason n0 h0 Z0 E0 F_indent F_ok F_id F_description F_directive F_reason g0) rfl (by rw [hml]; rfl) (lenOf pd_0 rfl) rfl (W := 0) (by show 2 * 0 + _ ≤ _; exact Nat.le_of_eq rfl) (hb hby d_ini_2) (by decide) (by decide) (by decide) (by decide) ?_
  rintro _ T1 L1 X1 ⟨rfl, N1, K1, Ea1, F1_0, F1_1, F1_2, F1_3, F1_4, F1_5⟩
  have e1 : T1.heap = T1.heap := rfl
  have N2 := Fr.app (Fr.nil n0) N1
  have f3 := E0.keep K1
  have K4 := (Keep.refl h0 [a1]).trans K1 (allS (P := fun x => x ∈ _ ∨ _ ≤ x) (Or.inl (List.mem_of_getElem? (i := 0) rfl)) all0)
  refine OGo.go (U' := T1.setTop (mkF m 6 #[.val (.ref a1), .val (.int x1), .val (.int x2), .val (.long x3), .second, .val (.ref x4), .val (.ref x5), .val .null] [(.ref a1)])) (fun _ k => XS.aloadN X1.here hx rfl (hb hby d_ini_5) rfl rfl k) ?_
  refine OGo.go (U' := T1.setTop (mkF m 7 #[.val (.ref a1), .val (.int x1), .val (.int x2), .val (.long x3), .second, .val (.ref x4), .val (.ref x5), .val .null] [(.int x2), (.ref a1)])) (fun _ k => XS.iloadN X1.here hx rfl (hb hby d_ini_6) rfl k) ?_
  obtain ⟨T5, h5, X5, e5, W5, st5⟩ := putFN X1 hx hZ hown (hw _ (List.mem_of_getElem? (i := 27) rfl)) Via.refl e1 F1_1 Ea1 (Or.inr ⟨(hw _ (List.mem_of_getElem? (i := 28) rfl)), rfl, hnm⟩) (hw _ (List.mem_of_getElem? (i := 4) rfl)) (ty := .boolean) (v' := (.int (nar .boolean x2))) (by decide) rfl (fits_nar_bool _) (g := (mkF m 7 #[.val (.ref a1), .val (.int x1), .val (.int x2), .val (.long x3), .second, .val (.ref x4), .val (.ref x5), .val .null] [(.int x2), (.ref a1)])) rfl rfl (hb hby d_ini_7)
  have N6 := Fr.snoc X5 N2 g0
  have f7 := Ea1.wr W5
  have f8 := F1_0.other W5 (Or.inr (slot_ne (Or.inr (hw _ (List.mem_of_getElem? (i := 26) rfl))) (Or.inr (hw _ (List.mem_of_getElem? (i := 28) rfl))) (by decide) (t := .int) (t' := .boolean) (by decide) (by decide)))
  have f9 := F1_1.same W5
  have f10 := F1_2.other W5 (Or.inr (slot_ne (Or.inr (hw _ (List.mem_of_getElem? (i := 30) rfl))) (Or.inr (hw _ (List.mem_of_getElem? (i := 28) rfl))) (by decide) (t := .long) (t' := .boolean) (by decide) (by decide)))
  have f11 := F1_3.other W5 (Or.inr (slot_ne (Or.inr (hw _ (List.mem_of_getElem? (i := 32) rfl))) (Or.inr (hw _ (List.mem_of_getElem? (i := 28) rfl))) (by decide) (t := (.object "java/lang/String")) (t' := .boolean) (by decide) (by decide)))
  have f12 := F1_4.other W5 (Or.inr (slot_ne (Or.inr (hw _ (List.mem_of_getElem? (i := 34) rfl))) (Or.inr (hw _ (List.mem_of_getElem? (i := 28) rfl))) (by decide) (t := (.object "com/example/okstream/okstream/tap/Directive")) (t' := .boolean) (by decide) (by decide)))
  have f13 := F1_5.other W5 (Or.inr (slot_ne (Or.inr (hw _ (List.mem_of_getElem? (i := 36) rfl))) (Or.inr (hw _ (List.mem_of_getElem? (i := 28) rfl))) (by decide) (t := (.object "java/lang/String")) (t' := .boolean) (by decide) (by decide)))
  have K14 := K4.wr W5 (Or.inl (List.mem_of_getElem? (i := 0) rfl))
  refine OGo.go (U' := T5.setTop (mkF m 10 #[.val (.ref a1), .val (.int x1), .val (.int x2), .val (.long x3), .second, .val (.ref x4), .val (.ref x5), .val .null] [])) st5 ?_
  refine OGo.go (U' := T5.setTop (mkF m 11 #[.val (.ref a1), .val (.int x1), .val (.int x2), .val (.long x3), .second, .val (.ref x4), .val (.ref x5), .val .null] [(.ref a1)])) (fun _ k => XS.aloadN X5.here hx rfl (hb hby d_ini_10) rfl rfl k) ?_
  refine OGo.go (U' := T5.setTop (mkF m 12 #[.val (.ref a1), .val (.int x1), .val (.int x2), .val (.long x3), .second, .val (.ref x4), .val (.ref x5), .val .null] [(.long x3), (.ref a1)])) (fun _ k => XS.lloadN X5.here hx rfl (hb hby d_ini_11) rfl k) ?_
  obtain ⟨T15, h15, X15, e15, W15, st15⟩ := putF X5 hx hZ hown (host := "") (Or.inl (hw _ (List.mem_of_getElem? (i := 29) rfl))) Via.refl e5 f10 f7 (Or.inr ⟨(hw _ (List.mem_of_getElem? (i := 30) rfl)), rfl, hnm⟩) (hw _ (List.mem_of_getElem? (i := 4) rfl)) (ty := .long) (by decide) rfl rfl (g := (mkF m 12 #[.val (.ref a1), .val (.int x1), .val (.int x2), .val (.long x3), .second, .val (.ref x4), .val (.ref x5), .val .null] [(.long x3), (.ref a1)])) rfl rfl (hb hby d_ini_12)
  have N16 := Fr.snoc X15 N6 g0
  have f17 := f7.wr W15
  have f18 := f8.other W15 (Or.inr (slot_ne (Or.inr (hw _ (List.mem_of_getElem? (i := 26) rfl))) (Or.inr (hw _ (List.mem_of_getElem? (i := 30) rfl))) (by decide) (t := .int) (t' := .long) (by decide) (by decide)))
  have f19 := f9.other W15 (Or.inr (slot_ne (Or.inr (hw _ (List.mem_of_getElem? (i := 28) rfl))) (Or.inr (hw _ (List.mem_of_getElem? (i := 30) rfl))) (by decide) (t := .boolean) (t' := .long) (by decide) (by decide)))
  have f20 := f10.same W15
  have f21 := f11.other W15 (Or.inr (slot_ne (Or.inr (hw _ (List.mem_of_getElem? (i := 32) rfl))) (Or.inr (hw _ (List.mem_of_getElem? (i := 30) rfl))) (by decide) (t := (.object "java/lang/String")) (t' := .long) (by decide) (by decide)))
  have f22 := f12.other W15 (Or.inr (slot_ne (Or.inr (hw _ (List.mem_of_getElem? (i := 34) rfl))) (Or.inr (hw _ (List.mem_of_getElem? (i := 30) rfl))) (by decide) (t := (.object "com/example/okstream/okstream/tap/Directive")) (t' := .long) (by decide) (by decide)))
  have f23 := f13.other W15 (Or.inr (slot_ne (Or.inr (hw _ (List.mem_of_getElem? (i := 36) rfl))) (Or.inr (hw _ (List.mem_of_getElem? (i := 30) rfl))) (by decide) (t := (.object "java/lang/String")) (t' := .long) (by decide) (by decide)))
  have K24 := K14.wr W15 (Or.inl (List.mem_of_getElem? (i := 0) rfl))
  refine OGo.go (U' := T15.setTop (mkF m 15 #[.val (.ref a1), .val (.int x1), .val (.int x2), .val (.long x3), .second, .val (.ref x4), .val (.ref x5), .val .null] [])) st15 ?_
  refine OGo.go (U' := T15.setTop (mkF m 16 #[.val (.ref a1), .val (.int x1), .val (.int x2), .val (.long x3), .second, .val (.ref x4), .val (.ref x5), .val .null] [(.ref a1)])) (fun _ k => XS.aloadN X15.here hx rfl (hb hby d_ini_15) rfl rfl k) ?_
  refine OGo.go (U' := T15.setTop (mkF m 18 #[.val (.ref a1), .val (.int x1), .val (.int x2), .val (.long x3), .second, .val (.ref x4), .val (.ref x5), .val .null] [(.ref x4), (.ref a1)])) (fun _ k => XS.aload X15.here hx rfl (hb hby d_ini_16) rfl rfl k) ?_
  obtain ⟨T25, h25, X25, e25, W25, st25⟩ := putF X15 hx hZ hown (host := "") (Or.inl (hw _ (List.mem_of_getElem? (i := 31) rfl))) Via.refl e15 f21 f17 (Or.inr ⟨(hw _ (List.mem_of_getElem? (i := 32) rfl)), rfl, hnm⟩) (hw _ (List.mem_of_getElem? (i := 4) rfl)) (ty := (.object "java/lang/String")) (by decide) rfl rfl (g := (mkF m 18 #[.val (.ref a1), .val (.int x1), .val (.int x2), .val (.long x3), .second, .val (.ref x4), .val (.ref x5), .val .null] [(.ref x4), (.ref a1)])) rfl rfl (hb hby d_ini_18)
  have N26 := Fr.snoc X25 N16 g0
  have f27 := f17.wr W25
  have f28 := f18.other W25 (Or.inr (slot_ne (Or.inr (hw _ (List.mem_of_getElem? (i := 26) rfl))) (Or.inr (hw _ (List.mem_of_getElem? (i := 32) rfl))) (by decide) (t := .int) (t' := (.object "java/lang/String")) (by decide) (by decide)))
  have f29 := f19.other W25 (Or.inr (slot_ne (Or.inr (hw _ (List.mem_of_getElem? (i := 28) rfl))) (Or.inr (hw _ (List.mem_of_getElem? (i := 32) rfl))) (by decide) (t := .boolean) (t' := (.object "java/lang/String")) (by decide) (by decide)))
  have f30 := f20.other W25 (Or.inr (slot_ne (Or.inr (hw _ (List.mem_of_getElem? (i := 30) rfl))) (Or.inr (hw _ (List.mem_of_getElem? (i := 32) rfl))) (by decide) (t := .long) (t' := (.object "java/lang/String")) (by decide) (by decide)))
  have f31 := f21.same W25
  have f32 := f22.other W25 (Or.inr (slot_ne (Or.inr (hw _ (List.mem_of_getElem? (i := 34) rfl))) (Or.inr (hw _ (List.mem_of_getElem? (i := 32) rfl))) (by decide) (t := (.object "com/example/okstream/okstream/tap/Directive")) (t' := (.object "java/lang/String")) (by decide) (by decide)))
  have f33 := f23.other W25 (Or.inr (slot_ne (Or.inr (hw _ (List.mem_of_getElem? (i := 36) rfl))) (Or.inr (hw _ (List.mem_of_getElem? (i := 32) rfl))) (by decide) (t := (.object "java/lang/String")) (t' := (.object "java/lang/String")) (by decide) (by decide)))
  have K34 := K24.wr W25 (Or.inl (List.mem_of_getElem? (i := 0) rfl))
  refine OGo.go (U' := T25.setTop (mkF m 21 #[.val (.ref a1), .val (.int x1), .val (.int x2), .val (.long x3), .second, .val (.ref x4), .val (.ref x5), .val .null] [])) st25 ?_
  refine OGo.go (U' := T25.setTop (mkF m 22 #[.val (.ref a1), .val (.int x1), .val (.int x2), .val (.long x3), .second, .val (.ref x4), .val (.ref x5), .val .null] [(.ref a1)])) (fun _ k => XS.aloadN X25.here hx rfl (hb hby d_ini_21) rfl rfl k) ?_
  refine OGo.go (U' := T25.setTop (mkF m 24 #[.val (.ref a1), .val (.int x1), .val (.int x2), .val (.long x3), .second, .val (.ref x4), .val (.ref x5), .val .null] [(.ref x5), (.ref a1)])) (fun _ k => XS.aload X25.here hx rfl (hb hby d_ini_22) rfl rfl k) ?_
  obtain ⟨T35, h35, X35, e35, W35, st35⟩ := putF X25 hx hZ hown (host := "") (Or.inl (hw _ (List.mem_of_getElem? (i := 33) rfl))) Via.refl e25 f32 f27 (Or.inr ⟨(hw _ (List.mem_of_getElem? (i := 34) rfl)), rfl, hnm⟩) (hw _ (List.mem_of_getElem? (i := 4) rfl)) (ty := (.object "com/example/okstream/okstream/tap/Directive")) (by decide) rfl rfl (g := (mkF m 24 #[.val (.ref a1), .val (.int x1), .val (.int x2), .val (.long x3), .second, .val (.ref x4), .val (.ref x5), .val .null] [(.ref x5), (.ref a1)])) rfl rfl (hb hby d_ini_24)
  have N36 := Fr.snoc X35 N26 g0
  have f37 := f27.wr W35
  have f38 := f28.other W35 (Or.inr (slot_ne (Or.inr (hw _ (List.mem_of_getElem? (i := 26) rfl))) (Or.inr (hw _ (List.mem_of_getElem? (i := 34) rfl))) (by decide) (t := .int) (t' := (.object "com/example/okstream/okstream/tap/Directive")) (by decide) (by decide)))
  have f39 := f29.other W35 (Or.inr (slot_ne (Or.inr (hw _ (List.mem_of_getElem? (i := 28) rfl))) (Or.inr (hw _ (List.mem_of_getElem? (i := 34) rfl))) (by decide) (t := .boolean) (t' := (.object "com/example/okstream/okstream/tap/Directive")) (by decide) (by decide)))
  have f40 := f30.other W35 (Or.inr (slot_ne (Or.inr (hw _ (List.mem_of_getElem? (i := 30) rfl))) (Or.inr (hw _ (List.mem_of_getElem? (i := 34) rfl))) (by decide) (t := .long) (t' := (.object "com/example/okstream/okstream/tap/Directive")) (by decide) (by decide)))
  have f41 := f31.other W35 (Or.inr (slot_ne (Or.inr (hw _ (List.mem_of_getElem? (i := 32) rfl))) (Or.inr (hw _ (List.mem_of_getElem? (i := 34) rfl))) (by decide) (t := (.object "java/lang/String")) (t' := (.object "com/example/okstream/okstream/tap/Directive")) (by decide) (by decide)))
  have f42 := f32.same W35
  have f43 := f33.other W35 (Or.inr (slot_ne (Or.inr (hw _ (List.mem_of_getElem? (i := 36) rfl))) (Or.inr (hw _ (List.mem_of_getElem? (i := 34) rfl))) (by decide) (t := (.object "java/lang/String")) (t' := (.object "com/example/okstream/okstream/tap/Directive")) (by decide) (by decide)))
  have K44 := K34.wr W35 (Or.inl (List.mem_of_getElem? (i := 0) rfl))
  refine OGo.go (U' := T35.setTop (mkF m 27 #[.val (.ref a1), .val (.int x1), .val (.int x2), .val (.long x3), .second, .val (.ref x4), .val (.ref x5), .val .null] [])) st35 ?_
  refine OGo.go (U' := T35.setTop (mkF m 28 #[.val (.ref a1), .val (.int x1), .val (.int x2), .val (.long x3), .second, .val (.ref x4), .val (.ref x5), .val .null] [(.ref a1)])) (fun _ k => XS.aloadN X35.here hx rfl (hb hby d_ini_27) rfl rfl k) ?_
  refine OGo.go (U' := T35.setTop (mkF m 30 #[.val (.ref a1), .val (.int x1), .val (.int x2), .val (.long x3), .second, .val (.ref x4), .val (.ref x5), .val .null] [.null, (.ref a1)])) (fun _ k => XS.aload X35.here hx rfl (hb hby d_ini_28) rfl rfl k) ?_
  obtain ⟨T45, h45, X45, e45, W45, st45⟩ := putF X35 hx hZ hown (host := "") (Or.inl (hw _ (List.mem_of_getElem? (i := 35) rfl))) Via.refl e35 f43 f37 (Or.inr ⟨(hw _ (List.mem_of_getElem? (i := 36) rfl)), rfl, hnm⟩) (hw _ (List.mem_of_getElem? (i := 4) rfl)) (ty := (.object "java/lang/String")) (by decide) rfl rfl (g := (mkF m 30 #[.val (.ref a1), .val (.int x1), .val (.int x2), .val (.long x3), .second, .val (.ref x4), .val (.ref x5), .val .null] [.null, (.ref a1)])) rfl rfl (hb hby d_ini_30)
  have N46 := Fr.snoc X45 N36 g0
  have f47 := f37.wr W45
  have f48 := f38.other W45 (Or.inr (slot_ne (Or.inr (hw _ (List.mem_of_getElem? (i := 26) rfl))) (Or.inr (hw _ (List.mem_of_getElem? (i := 36) rfl))) (by decide) (t := .int) (t' := (.object "java/lang/String")) (by decide) (by decide)))
  have f49 := f39.other W45 (Or.inr (slot_ne (Or.inr (hw _ (List.mem_of_getElem? (i := 28) rfl))) (Or.inr (hw _ (List.mem_of_getElem? (i := 36) rfl))) (by decide) (t := .boolean) (t' := (.object "java/lang/String")) (by decide) (by decide)))
  have f50 := f40.other W45 (Or.inr (slot_ne (Or.inr (hw _ (List.mem_of_getElem? (i := 30) rfl))) (Or.inr (hw _ (List.mem_of_getElem? (i := 36) rfl))) (by decide) (t := .long) (t' := (.object "java/lang/String")) (by decide) (by decide)))
  have f51 := f41.other W45 (Or.inr (slot_ne (Or.inr (hw _ (List.mem_of_getElem? (i := 32) rfl))) (Or.inr (hw _ (List.mem_of_getElem? (i := 36) rfl))) (by decide) (t := (.object "java/lang/String")) (t' := (.object "java/lang/String")) (by decide) (by decide)))
  have f52 := f42.other W45 (Or.inr (slot_ne (Or.inr (hw _ (List.mem_of_getElem? (i := 34) rfl))) (Or.inr (hw _ (List.mem_of_getElem? (i := 36) rfl))) (by decide) (t := (.object "com/example/okstream/okstream/tap/Directive")) (t' := (.object "java/lang/String")) (by decide) (by decide)))
  have f53 := f43.same W45
  have K54 := K44.wr W45 (Or.inl (List.mem_of_getElem? (i := 0) rfl))
  refine OGo.go (U' := T45.setTop (mkF m 33 #[.val (.ref a1), .val (.int x1), .val (.int x2), .val (.long x3), .second, .val (.ref x4), .val (.ref x5), .val .null] [])) st45 ?_
  refine OGo.ret0 X45 hx hret hlk (hb hby d_ini_33) ?_ (by decide) (by decide)
  rw [e45]
  exact ⟨rfl, N46, K54, f47, f48, f49, f50, f51, f52, f53⟩
def F_ida (u x1 : Int64) : Int64 := (if u = (-1 : Int64) then x1 else u)
theorem d_ida_0 : decode prog_18_method_4_code 0 = .ok (.aload_n 0, 1) := by decide +kernel
theorem d_ida_1 : decode prog_18_method_4_code 1 = .ok (.getfield 13, 3) := by decide +kernel
theorem d_ida_4 : decode prog_18_method_4_code 4 = .ok (.ldc2_w 28, 3) := by decide +kernel
theorem d_ida_7 : decode prog_18_method_4_code 7 = .ok (.lcmp, 1) := by decide +kernel
theorem d_ida_8 : decode prog_18_method_4_code 8 = .ok (.ifCond .ne 7, 3) := by decide +kernel
theorem d_ida_11 : decode prog_18_method_4_code 11 = .ok (.lload_n 1, 1) := by decide +kernel
theorem d_ida_12 : decode prog_18_method_4_code 12 = .ok (.goto 7, 3) := by decide +kernel
theorem d_ida_15 : decode prog_18_method_4_code 15 = .ok (.aload_n 0, 1) := by decide +kernel
theorem d_ida_16 : decode prog_18_method_4_code 16 = .ok (.getfield 13, 3) := by decide +kernel
theorem d_ida_19 : decode prog_18_method_4_code 19 = .ok (.lreturn, 1) := by decide +kernel
theorem ef_ida (m : MethodId) (a1 : Addr) (x1 : Int64) : entryFrame m #[(.ref a1), (.long x1)] 3 = mkF m 0 #[.val (.ref a1), .val (.long x1), .second] [] := by first | (simp [entryFrame, mkF, argsToLocals, Value.category]; done) | rfl
theorem pn_ida : plainFor (⟨"com/example/okstream/okstream/tap/TapLine$TestPoint", "idAt", "(J)J"⟩ : MethodName) = true := by first | exact plainFor_of_name (by first | (simp [plainName, overriddenIn]; done) | decide +kernel) | decide +kernel
set_option maxRecDepth 65536 in
set_option maxHeartbeats 40000000 in
theorem rm_ida (l : Launch) (Z : State) (a0 : Array Value) (hw : ∀ d ∈ tables_1, d.before a0 Z = true) (a1 : Addr) (x1 : Int64) (u : Int64) (h0 : Heap) (f1 : Fld Z h0 a1 "com/example/okstream/okstream/tap/TapLine$TestPoint" "id" "J" (.long u)) :
    OMet l Z (⟨"com/example/okstream/okstream/tap/TapLine$TestPoint", "idAt", "(J)J"⟩ : MethodName) prog_18_method_4_code 3 (some .long) [] ({ frames := 0, cells := 0, slots := 0, locals := 0 } : Room) #[(.ref a1), (.long x1)] h0 (OPure (some (.long (F_ida u x1))) h0) := by
  refine OMet.of pn_ida ?_
  intro p e s m below meth c T0 X0 hx hby hml hown0 hnm hret hlk hZ e0
  have hown : s.vm.findClass "com/example/okstream/okstream/tap/TapLine$TestPoint" = some m.cls := hown0
  refine OGo.go (fun t k => castTop (ef_ida m a1 x1) k) ?_
  refine OGo.go (U' := T0.setTop (mkF m 1 #[.val (.ref a1), .val (.long x1), .second] [(.ref a1)])) (fun _ k => XS.aloadN X0.here hx rfl (hb hby d_ida_0) rfl rfl k) ?_
  obtain ⟨T1, X1, e1, st1⟩ := getF X0 hx hZ hown (host := "") (Or.inl (hw _ (List.mem_of_getElem? (i := 29) rfl))) Via.refl e0 f1 (g := (mkF m 1 #[.val (.ref a1), .val (.long x1), .second] [(.ref a1)])) rfl rfl (hb hby d_ida_1)
  refine OGo.go (U' := T1.setTop (mkF m 4 #[.val (.ref a1), .val (.long x1), .second] [(.long u)])) st1 ?_
  refine OGo.go (U' := T1.setTop (mkF m 7 #[.val (.ref a1), .val (.long x1), .second] [(.long (-1 : Int64)), (.long u)])) (fun _ k => X1.ldc2Long hx hown (mvT hZ (hw _ (List.mem_of_getElem? (i := 42) rfl))) (g := (mkF m 4 #[.val (.ref a1), .val (.long x1), .second] [(.long u)])) rfl (hb hby d_ida_4) _ k) ?_
  refine OGo.go (U' := T1.setTop (mkF m 8 #[.val (.ref a1), .val (.long x1), .second] [(.int (lcmpW u (-1 : Int64)))])) (fun _ k => XS.lcmp X1.here hx rfl (hb hby d_ida_7) rfl k) ?_
  by_cases hc2 : u = (-1 : Int64)
  · skip
    refine OGo.go (U' := T1.setTop (mkF m 11 #[.val (.ref a1), .val (.long x1), .second] [])) (fun _ k => XS.ifNo X1.here hx rfl (hb hby d_ida_8) rfl ((if0 _ _).trans (teq ((lw_eq u (-1 : Int64)).mpr hc2)).2) k) ?_
    refine OGo.go (U' := T1.setTop (mkF m 12 #[.val (.ref a1), .val (.long x1), .second] [(.long x1)])) (fun _ k => XS.lloadN X1.here hx rfl (hb hby d_ida_11) rfl k) ?_
    refine OGo.go (U' := T1.setTop (mkF m 19 #[.val (.ref a1), .val (.long x1), .second] [(.long x1)])) (fun _ k => XS.goto X1.here hx rfl (pc0 := 12) (pc' := 19) rfl (hb hby d_ida_12) (by decide) (by decide) k) ?_
    refine OGo.retJ X1 hx hret hlk (hb hby d_ida_19) ?_ (by decide) (by decide)
    refine ⟨?_, e1, rfl⟩
    rw [F_ida]
    rw [if_pos hc2]
  · skip
    refine OGo.go (U' := T1.setTop (mkF m 15 #[.val (.ref a1), .val (.long x1), .second] [])) (fun _ k => XS.ifYes X1.here hx rfl (pc0 := 8) (pc' := 15) rfl (hb hby d_ida_8) rfl ((if0 _ _).trans (feq (fun q => hc2 ((lw_eq u (-1 : Int64)).mp q))).2) (by decide) (by decide) k) ?_
    refine OGo.go (U' := T1.setTop (mkF m 16 #[.val (.ref a1), .val (.long x1), .second] [(.ref a1)])) (fun _ k => XS.aloadN X1.here hx rfl (hb hby d_ida_15) rfl rfl k) ?_
    obtain ⟨T3, X3, e3, st3⟩ := getF X1 hx hZ hown (host := "") (Or.inl (hw _ (List.mem_of_getElem? (i := 29) rfl))) Via.refl e1 f1 (g := (mkF m 16 #[.val (.ref a1), .val (.long x1), .second] [(.ref a1)])) rfl rfl (hb hby d_ida_16)
    refine OGo.go (U' := T3.setTop (mkF m 19 #[.val (.ref a1), .val (.long x1), .second] [(.long u)])) st3 ?_
    refine OGo.retJ X3 hx hret hlk (hb hby d_ida_19) ?_ (by decide) (by decide)
    refine ⟨?_, e3, rfl⟩
    rw [F_ida]
    rw [if_neg hc2]
theorem own_ret_0 {x0 : Int64} {x1 : Int64} {x2 : Int32} {z2 : Int32} {z5 : Int64} {z13 : Int32} {y44 : Int64} {z46 : Int64} {z49 : Int32} (hz2 : z2 = (if (x2 &&& (1 : Int32)) = (0 : Int32) then (0 : Int32) else (1 : Int32))) (hz5 : z5 = (if z2 = (0 : Int32) then x0 else (-1 : Int64))) (hz13 : z13 = (if (x2 &&& (8 : Int32)) = (0 : Int32) then (0 : Int32) else (1 : Int32))) (hy44 : y44 = (F_ida z5 x1)) (hz46 : z46 = (if z5 = (-1 : Int64) then x1 else z5)) (hz49 : z49 = (if y44 = z46 then (1 : Int32) else (0 : Int32))) : some (Value.int (nar .boolean z49)) = some (Value.int 1) := by
  have q : y44 = z46 := by rw [hy44, hz46]; rfl
  rw [if_pos q] at hz49
  subst hz49
  rfl
theorem ef_law (m : MethodId) (x0 : Int64) (x1 : Int64) (x2 : Int32) (x3 : Int32) : entryFrame m #[(.long x0), (.long x1), (.int x2), (.int x3)] maxLocals = mkF m 0 #[.val (.long x0), .second, .val (.long x1), .second, .val (.int x2), .val (.int x3), .unset, .unset, .unset, .unset, .unset, .unset, .unset, .unset, .unset, .unset, .unset] [] := by first | (simp [entryFrame, mkF, argsToLocals, Value.category, maxLocals]; done) | rfl
theorem pn_law : plainFor x = true := by first | exact plainFor_of_name (by first | (simp [plainName, overriddenIn]; done) | decide +kernel) | decide +kernel
set_option maxRecDepth 65536 in
set_option maxHeartbeats 40000000 in
theorem rm_law (l : Launch) (Z : State) (a0 : Array Value) (hw : ∀ d ∈ tables_1, d.before a0 Z = true) (x0 : Int64) (x1 : Int64) (x2 : Int32) (x3 : Int32) (r0 r1 r2 : Addr) (n0 : Nat) (h0 : Heap) (Z0 : n0 ≤ h0.size) (S0 : Sta Z h0 "com/example/okstream/okstream/tap/Directive" "NONE" "Lcom/example/okstream/okstream/tap/Directive;" (.ref r0)) (S1 : Sta Z h0 "com/example/okstream/okstream/tap/Directive" "SKIP" "Lcom/example/okstream/okstream/tap/Directive;" (.ref r1)) (S2 : Sta Z h0 "com/example/okstream/okstream/tap/Directive" "TODO" "Lcom/example/okstream/okstream/tap/Directive;" (.ref r2)) :
    OMetW l Z x code maxLocals ret tables_1 room_1 #[(.long x0), (.long x1), (.int x2), (.int x3)] h0 (fun v h L => v = some (.int 1) ∧ Fr n0 L) := by
  refine OMetW.of pn_law ?_
  intro p e s m below meth c T0 X0 hx hby hml hown0 hnm hret hlk hZ e0
  have hown : s.vm.findClass "com/example/okstream/okstream/tap/TestPointIdAtPinLaw" = some m.cls := hown0
  refine OGo.go (fun t k => castTop (ef_law m x0 x1 x2 x3) k) ?_
  have wS : ∀ a ∈ Bundle.stringAtoms, a.before a0 Z = true := fun d hd => by
    simp only [Bundle.stringAtoms, List.mem_cons, List.not_mem_nil, or_false] at hd
    rcases hd with rfl | rfl | rfl | rfl | rfl | rfl | rfl
    all_goals first | exact hw _ (List.mem_of_getElem? (i := 7) rfl) | exact hw _ (List.mem_of_getElem? (i := 8) rfl) | exact hw _ (List.mem_of_getElem? (i := 9) rfl) | exact hw _ (List.mem_of_getElem? (i := 10) rfl) | exact hw _ (List.mem_of_getElem? (i := 11) rfl) | exact hw _ (List.mem_of_getElem? (i := 12) rfl) | exact hw _ (List.mem_of_getElem? (i := 13) rfl)
  refine OGo.go (U' := T0.setTop (mkF m 2 #[.val (.long x0), .second, .val (.long x1), .second, .val (.int x2), .val (.int x3), .unset, .unset, .unset, .unset, .unset, .unset, .unset, .unset, .unset, .unset, .unset] [(.int x2)])) (fun _ k => XS.iload X0.here hx rfl (hb hby at_0) rfl k) ?_
  refine OGo.go (U' := T0.setTop (mkF m 3 #[.val (.long x0), .second, .val (.long x1), .second, .val (.int x2), .val (.int x3), .unset, .unset, .unset, .unset, .unset, .unset, .unset, .unset, .unset, .unset, .unset] [(.int (1 : Int32)), (.int x2)])) (fun _ k => XS.iconst X0.here hx rfl (hb hby at_2) k) ?_
  refine OGo.go (U' := T0.setTop (mkF m 4 #[.val (.long x0), .second, .val (.long x1), .second, .val (.int x2), .val (.int x3), .unset, .unset, .unset, .unset, .unset, .unset, .unset, .unset, .unset, .unset, .unset] [(.int (x2 &&& (1 : Int32)))])) (fun _ k => XS.iand X0.here hx rfl (hb hby at_3) rfl k) ?_
  refine OGo.ite1 (P := (x2 &&& (1 : Int32)) = (0 : Int32)) (fun (z2 : Int32) => T0.setTop (mkF m 12 #[.val (.long x0), .second, .val (.long x1), .second, .val (.int x2), .val (.int x3), .unset, .unset, .unset, .unset, .unset, .unset, .unset, .unset, .unset, .unset, .unset] [(.int z2)])) (x := (0 : Int32)) (y := (1 : Int32)) (fun hc1 k3 => ?_) (fun hc1 k3 => ?_) ?_
  · skip
    refine OGo.go (U' := T0.setTop (mkF m 11 #[.val (.long x0), .second, .val (.long x1), .second, .val (.int x2), .val (.int x3), .unset, .unset, .unset, .unset, .unset, .unset, .unset, .unset, .unset, .unset, .unset] [])) (fun _ k => XS.ifYes X0.here hx rfl (pc0 := 4) (pc' := 11) rfl (hb hby at_4) rfl ((if0 _ _).trans (teq hc1).1) (by decide) (by decide) k) ?_
    refine OGo.go (U' := T0.setTop (mkF m 12 #[.val (.long x0), .second, .val (.long x1), .second, .val (.int x2), .val (.int x3), .unset, .unset, .unset, .unset, .unset, .unset, .unset, .unset, .unset, .unset, .unset] [(.int (0 : Int32))])) (fun _ k => XS.iconst X0.here hx rfl (hb hby at_11) k) ?_
    exact k3
  · skip
    refine OGo.go (U' := T0.setTop (mkF m 7 #[.val (.long x0), .second, .val (.long x1), .second, .val (.int x2), .val (.int x3), .unset, .unset, .unset, .unset, .unset, .unset, .unset, .unset, .unset, .unset, .unset] [])) (fun _ k => XS.ifNo X0.here hx rfl (hb hby at_4) rfl ((if0 _ _).trans (feq hc1).1) k) ?_
    refine OGo.go (U' := T0.setTop (mkF m 8 #[.val (.long x0), .second, .val (.long x1), .second, .val (.int x2), .val (.int x3), .unset, .unset, .unset, .unset, .unset, .unset, .unset, .unset, .unset, .unset, .unset] [(.int (1 : Int32))])) (fun _ k => XS.iconst X0.here hx rfl (hb hby at_7) k) ?_
    refine OGo.go (U' := T0.setTop (mkF m 12 #[.val (.long x0), .second, .val (.long x1), .second, .val (.int x2), .val (.int x3), .unset, .unset, .unset, .unset, .unset, .unset, .unset, .unset, .unset, .unset, .unset] [(.int (1 : Int32))])) (fun _ k => XS.goto X0.here hx rfl (pc0 := 8) (pc' := 12) rfl (hb hby at_8) (by decide) (by decide) k) ?_
    exact k3
  intro z2 hz2
  refine OGo.go (U' := T0.setTop (mkF m 14 #[.val (.long x0), .second, .val (.long x1), .second, .val (.int x2), .val (.int x3), .val (.int z2), .unset, .unset, .unset, .unset, .unset, .unset, .unset, .unset, .unset, .unset] [])) (fun _ k => XS.istore X0.here hx rfl (hb hby at_12) rfl (l' := #[.val (.long x0), .second, .val (.long x1), .second, .val (.int x2), .val (.int x3), .val (.int z2), .unset, .unset, .unset, .unset, .unset, .unset, .unset, .unset, .unset, .unset]) rfl k) ?_
  refine OGo.go (U' := T0.setTop (mkF m 16 #[.val (.long x0), .second, .val (.long x1), .second, .val (.int x2), .val (.int x3), .val (.int z2), .unset, .unset, .unset, .unset, .unset, .unset, .unset, .unset, .unset, .unset] [(.int z2)])) (fun _ k => XS.iload X0.here hx rfl (hb hby at_14) rfl k) ?_
  refine OGo.ite1 (P := z2 = (0 : Int32)) (fun (z5 : Int64) => T0.setTop (mkF m 26 #[.val (.long x0), .second, .val (.long x1), .second, .val (.int x2), .val (.int x3), .val (.int z2), .unset, .unset, .unset, .unset, .unset, .unset, .unset, .unset, .unset, .unset] [(.long z5)])) (x := x0) (y := (-1 : Int64)) (fun hc4 k6 => ?_) (fun hc4 k6 => ?_) ?_
  · skip
    refine OGo.go (U' := T0.setTop (mkF m 25 #[.val (.long x0), .second, .val (.long x1), .second, .val (.int x2), .val (.int x3), .val (.int z2), .unset, .unset, .unset, .unset, .unset, .unset, .unset, .unset, .unset, .unset] [])) (fun _ k => XS.ifYes X0.here hx rfl (pc0 := 16) (pc' := 25) rfl (hb hby at_16) rfl ((if0 _ _).trans (teq hc4).1) (by decide) (by decide) k) ?_
    refine OGo.go (U' := T0.setTop (mkF m 26 #[.val (.long x0), .second, .val (.long x1), .second, .val (.int x2), .val (.int x3), .val (.int z2), .unset, .unset, .unset, .unset, .unset, .unset, .unset, .unset, .unset, .unset] [(.long x0)])) (fun _ k => XS.lloadN X0.here hx rfl (hb hby at_25) rfl k) ?_
    exact k6
  · skip
    refine OGo.go (U' := T0.setTop (mkF m 19 #[.val (.long x0), .second, .val (.long x1), .second, .val (.int x2), .val (.int x3), .val (.int z2), .unset, .unset, .unset, .unset, .unset, .unset, .unset, .unset, .unset, .unset] [])) (fun _ k => XS.ifNo X0.here hx rfl (hb hby at_16) rfl ((if0 _ _).trans (feq hc4).1) k) ?_
    refine OGo.go (U' := T0.setTop (mkF m 22 #[.val (.long x0), .second, .val (.long x1), .second, .val (.int x2), .val (.int x3), .val (.int z2), .unset, .unset, .unset, .unset, .unset, .unset, .unset, .unset, .unset, .unset] [(.long (-1 : Int64))])) (fun _ k => X0.ldc2Long hx hown (mvT hZ (hw _ (List.mem_of_getElem? (i := 43) rfl))) (g := (mkF m 19 #[.val (.long x0), .second, .val (.long x1), .second, .val (.int x2), .val (.int x3), .val (.int z2), .unset, .unset, .unset, .unset, .unset, .unset, .unset, .unset, .unset, .unset] [])) rfl (hb hby at_19) _ k) ?_
    refine OGo.go (U' := T0.setTop (mkF m 26 #[.val (.long x0), .second, .val (.long x1), .second, .val (.int x2), .val (.int x3), .val (.int z2), .unset, .unset, .unset, .unset, .unset, .unset, .unset, .unset, .unset, .unset] [(.long (-1 : Int64))])) (fun _ k => XS.goto X0.here hx rfl (pc0 := 22) (pc' := 26) rfl (hb hby at_22) (by decide) (by decide) k) ?_
    exact k6
  intro z5 hz5
  refine OGo.go (U' := T0.setTop (mkF m 28 #[.val (.long x0), .second, .val (.long x1), .second, .val (.int x2), .val (.int x3), .val (.int z2), .val (.long z5), .second, .unset, .unset, .unset, .unset, .unset, .unset, .unset, .unset] [])) (fun _ k => XS.lstore X0.here hx rfl (hb hby at_26) rfl (l' := #[.val (.long x0), .second, .val (.long x1), .second, .val (.int x2), .val (.int x3), .val (.int z2), .val (.long z5), .second, .unset, .unset, .unset, .unset, .unset, .unset, .unset, .unset]) rfl k) ?_
  refine OGo.go (U' := T0.setTop (mkF m 30 #[.val (.long x0), .second, .val (.long x1), .second, .val (.int x2), .val (.int x3), .val (.int z2), .val (.long z5), .second, .unset, .unset, .unset, .unset, .unset, .unset, .unset, .unset] [(.int x2)])) (fun _ k => XS.iload X0.here hx rfl (hb hby at_28) rfl k) ?_
  refine OGo.go (U' := T0.setTop (mkF m 31 #[.val (.long x0), .second, .val (.long x1), .second, .val (.int x2), .val (.int x3), .val (.int z2), .val (.long z5), .second, .unset, .unset, .unset, .unset, .unset, .unset, .unset, .unset] [(.int (1 : Int32)), (.int x2)])) (fun _ k => XS.iconst X0.here hx rfl (hb hby at_30) k) ?_
  refine OGo.go (U' := T0.setTop (mkF m 32 #[.val (.long x0), .second, .val (.long x1), .second, .val (.int x2), .val (.int x3), .val (.int z2), .val (.long z5), .second, .unset, .unset, .unset, .unset, .unset, .unset, .unset, .unset] [(.int ((x2.toUInt32 >>> ((1 : Int32) &&& 31).toUInt32).toInt32))])) (fun _ k => XS.iushr X0.here hx rfl (hb hby at_31) rfl k) ?_
  refine OGo.go (U' := T0.setTop (mkF m 33 #[.val (.long x0), .second, .val (.long x1), .second, .val (.int x2), .val (.int x3), .val (.int z2), .val (.long z5), .second, .unset, .unset, .unset, .unset, .unset, .unset, .unset, .unset] [(.int (3 : Int32)), (.int ((x2.toUInt32 >>> ((1 : Int32) &&& 31).toUInt32).toInt32))])) (fun _ k => XS.iconst X0.here hx rfl (hb hby at_32) k) ?_
  refine OGo.go (U' := T0.setTop (mkF m 34 #[.val (.long x0), .second, .val (.long x1), .second, .val (.int x2), .val (.int x3), .val (.int z2), .val (.long z5), .second, .unset, .unset, .unset, .unset, .unset, .unset, .unset, .unset] [(.int (((x2.toUInt32 >>> ((1 : Int32) &&& 31).toUInt32).toInt32) &&& (3 : Int32)))])) (fun _ k => XS.iand X0.here hx rfl (hb hby at_33) rfl k) ?_
  refine OGo.go (U' := T0.setTop (mkF m 36 #[.val (.long x0), .second, .val (.long x1), .second, .val (.int x2), .val (.int x3), .val (.int z2), .val (.long z5), .second, .val (.int (((x2.toUInt32 >>> ((1 : Int32) &&& 31).toUInt32).toInt32) &&& (3 : Int32))), .unset, .unset, .unset, .unset, .unset, .unset, .unset] [])) (fun _ k => XS.istore X0.here hx rfl (hb hby at_34) rfl (l' := #[.val (.long x0), .second, .val (.long x1), .second, .val (.int x2), .val (.int x3), .val (.int z2), .val (.long z5), .second, .val (.int (((x2.toUInt32 >>> ((1 : Int32) &&& 31).toUInt32).toInt32) &&& (3 : Int32))), .unset, .unset, .unset, .unset, .unset, .unset, .unset]) rfl k) ?_
  refine OGo.cut2 (α := State × Addr) (H := fun q => Stand p l e room_1 s m #[(.long x0), (.long x1), (.int x2), (.int x3)] below meth c q.1 [] 0 0 ∧ q.1.heap = h0) (fun q => q.1.setTop (mkF m 68 #[.val (.long x0), .second, .val (.long x1), .second, .val (.int x2), .val (.int x3), .val (.int z2), .val (.long z5), .second, .val (.int (((x2.toUInt32 >>> ((1 : Int32) &&& 31).toUInt32).toInt32) &&& (3 : Int32))), .val (.ref q.2), .unset, .unset, .unset, .unset, .unset, .unset] [])) (fun tail => ?_) (fun q hq => ?_)
  · skip
    refine OGo.go (U' := T0.setTop (mkF m 38 #[.val (.long x0), .second, .val (.long x1), .second, .val (.int x2), .val (.int x3), .val (.int z2), .val (.long z5), .second, .val (.int (((x2.toUInt32 >>> ((1 : Int32) &&& 31).toUInt32).toInt32) &&& (3 : Int32))), .unset, .unset, .unset, .unset, .unset, .unset, .unset] [(.int (((x2.toUInt32 >>> ((1 : Int32) &&& 31).toUInt32).toInt32) &&& (3 : Int32)))])) (fun _ k => XS.iload X0.here hx rfl (hb hby at_36) rfl k) ?_
    by_cases hc7 : (((x2.toUInt32 >>> ((1 : Int32) &&& 31).toUInt32).toInt32) &&& (3 : Int32)) = (0 : Int32)
    · skip
      refine OGo.go (U' := T0.setTop (mkF m 41 #[.val (.long x0), .second, .val (.long x1), .second, .val (.int x2), .val (.int x3), .val (.int z2), .val (.long z5), .second, .val (.int (((x2.toUInt32 >>> ((1 : Int32) &&& 31).toUInt32).toInt32) &&& (3 : Int32))), .unset, .unset, .unset, .unset, .unset, .unset, .unset] [])) (fun _ k => XS.ifNo X0.here hx rfl (hb hby at_38) rfl ((if0 _ _).trans (teq hc7).2) k) ?_
      obtain ⟨T8, X8, e8, st8⟩ := getS2 X0 hx hZ hown (host := "") (Or.inl (hw _ (List.mem_of_getElem? (i := 0) rfl))) Via.refl e0 S0 (g := (mkF m 41 #[.val (.long x0), .second, .val (.long x1), .second, .val (.int x2), .val (.int x3), .val (.int z2), .val (.long z5), .second, .val (.int (((x2.toUInt32 >>> ((1 : Int32) &&& 31).toUInt32).toInt32) &&& (3 : Int32))), .unset, .unset, .unset, .unset, .unset, .unset, .unset] [])) rfl (hb hby at_41)
      refine OGo.go (U' := T8.setTop (mkF m 44 #[.val (.long x0), .second, .val (.long x1), .second, .val (.int x2), .val (.int x3), .val (.int z2), .val (.long z5), .second, .val (.int (((x2.toUInt32 >>> ((1 : Int32) &&& 31).toUInt32).toInt32) &&& (3 : Int32))), .unset, .unset, .unset, .unset, .unset, .unset, .unset] [(.ref r0)])) st8 ?_
      refine OGo.go (U' := T8.setTop (mkF m 46 #[.val (.long x0), .second, .val (.long x1), .second, .val (.int x2), .val (.int x3), .val (.int z2), .val (.long z5), .second, .val (.int (((x2.toUInt32 >>> ((1 : Int32) &&& 31).toUInt32).toInt32) &&& (3 : Int32))), .val (.ref r0), .unset, .unset, .unset, .unset, .unset, .unset] [])) (fun _ k => XS.astore X8.here hx rfl (hb hby at_44) rfl rfl (l' := #[.val (.long x0), .second, .val (.long x1), .second, .val (.int x2), .val (.int x3), .val (.int z2), .val (.long z5), .second, .val (.int (((x2.toUInt32 >>> ((1 : Int32) &&& 31).toUInt32).toInt32) &&& (3 : Int32))), .val (.ref r0), .unset, .unset, .unset, .unset, .unset, .unset]) rfl k) ?_
      refine OGo.go (U' := T8.setTop (mkF m 68 #[.val (.long x0), .second, .val (.long x1), .second, .val (.int x2), .val (.int x3), .val (.int z2), .val (.long z5), .second, .val (.int (((x2.toUInt32 >>> ((1 : Int32) &&& 31).toUInt32).toInt32) &&& (3 : Int32))), .val (.ref r0), .unset, .unset, .unset, .unset, .unset, .unset] [])) (fun _ k => XS.goto X8.here hx rfl (pc0 := 46) (pc' := 68) rfl (hb hby at_46) (by decide) (by decide) k) ?_
      exact tail (T8, r0) ⟨X8, e8⟩
    · skip
      refine OGo.go (U' := T0.setTop (mkF m 49 #[.val (.long x0), .second, .val (.long x1), .second, .val (.int x2), .val (.int x3), .val (.int z2), .val (.long z5), .second, .val (.int (((x2.toUInt32 >>> ((1 : Int32) &&& 31).toUInt32).toInt32) &&& (3 : Int32))), .unset, .unset, .unset, .unset, .unset, .unset, .unset] [])) (fun _ k => XS.ifYes X0.here hx rfl (pc0 := 38) (pc' := 49) rfl (hb hby at_38) rfl ((if0 _ _).trans (feq hc7).2) (by decide) (by decide) k) ?_
      refine OGo.go (U' := T0.setTop (mkF m 51 #[.val (.long x0), .second, .val (.long x1), .second, .val (.int x2), .val (.int x3), .val (.int z2), .val (.long z5), .second, .val (.int (((x2.toUInt32 >>> ((1 : Int32) &&& 31).toUInt32).toInt32) &&& (3 : Int32))), .unset, .unset, .unset, .unset, .unset, .unset, .unset] [(.int (((x2.toUInt32 >>> ((1 : Int32) &&& 31).toUInt32).toInt32) &&& (3 : Int32)))])) (fun _ k => XS.iload X0.here hx rfl (hb hby at_49) rfl k) ?_
      refine OGo.go (U' := T0.setTop (mkF m 52 #[.val (.long x0), .second, .val (.long x1), .second, .val (.int x2), .val (.int x3), .val (.int z2), .val (.long z5), .second, .val (.int (((x2.toUInt32 >>> ((1 : Int32) &&& 31).toUInt32).toInt32) &&& (3 : Int32))), .unset, .unset, .unset, .unset, .unset, .unset, .unset] [(.int (1 : Int32)), (.int (((x2.toUInt32 >>> ((1 : Int32) &&& 31).toUInt32).toInt32) &&& (3 : Int32)))])) (fun _ k => XS.iconst X0.here hx rfl (hb hby at_51) k) ?_
      by_cases hc9 : (((x2.toUInt32 >>> ((1 : Int32) &&& 31).toUInt32).toInt32) &&& (3 : Int32)) = (1 : Int32)
      · skip
        refine OGo.go (U' := T0.setTop (mkF m 55 #[.val (.long x0), .second, .val (.long x1), .second, .val (.int x2), .val (.int x3), .val (.int z2), .val (.long z5), .second, .val (.int (((x2.toUInt32 >>> ((1 : Int32) &&& 31).toUInt32).toInt32) &&& (3 : Int32))), .unset, .unset, .unset, .unset, .unset, .unset, .unset] [])) (fun _ k => XS.icmpNo X0.here hx rfl (hb hby at_52) rfl (teq hc9).2 k) ?_
        obtain ⟨T10, X10, e10, st10⟩ := getS2 X0 hx hZ hown (host := "") (Or.inl (hw _ (List.mem_of_getElem? (i := 46) rfl))) Via.refl e0 S1 (g := (mkF m 55 #[.val (.long x0), .second, .val (.long x1), .second, .val (.int x2), .val (.int x3), .val (.int z2), .val (.long z5), .second, .val (.int (((x2.toUInt32 >>> ((1 : Int32) &&& 31).toUInt32).toInt32) &&& (3 : Int32))), .unset, .unset, .unset, .unset, .unset, .unset, .unset] [])) rfl (hb hby at_55)
        refine OGo.go (U' := T10.setTop (mkF m 58 #[.val (.long x0), .second, .val (.long x1), .second, .val (.int x2), .val (.int x3), .val (.int z2), .val (.long z5), .second, .val (.int (((x2.toUInt32 >>> ((1 : Int32) &&& 31).toUInt32).toInt32) &&& (3 : Int32))), .unset, .unset, .unset, .unset, .unset, .unset, .unset] [(.ref r1)])) st10 ?_
        refine OGo.go (U' := T10.setTop (mkF m 60 #[.val (.long x0), .second, .val (.long x1), .second, .val (.int x2), .val (.int x3), .val (.int z2), .val (.long z5), .second, .val (.int (((x2.toUInt32 >>> ((1 : Int32) &&& 31).toUInt32).toInt32) &&& (3 : Int32))), .val (.ref r1), .unset, .unset, .unset, .unset, .unset, .unset] [])) (fun _ k => XS.astore X10.here hx rfl (hb hby at_58) rfl rfl (l' := #[.val (.long x0), .second, .val (.long x1), .second, .val (.int x2), .val (.int x3), .val (.int z2), .val (.long z5), .second, .val (.int (((x2.toUInt32 >>> ((1 : Int32) &&& 31).toUInt32).toInt32) &&& (3 : Int32))), .val (.ref r1), .unset, .unset, .unset, .unset, .unset, .unset]) rfl k) ?_
        refine OGo.go (U' := T10.setTop (mkF m 68 #[.val (.long x0), .second, .val (.long x1), .second, .val (.int x2), .val (.int x3), .val (.int z2), .val (.long z5), .second, .val (.int (((x2.toUInt32 >>> ((1 : Int32) &&& 31).toUInt32).toInt32) &&& (3 : Int32))), .val (.ref r1), .unset, .unset, .unset, .unset, .unset, .unset] [])) (fun _ k => XS.goto X10.here hx rfl (pc0 := 60) (pc' := 68) rfl (hb hby at_60) (by decide) (by decide) k) ?_
        exact tail (T10, r1) ⟨X10, e10⟩
      · skip
        refine OGo.go (U' := T0.setTop (mkF m 63 #[.val (.long x0), .second, .val (.long x1), .second, .val (.int x2), .val (.int x3), .val (.int z2), .val (.long z5), .second, .val (.int (((x2.toUInt32 >>> ((1 : Int32) &&& 31).toUInt32).toInt32) &&& (3 : Int32))), .unset, .unset, .unset, .unset, .unset, .unset, .unset] [])) (fun _ k => XS.icmpYes X0.here hx rfl (pc0 := 52) (pc' := 63) rfl (hb hby at_52) rfl (feq hc9).2 (by decide) (by decide) k) ?_
        obtain ⟨T11, X11, e11, st11⟩ := getS2 X0 hx hZ hown (host := "") (Or.inl (hw _ (List.mem_of_getElem? (i := 44) rfl))) Via.refl e0 S2 (g := (mkF m 63 #[.val (.long x0), .second, .val (.long x1), .second, .val (.int x2), .val (.int x3), .val (.int z2), .val (.long z5), .second, .val (.int (((x2.toUInt32 >>> ((1 : Int32) &&& 31).toUInt32).toInt32) &&& (3 : Int32))), .unset, .unset, .unset, .unset, .unset, .unset, .unset] [])) rfl (hb hby at_63)
        refine OGo.go (U' := T11.setTop (mkF m 66 #[.val (.long x0), .second, .val (.long x1), .second, .val (.int x2), .val (.int x3), .val (.int z2), .val (.long z5), .second, .val (.int (((x2.toUInt32 >>> ((1 : Int32) &&& 31).toUInt32).toInt32) &&& (3 : Int32))), .unset, .unset, .unset, .unset, .unset, .unset, .unset] [(.ref r2)])) st11 ?_
        refine OGo.go (U' := T11.setTop (mkF m 68 #[.val (.long x0), .second, .val (.long x1), .second, .val (.int x2), .val (.int x3), .val (.int z2), .val (.long z5), .second, .val (.int (((x2.toUInt32 >>> ((1 : Int32) &&& 31).toUInt32).toInt32) &&& (3 : Int32))), .val (.ref r2), .unset, .unset, .unset, .unset, .unset, .unset] [])) (fun _ k => XS.astore X11.here hx rfl (hb hby at_66) rfl rfl (l' := #[.val (.long x0), .second, .val (.long x1), .second, .val (.int x2), .val (.int x3), .val (.int z2), .val (.long z5), .second, .val (.int (((x2.toUInt32 >>> ((1 : Int32) &&& 31).toUInt32).toInt32) &&& (3 : Int32))), .val (.ref r2), .unset, .unset, .unset, .unset, .unset, .unset]) rfl k) ?_
        exact tail (T11, r2) ⟨X11, e11⟩
  · skip
    obtain ⟨T1, d1⟩ := q
    obtain ⟨X1, e1⟩ := hq
    dsimp only at X1 e1 ⊢
    refine OGo.go (U' := T1.setTop (mkF m 70 #[.val (.long x0), .second, .val (.long x1), .second, .val (.int x2), .val (.int x3), .val (.int z2), .val (.long z5), .second, .val (.int (((x2.toUInt32 >>> ((1 : Int32) &&& 31).toUInt32).toInt32) &&& (3 : Int32))), .val (.ref d1), .unset, .unset, .unset, .unset, .unset, .unset] [(.int x2)])) (fun _ k => XS.iload X1.here hx rfl (hb hby at_68) rfl k) ?_
    refine OGo.go (U' := T1.setTop (mkF m 72 #[.val (.long x0), .second, .val (.long x1), .second, .val (.int x2), .val (.int x3), .val (.int z2), .val (.long z5), .second, .val (.int (((x2.toUInt32 >>> ((1 : Int32) &&& 31).toUInt32).toInt32) &&& (3 : Int32))), .val (.ref d1), .unset, .unset, .unset, .unset, .unset, .unset] [(.int (8 : Int32)), (.int x2)])) (fun _ k => XS.bipush X1.here hx rfl (hb hby at_70) k) ?_
    refine OGo.go (U' := T1.setTop (mkF m 73 #[.val (.long x0), .second, .val (.long x1), .second, .val (.int x2), .val (.int x3), .val (.int z2), .val (.long z5), .second, .val (.int (((x2.toUInt32 >>> ((1 : Int32) &&& 31).toUInt32).toInt32) &&& (3 : Int32))), .val (.ref d1), .unset, .unset, .unset, .unset, .unset, .unset] [(.int (x2 &&& (8 : Int32)))])) (fun _ k => XS.iand X1.here hx rfl (hb hby at_72) rfl k) ?_
    refine OGo.ite1 (P := (x2 &&& (8 : Int32)) = (0 : Int32)) (fun (z13 : Int32) => T1.setTop (mkF m 81 #[.val (.long x0), .second, .val (.long x1), .second, .val (.int x2), .val (.int x3), .val (.int z2), .val (.long z5), .second, .val (.int (((x2.toUInt32 >>> ((1 : Int32) &&& 31).toUInt32).toInt32) &&& (3 : Int32))), .val (.ref d1), .unset, .unset, .unset, .unset, .unset, .unset] [(.int z13)])) (x := (0 : Int32)) (y := (1 : Int32)) (fun hc12 k14 => ?_) (fun hc12 k14 => ?_) ?_
    · skip
      refine OGo.go (U' := T1.setTop (mkF m 80 #[.val (.long x0), .second, .val (.long x1), .second, .val (.int x2), .val (.int x3), .val (.int z2), .val (.long z5), .second, .val (.int (((x2.toUInt32 >>> ((1 : Int32) &&& 31).toUInt32).toInt32) &&& (3 : Int32))), .val (.ref d1), .unset, .unset, .unset, .unset, .unset, .unset] [])) (fun _ k => XS.ifYes X1.here hx rfl (pc0 := 73) (pc' := 80) rfl (hb hby at_73) rfl ((if0 _ _).trans (teq hc12).1) (by decide) (by decide) k) ?_
      refine OGo.go (U' := T1.setTop (mkF m 81 #[.val (.long x0), .second, .val (.long x1), .second, .val (.int x2), .val (.int x3), .val (.int z2), .val (.long z5), .second, .val (.int (((x2.toUInt32 >>> ((1 : Int32) &&& 31).toUInt32).toInt32) &&& (3 : Int32))), .val (.ref d1), .unset, .unset, .unset, .unset, .unset, .unset] [(.int (0 : Int32))])) (fun _ k => XS.iconst X1.here hx rfl (hb hby at_80) k) ?_
      exact k14
    · skip
      refine OGo.go (U' := T1.setTop (mkF m 76 #[.val (.long x0), .second, .val (.long x1), .second, .val (.int x2), .val (.int x3), .val (.int z2), .val (.long z5), .second, .val (.int (((x2.toUInt32 >>> ((1 : Int32) &&& 31).toUInt32).toInt32) &&& (3 : Int32))), .val (.ref d1), .unset, .unset, .unset, .unset, .unset, .unset] [])) (fun _ k => XS.ifNo X1.here hx rfl (hb hby at_73) rfl ((if0 _ _).trans (feq hc12).1) k) ?_
      refine OGo.go (U' := T1.setTop (mkF m 77 #[.val (.long x0), .second, .val (.long x1), .second, .val (.int x2), .val (.int x3), .val (.int z2), .val (.long z5), .second, .val (.int (((x2.toUInt32 >>> ((1 : Int32) &&& 31).toUInt32).toInt32) &&& (3 : Int32))), .val (.ref d1), .unset, .unset, .unset, .unset, .unset, .unset] [(.int (1 : Int32))])) (fun _ k => XS.iconst X1.here hx rfl (hb hby at_76) k) ?_
      refine OGo.go (U' := T1.setTop (mkF m 81 #[.val (.long x0), .second, .val (.long x1), .second, .val (.int x2), .val (.int x3), .val (.int z2), .val (.long z5), .second, .val (.int (((x2.toUInt32 >>> ((1 : Int32) &&& 31).toUInt32).toInt32) &&& (3 : Int32))), .val (.ref d1), .unset, .unset, .unset, .unset, .unset, .unset] [(.int (1 : Int32))])) (fun _ k => XS.goto X1.here hx rfl (pc0 := 77) (pc' := 81) rfl (hb hby at_77) (by decide) (by decide) k) ?_
      exact k14
    intro z13 hz13
    refine OGo.go (U' := T1.setTop (mkF m 83 #[.val (.long x0), .second, .val (.long x1), .second, .val (.int x2), .val (.int x3), .val (.int z2), .val (.long z5), .second, .val (.int (((x2.toUInt32 >>> ((1 : Int32) &&& 31).toUInt32).toInt32) &&& (3 : Int32))), .val (.ref d1), .val (.int z13), .unset, .unset, .unset, .unset, .unset] [])) (fun _ k => XS.istore X1.here hx rfl (hb hby at_81) rfl (l' := #[.val (.long x0), .second, .val (.long x1), .second, .val (.int x2), .val (.int x3), .val (.int z2), .val (.long z5), .second, .val (.int (((x2.toUInt32 >>> ((1 : Int32) &&& 31).toUInt32).toInt32) &&& (3 : Int32))), .val (.ref d1), .val (.int z13), .unset, .unset, .unset, .unset, .unset]) rfl k) ?_
    obtain ⟨T15, h15, X15, e15, E15, A15, D15, -, st15⟩ := newO X1 hx hZ hown (hw _ (List.mem_of_getElem? (i := 3) rfl)) (hw _ (List.mem_of_getElem? (i := 4) rfl)) (hw _ (List.mem_of_getElem? (i := 5) rfl)) e1 (g := (mkF m 83 #[.val (.long x0), .second, .val (.long x1), .second, .val (.int x2), .val (.int x3), .val (.int z2), .val (.long z5), .second, .val (.int (((x2.toUInt32 >>> ((1 : Int32) &&& 31).toUInt32).toInt32) &&& (3 : Int32))), .val (.ref d1), .val (.int z13), .unset, .unset, .unset, .unset, .unset] [])) rfl (hb hby at_83) (by decide) (by decide)
    obtain ⟨b15, gb15⟩ : ∃ z, z = h0.size := ⟨_, rfl⟩
    rw [← gb15] at A15 D15 st15
    have g16 : n0 ≤ b15 := Nat.le_trans Z0 (Nat.le_of_eq gb15.symm)
    have f17 := S0.ext E15
    have f18 := S1.ext E15
    have f19 := S2.ext E15
    have f20 : Fld Z h15 b15 "com/example/okstream/okstream/tap/TapLine" "indent" "I" (.int (0 : Int32)) := D15 (Or.inr (hw _ (List.mem_of_getElem? (i := 26) rfl))) (ty := .int) (by decide)
    have f21 : Fld Z h15 b15 "com/example/okstream/okstream/tap/TapLine$TestPoint" "ok" "Z" (.int (0 : Int32)) := D15 (Or.inr (hw _ (List.mem_of_getElem? (i := 28) rfl))) (ty := .boolean) (by decide)
    have f22 : Fld Z h15 b15 "com/example/okstream/okstream/tap/TapLine$TestPoint" "id" "J" (.long (0 : Int64)) := D15 (Or.inr (hw _ (List.mem_of_getElem? (i := 30) rfl))) (ty := .long) (by decide)
    have f23 : Fld Z h15 b15 "com/example/okstream/okstream/tap/TapLine$TestPoint" "description" "Ljava/lang/String;" .null := D15 (Or.inr (hw _ (List.mem_of_getElem? (i := 32) rfl))) (ty := (.object "java/lang/String")) (by decide)
    have f24 : Fld Z h15 b15 "com/example/okstream/okstream/tap/TapLine$TestPoint" "directive" "Lcom/example/okstream/okstream/tap/Directive;" .null := D15 (Or.inr (hw _ (List.mem_of_getElem? (i := 34) rfl))) (ty := (.object "com/example/okstream/okstream/tap/Directive")) (by decide)
    have f25 : Fld Z h15 b15 "com/example/okstream/okstream/tap/TapLine$TestPoint" "reason" "Ljava/lang/String;" .null := D15 (Or.inr (hw _ (List.mem_of_getElem? (i := 36) rfl))) (ty := (.object "java/lang/String")) (by decide)
    refine OGo.go (U' := T15.setTop (mkF m 86 #[.val (.long x0), .second, .val (.long x1), .second, .val (.int x2), .val (.int x3), .val (.int z2), .val (.long z5), .second, .val (.int (((x2.toUInt32 >>> ((1 : Int32) &&& 31).toUInt32).toInt32) &&& (3 : Int32))), .val (.ref d1), .val (.int z13), .unset, .unset, .unset, .unset, .unset] [(.ref b15)])) st15 ?_
    refine OGo.go (U' := T15.setTop (mkF m 87 #[.val (.long x0), .second, .val (.long x1), .second, .val (.int x2), .val (.int x3), .val (.int z2), .val (.long z5), .second, .val (.int (((x2.toUInt32 >>> ((1 : Int32) &&& 31).toUInt32).toInt32) &&& (3 : Int32))), .val (.ref d1), .val (.int z13), .unset, .unset, .unset, .unset, .unset] [(.ref b15), (.ref b15)])) (fun _ k => XS.dup X15.here hx rfl (hb hby at_86) rfl rfl k) ?_
    refine OGo.go (U' := T15.setTop (mkF m 89 #[.val (.long x0), .second, .val (.long x1), .second, .val (.int x2), .val (.int x3), .val (.int z2), .val (.long z5), .second, .val (.int (((x2.toUInt32 >>> ((1 : Int32) &&& 31).toUInt32).toInt32) &&& (3 : Int32))), .val (.ref d1), .val (.int z13), .unset, .unset, .unset, .unset, .unset] [(.int x3), (.ref b15), (.ref b15)])) (fun _ k => XS.iload X15.here hx rfl (hb hby at_87) rfl k) ?_
    refine OGo.go (U' := T15.setTop (mkF m 91 #[.val (.long x0), .second, .val (.long x1), .second, .val (.int x2), .val (.int x3), .val (.int z2), .val (.long z5), .second, .val (.int (((x2.toUInt32 >>> ((1 : Int32) &&& 31).toUInt32).toInt32) &&& (3 : Int32))), .val (.ref d1), .val (.int z13), .unset, .unset, .unset, .unset, .unset] [(.int z13), (.int x3), (.ref b15), (.ref b15)])) (fun _ k => XS.iload X15.here hx rfl (hb hby at_89) rfl k) ?_
    refine OGo.go (U' := T15.setTop (mkF m 93 #[.val (.long x0), .second, .val (.long x1), .second, .val (.int x2), .val (.int x3), .val (.int z2), .val (.long z5), .second, .val (.int (((x2.toUInt32 >>> ((1 : Int32) &&& 31).toUInt32).toInt32) &&& (3 : Int32))), .val (.ref d1), .val (.int z13), .unset, .unset, .unset, .unset, .unset] [(.long z5), (.int z13), (.int x3), (.ref b15), (.ref b15)])) (fun _ k => XS.lload X15.here hx rfl (hb hby at_91) rfl k) ?_
    obtain ⟨a26, T26, h26, k26, X26, e26, E26, hS26, hk26, hZ26, hown26, st26⟩ := ldcS (s := s) (vm0 := s.vm) X15 hx hZ hown (hw _ (List.mem_of_getElem? (i := 6) rfl)) wS e15 ((State.WarmedH.refl s).since 0) (Nat.zero_le _) (g := (mkF m 93 #[.val (.long x0), .second, .val (.long x1), .second, .val (.int x2), .val (.int x3), .val (.int z2), .val (.long z5), .second, .val (.int (((x2.toUInt32 >>> ((1 : Int32) &&& 31).toUInt32).toInt32) &&& (3 : Int32))), .val (.ref d1), .val (.int z13), .unset, .unset, .unset, .unset, .unset] [(.long z5), (.int z13), (.int x3), (.ref b15), (.ref b15)])) rfl (hb hby at_93) (n := 0) (by decide) (by decide) (by decide) (by decide)
    have f27 := f17.ext E26
    have f28 := f18.ext E26
    have f29 := f19.ext E26
    have f30 := A15.ext E26
    have f31 := f20.ext E26
    have f32 := f21.ext E26
    have f33 := f22.ext E26
    have f34 := f23.ext E26
    have f35 := f24.ext E26
    have f36 := f25.ext E26
    refine OGo.go (U' := T26.setTop (mkF m 95 #[.val (.long x0), .second, .val (.long x1), .second, .val (.int x2), .val (.int x3), .val (.int z2), .val (.long z5), .second, .val (.int (((x2.toUInt32 >>> ((1 : Int32) &&& 31).toUInt32).toInt32) &&& (3 : Int32))), .val (.ref d1), .val (.int z13), .unset, .unset, .unset, .unset, .unset] [(.ref a26), (.long z5), (.int z13), (.int x3), (.ref b15), (.ref b15)])) st26 ?_
    refine OGo.go (U' := T26.setTop (mkF m 97 #[.val (.long x0), .second, .val (.long x1), .second, .val (.int x2), .val (.int x3), .val (.int z2), .val (.long z5), .second, .val (.int (((x2.toUInt32 >>> ((1 : Int32) &&& 31).toUInt32).toInt32) &&& (3 : Int32))), .val (.ref d1), .val (.int z13), .unset, .unset, .unset, .unset, .unset] [(.ref d1), (.ref a26), (.long z5), (.int z13), (.int x3), (.ref b15), (.ref b15)])) (fun _ k => XS.aload X26.here hx rfl (hb hby at_95) rfl rfl k) ?_
    refine OGo.go (U' := T26.setTop (mkF m 98 #[.val (.long x0), .second, .val (.long x1), .second, .val (.int x2), .val (.int x3), .val (.int z2), .val (.long z5), .second, .val (.int (((x2.toUInt32 >>> ((1 : Int32) &&& 31).toUInt32).toInt32) &&& (3 : Int32))), .val (.ref d1), .val (.int z13), .unset, .unset, .unset, .unset, .unset] [.null, (.ref d1), (.ref a26), (.long z5), (.int z13), (.int x3), (.ref b15), (.ref b15)])) (fun _ k => XS.aconstNull X26.here hx rfl (hb hby at_97) k) ?_
    refine OGo.callI X26 hx hZ26 (y := (⟨"com/example/okstream/okstream/tap/TapLine$TestPoint", "<init>", "(IZJLjava/lang/String;Lcom/example/okstream/okstream/tap/Directive;Ljava/lang/String;)V"⟩ : MethodName)) rfl hown26 (hw _ (List.mem_of_getElem? (i := 14) rfl)) (hw _ (List.mem_of_getElem? (i := 15) rfl)) (hw _ (List.mem_of_getElem? (i := 5) rfl)) (hw _ (List.mem_of_getElem? (i := 16) rfl)) (by decide) (g := (mkF m 98 #[.val (.long x0), .second, .val (.long x1), .second, .val (.int x2), .val (.int x3), .val (.int z2), .val (.long z5), .second, .val (.int (((x2.toUInt32 >>> ((1 : Int32) &&& 31).toUInt32).toInt32) &&& (3 : Int32))), .val (.ref d1), .val (.int z13), .unset, .unset, .unset, .unset, .unset] [.null, (.ref d1), (.ref a26), (.long z5), (.int z13), (.int x3), (.ref b15), (.ref b15)])) (a := b15) (argsL := [(.int x3), (.int z13), (.long z5), (.ref a26), (.ref d1), .null]) (rest := [(.ref b15)]) e26 (rm_ini l Z a0 hw b15 x3 z13 z5 a26 d1 (.int (0 : Int32)) (.int (0 : Int32)) (.long (0 : Int64)) .null .null .null n0 h26 (Nat.le_trans (Nat.le_trans Z0 E15.1) E26.1) f30 f31 f32 f33 f34 f35 f36 g16) rfl (by rw [hml]; rfl) (lenOf pd_1 rfl) rfl (W := 1) (by show 2 * 0 + _ ≤ _; exact Nat.le_of_eq rfl) (hb hby at_98) (by decide) (by decide) (by decide) (by decide) ?_
    rintro _ T37 L37 X37 ⟨rfl, N37, K37, Ea37, F37_0, F37_1, F37_2, F37_3, F37_4, F37_5⟩
    have e37 : T37.heap = T37.heap := rfl
    have N38 := Fr.app (Fr.nil n0) N37
    have f39 := own_sta_keep f27 K37 (allS (P := fun x => ∀ cell : Cell, _ → cell.vm.isStatics = false) (own_plain f30) all0)
    have f40 := own_sta_keep f28 K37 (allS (P := fun x => ∀ cell : Cell, _ → cell.vm.isStatics = false) (own_plain f30) all0)
    have f41 := own_sta_keep f29 K37 (allS (P := fun x => ∀ cell : Cell, _ → cell.vm.isStatics = false) (own_plain f30) all0)
    have f42 := f30.keep K37
    refine OGo.go (U' := T37.setTop (mkF m 103 #[.val (.long x0), .second, .val (.long x1), .second, .val (.int x2), .val (.int x3), .val (.int z2), .val (.long z5), .second, .val (.int (((x2.toUInt32 >>> ((1 : Int32) &&& 31).toUInt32).toInt32) &&& (3 : Int32))), .val (.ref d1), .val (.int z13), .val (.ref b15), .unset, .unset, .unset, .unset] [])) (fun _ k => XS.astore X37.here hx rfl (hb hby at_101) rfl rfl (l' := #[.val (.long x0), .second, .val (.long x1), .second, .val (.int x2), .val (.int x3), .val (.int z2), .val (.long z5), .second, .val (.int (((x2.toUInt32 >>> ((1 : Int32) &&& 31).toUInt32).toInt32) &&& (3 : Int32))), .val (.ref d1), .val (.int z13), .val (.ref b15), .unset, .unset, .unset, .unset]) rfl k) ?_
    refine OGo.go (U' := T37.setTop (mkF m 105 #[.val (.long x0), .second, .val (.long x1), .second, .val (.int x2), .val (.int x3), .val (.int z2), .val (.long z5), .second, .val (.int (((x2.toUInt32 >>> ((1 : Int32) &&& 31).toUInt32).toInt32) &&& (3 : Int32))), .val (.ref d1), .val (.int z13), .val (.ref b15), .unset, .unset, .unset, .unset] [(.ref b15)])) (fun _ k => XS.aload X37.here hx rfl (hb hby at_103) rfl rfl k) ?_
    refine OGo.go (U' := T37.setTop (mkF m 106 #[.val (.long x0), .second, .val (.long x1), .second, .val (.int x2), .val (.int x3), .val (.int z2), .val (.long z5), .second, .val (.int (((x2.toUInt32 >>> ((1 : Int32) &&& 31).toUInt32).toInt32) &&& (3 : Int32))), .val (.ref d1), .val (.int z13), .val (.ref b15), .unset, .unset, .unset, .unset] [(.long x1), (.ref b15)])) (fun _ k => XS.lloadN X37.here hx rfl (hb hby at_105) rfl k) ?_
    refine OGo.callV X37 hx hZ26 (y := (⟨"com/example/okstream/okstream/tap/TapLine$TestPoint", "idAt", "(J)J"⟩ : MethodName)) (C := "com/example/okstream/okstream/tap/TapLine$TestPoint") hown26 (hw _ (List.mem_of_getElem? (i := 37) rfl)) (hw _ (List.mem_of_getElem? (i := 38) rfl)) (hw _ (List.mem_of_getElem? (i := 40) rfl)) (hw _ (List.mem_of_getElem? (i := 39) rfl)) (hw _ (List.mem_of_getElem? (i := 5) rfl)) (hw _ (List.mem_of_getElem? (i := 41) rfl)) (by decide) (g := (mkF m 106 #[.val (.long x0), .second, .val (.long x1), .second, .val (.int x2), .val (.int x3), .val (.int z2), .val (.long z5), .second, .val (.int (((x2.toUInt32 >>> ((1 : Int32) &&& 31).toUInt32).toInt32) &&& (3 : Int32))), .val (.ref d1), .val (.int z13), .val (.ref b15), .unset, .unset, .unset, .unset] [(.long x1), (.ref b15)])) (a := b15) (argsL := [(.long x1)]) (rest := []) e37 Ea37 (rm_ida l Z a0 hw b15 x1 z5 T37.heap F37_2) rfl (by rw [hml]; rfl) (lenOf pd_2 rfl) rfl (W := 0) (by show 2 * 0 + _ ≤ _; exact Nat.le_of_eq rfl) (hb hby at_106) (by decide) (by decide) (by decide) (by decide) ?_
    rintro _ T43 _ X43 ⟨rfl, e43, rfl⟩
    rw [List.append_nil] at X43
    refine OGo.nm (fun (y44 : Int64) => T43.setTop (mkF m 109 #[.val (.long x0), .second, .val (.long x1), .second, .val (.int x2), .val (.int x3), .val (.int z2), .val (.long z5), .second, .val (.int (((x2.toUInt32 >>> ((1 : Int32) &&& 31).toUInt32).toInt32) &&& (3 : Int32))), .val (.ref d1), .val (.int z13), .val (.ref b15), .unset, .unset, .unset, .unset] [(.long y44)])) (x := (F_ida z5 x1)) (fun y44 hy44 => ?_)
    refine OGo.go (U' := T43.setTop (mkF m 111 #[.val (.long x0), .second, .val (.long x1), .second, .val (.int x2), .val (.int x3), .val (.int z2), .val (.long z5), .second, .val (.int (((x2.toUInt32 >>> ((1 : Int32) &&& 31).toUInt32).toInt32) &&& (3 : Int32))), .val (.ref d1), .val (.int z13), .val (.ref b15), .val (.long y44), .second, .unset, .unset] [])) (fun _ k => XS.lstore X43.here hx rfl (hb hby at_109) rfl (l' := #[.val (.long x0), .second, .val (.long x1), .second, .val (.int x2), .val (.int x3), .val (.int z2), .val (.long z5), .second, .val (.int (((x2.toUInt32 >>> ((1 : Int32) &&& 31).toUInt32).toInt32) &&& (3 : Int32))), .val (.ref d1), .val (.int z13), .val (.ref b15), .val (.long y44), .second, .unset, .unset]) rfl k) ?_
    refine OGo.go (U' := T43.setTop (mkF m 113 #[.val (.long x0), .second, .val (.long x1), .second, .val (.int x2), .val (.int x3), .val (.int z2), .val (.long z5), .second, .val (.int (((x2.toUInt32 >>> ((1 : Int32) &&& 31).toUInt32).toInt32) &&& (3 : Int32))), .val (.ref d1), .val (.int z13), .val (.ref b15), .val (.long y44), .second, .unset, .unset] [(.long z5)])) (fun _ k => XS.lload X43.here hx rfl (hb hby at_111) rfl k) ?_
    refine OGo.go (U' := T43.setTop (mkF m 116 #[.val (.long x0), .second, .val (.long x1), .second, .val (.int x2), .val (.int x3), .val (.int z2), .val (.long z5), .second, .val (.int (((x2.toUInt32 >>> ((1 : Int32) &&& 31).toUInt32).toInt32) &&& (3 : Int32))), .val (.ref d1), .val (.int z13), .val (.ref b15), .val (.long y44), .second, .unset, .unset] [(.long (-1 : Int64)), (.long z5)])) (fun _ k => X43.ldc2Long hx hown26 (mvT hZ26 (hw _ (List.mem_of_getElem? (i := 43) rfl))) (g := (mkF m 113 #[.val (.long x0), .second, .val (.long x1), .second, .val (.int x2), .val (.int x3), .val (.int z2), .val (.long z5), .second, .val (.int (((x2.toUInt32 >>> ((1 : Int32) &&& 31).toUInt32).toInt32) &&& (3 : Int32))), .val (.ref d1), .val (.int z13), .val (.ref b15), .val (.long y44), .second, .unset, .unset] [(.long z5)])) rfl (hb hby at_113) _ k) ?_
    refine OGo.go (U' := T43.setTop (mkF m 117 #[.val (.long x0), .second, .val (.long x1), .second, .val (.int x2), .val (.int x3), .val (.int z2), .val (.long z5), .second, .val (.int (((x2.toUInt32 >>> ((1 : Int32) &&& 31).toUInt32).toInt32) &&& (3 : Int32))), .val (.ref d1), .val (.int z13), .val (.ref b15), .val (.long y44), .second, .unset, .unset] [(.int (lcmpW z5 (-1 : Int64)))])) (fun _ k => XS.lcmp X43.here hx rfl (hb hby at_116) rfl k) ?_
    refine OGo.ite1 (P := z5 = (-1 : Int64)) (fun (z46 : Int64) => T43.setTop (mkF m 130 #[.val (.long x0), .second, .val (.long x1), .second, .val (.int x2), .val (.int x3), .val (.int z2), .val (.long z5), .second, .val (.int (((x2.toUInt32 >>> ((1 : Int32) &&& 31).toUInt32).toInt32) &&& (3 : Int32))), .val (.ref d1), .val (.int z13), .val (.ref b15), .val (.long y44), .second, .val (.long z46), .second] [])) (x := x1) (y := z5) (fun hc45 k47 => ?_) (fun hc45 k47 => ?_) ?_
    · skip
      refine OGo.go (U' := T43.setTop (mkF m 120 #[.val (.long x0), .second, .val (.long x1), .second, .val (.int x2), .val (.int x3), .val (.int z2), .val (.long z5), .second, .val (.int (((x2.toUInt32 >>> ((1 : Int32) &&& 31).toUInt32).toInt32) &&& (3 : Int32))), .val (.ref d1), .val (.int z13), .val (.ref b15), .val (.long y44), .second, .unset, .unset] [])) (fun _ k => XS.ifNo X43.here hx rfl (hb hby at_117) rfl ((if0 _ _).trans (teq ((lw_eq z5 (-1 : Int64)).mpr hc45)).2) k) ?_
      refine OGo.go (U' := T43.setTop (mkF m 121 #[.val (.long x0), .second, .val (.long x1), .second, .val (.int x2), .val (.int x3), .val (.int z2), .val (.long z5), .second, .val (.int (((x2.toUInt32 >>> ((1 : Int32) &&& 31).toUInt32).toInt32) &&& (3 : Int32))), .val (.ref d1), .val (.int z13), .val (.ref b15), .val (.long y44), .second, .unset, .unset] [(.long x1)])) (fun _ k => XS.lloadN X43.here hx rfl (hb hby at_120) rfl k) ?_
      refine OGo.go (U' := T43.setTop (mkF m 123 #[.val (.long x0), .second, .val (.long x1), .second, .val (.int x2), .val (.int x3), .val (.int z2), .val (.long z5), .second, .val (.int (((x2.toUInt32 >>> ((1 : Int32) &&& 31).toUInt32).toInt32) &&& (3 : Int32))), .val (.ref d1), .val (.int z13), .val (.ref b15), .val (.long y44), .second, .val (.long x1), .second] [])) (fun _ k => XS.lstore X43.here hx rfl (hb hby at_121) rfl (l' := #[.val (.long x0), .second, .val (.long x1), .second, .val (.int x2), .val (.int x3), .val (.int z2), .val (.long z5), .second, .val (.int (((x2.toUInt32 >>> ((1 : Int32) &&& 31).toUInt32).toInt32) &&& (3 : Int32))), .val (.ref d1), .val (.int z13), .val (.ref b15), .val (.long y44), .second, .val (.long x1), .second]) rfl k) ?_
      refine OGo.go (U' := T43.setTop (mkF m 130 #[.val (.long x0), .second, .val (.long x1), .second, .val (.int x2), .val (.int x3), .val (.int z2), .val (.long z5), .second, .val (.int (((x2.toUInt32 >>> ((1 : Int32) &&& 31).toUInt32).toInt32) &&& (3 : Int32))), .val (.ref d1), .val (.int z13), .val (.ref b15), .val (.long y44), .second, .val (.long x1), .second] [])) (fun _ k => XS.goto X43.here hx rfl (pc0 := 123) (pc' := 130) rfl (hb hby at_123) (by decide) (by decide) k) ?_
      exact k47
    · skip
      refine OGo.go (U' := T43.setTop (mkF m 126 #[.val (.long x0), .second, .val (.long x1), .second, .val (.int x2), .val (.int x3), .val (.int z2), .val (.long z5), .second, .val (.int (((x2.toUInt32 >>> ((1 : Int32) &&& 31).toUInt32).toInt32) &&& (3 : Int32))), .val (.ref d1), .val (.int z13), .val (.ref b15), .val (.long y44), .second, .unset, .unset] [])) (fun _ k => XS.ifYes X43.here hx rfl (pc0 := 117) (pc' := 126) rfl (hb hby at_117) rfl ((if0 _ _).trans (feq (fun q => hc45 ((lw_eq z5 (-1 : Int64)).mp q))).2) (by decide) (by decide) k) ?_
      refine OGo.go (U' := T43.setTop (mkF m 128 #[.val (.long x0), .second, .val (.long x1), .second, .val (.int x2), .val (.int x3), .val (.int z2), .val (.long z5), .second, .val (.int (((x2.toUInt32 >>> ((1 : Int32) &&& 31).toUInt32).toInt32) &&& (3 : Int32))), .val (.ref d1), .val (.int z13), .val (.ref b15), .val (.long y44), .second, .unset, .unset] [(.long z5)])) (fun _ k => XS.lload X43.here hx rfl (hb hby at_126) rfl k) ?_
      refine OGo.go (U' := T43.setTop (mkF m 130 #[.val (.long x0), .second, .val (.long x1), .second, .val (.int x2), .val (.int x3), .val (.int z2), .val (.long z5), .second, .val (.int (((x2.toUInt32 >>> ((1 : Int32) &&& 31).toUInt32).toInt32) &&& (3 : Int32))), .val (.ref d1), .val (.int z13), .val (.ref b15), .val (.long y44), .second, .val (.long z5), .second] [])) (fun _ k => XS.lstore X43.here hx rfl (hb hby at_128) rfl (l' := #[.val (.long x0), .second, .val (.long x1), .second, .val (.int x2), .val (.int x3), .val (.int z2), .val (.long z5), .second, .val (.int (((x2.toUInt32 >>> ((1 : Int32) &&& 31).toUInt32).toInt32) &&& (3 : Int32))), .val (.ref d1), .val (.int z13), .val (.ref b15), .val (.long y44), .second, .val (.long z5), .second]) rfl k) ?_
      exact k47
    intro z46 hz46
    refine OGo.go (U' := T43.setTop (mkF m 132 #[.val (.long x0), .second, .val (.long x1), .second, .val (.int x2), .val (.int x3), .val (.int z2), .val (.long z5), .second, .val (.int (((x2.toUInt32 >>> ((1 : Int32) &&& 31).toUInt32).toInt32) &&& (3 : Int32))), .val (.ref d1), .val (.int z13), .val (.ref b15), .val (.long y44), .second, .val (.long z46), .second] [(.long y44)])) (fun _ k => XS.lload X43.here hx rfl (hb hby at_130) rfl k) ?_
    refine OGo.go (U' := T43.setTop (mkF m 134 #[.val (.long x0), .second, .val (.long x1), .second, .val (.int x2), .val (.int x3), .val (.int z2), .val (.long z5), .second, .val (.int (((x2.toUInt32 >>> ((1 : Int32) &&& 31).toUInt32).toInt32) &&& (3 : Int32))), .val (.ref d1), .val (.int z13), .val (.ref b15), .val (.long y44), .second, .val (.long z46), .second] [(.long z46), (.long y44)])) (fun _ k => XS.lload X43.here hx rfl (hb hby at_132) rfl k) ?_
    refine OGo.go (U' := T43.setTop (mkF m 135 #[.val (.long x0), .second, .val (.long x1), .second, .val (.int x2), .val (.int x3), .val (.int z2), .val (.long z5), .second, .val (.int (((x2.toUInt32 >>> ((1 : Int32) &&& 31).toUInt32).toInt32) &&& (3 : Int32))), .val (.ref d1), .val (.int z13), .val (.ref b15), .val (.long y44), .second, .val (.long z46), .second] [(.int (lcmpW y44 z46))])) (fun _ k => XS.lcmp X43.here hx rfl (hb hby at_134) rfl k) ?_
    refine OGo.ite1 (P := y44 = z46) (fun (z49 : Int32) => T43.setTop (mkF m 143 #[.val (.long x0), .second, .val (.long x1), .second, .val (.int x2), .val (.int x3), .val (.int z2), .val (.long z5), .second, .val (.int (((x2.toUInt32 >>> ((1 : Int32) &&& 31).toUInt32).toInt32) &&& (3 : Int32))), .val (.ref d1), .val (.int z13), .val (.ref b15), .val (.long y44), .second, .val (.long z46), .second] [(.int z49)])) (x := (1 : Int32)) (y := (0 : Int32)) (fun hc48 k50 => ?_) (fun hc48 k50 => ?_) ?_
    · skip
      refine OGo.go (U' := T43.setTop (mkF m 138 #[.val (.long x0), .second, .val (.long x1), .second, .val (.int x2), .val (.int x3), .val (.int z2), .val (.long z5), .second, .val (.int (((x2.toUInt32 >>> ((1 : Int32) &&& 31).toUInt32).toInt32) &&& (3 : Int32))), .val (.ref d1), .val (.int z13), .val (.ref b15), .val (.long y44), .second, .val (.long z46), .second] [])) (fun _ k => XS.ifNo X43.here hx rfl (hb hby at_135) rfl ((if0 _ _).trans (teq ((lw_eq y44 z46).mpr hc48)).2) k) ?_
      refine OGo.go (U' := T43.setTop (mkF m 139 #[.val (.long x0), .second, .val (.long x1), .second, .val (.int x2), .val (.int x3), .val (.int z2), .val (.long z5), .second, .val (.int (((x2.toUInt32 >>> ((1 : Int32) &&& 31).toUInt32).toInt32) &&& (3 : Int32))), .val (.ref d1), .val (.int z13), .val (.ref b15), .val (.long y44), .second, .val (.long z46), .second] [(.int (1 : Int32))])) (fun _ k => XS.iconst X43.here hx rfl (hb hby at_138) k) ?_
      refine OGo.go (U' := T43.setTop (mkF m 143 #[.val (.long x0), .second, .val (.long x1), .second, .val (.int x2), .val (.int x3), .val (.int z2), .val (.long z5), .second, .val (.int (((x2.toUInt32 >>> ((1 : Int32) &&& 31).toUInt32).toInt32) &&& (3 : Int32))), .val (.ref d1), .val (.int z13), .val (.ref b15), .val (.long y44), .second, .val (.long z46), .second] [(.int (1 : Int32))])) (fun _ k => XS.goto X43.here hx rfl (pc0 := 139) (pc' := 143) rfl (hb hby at_139) (by decide) (by decide) k) ?_
      exact k50
    · skip
      refine OGo.go (U' := T43.setTop (mkF m 142 #[.val (.long x0), .second, .val (.long x1), .second, .val (.int x2), .val (.int x3), .val (.int z2), .val (.long z5), .second, .val (.int (((x2.toUInt32 >>> ((1 : Int32) &&& 31).toUInt32).toInt32) &&& (3 : Int32))), .val (.ref d1), .val (.int z13), .val (.ref b15), .val (.long y44), .second, .val (.long z46), .second] [])) (fun _ k => XS.ifYes X43.here hx rfl (pc0 := 135) (pc' := 142) rfl (hb hby at_135) rfl ((if0 _ _).trans (feq (fun q => hc48 ((lw_eq y44 z46).mp q))).2) (by decide) (by decide) k) ?_
      refine OGo.go (U' := T43.setTop (mkF m 143 #[.val (.long x0), .second, .val (.long x1), .second, .val (.int x2), .val (.int x3), .val (.int z2), .val (.long z5), .second, .val (.int (((x2.toUInt32 >>> ((1 : Int32) &&& 31).toUInt32).toInt32) &&& (3 : Int32))), .val (.ref d1), .val (.int z13), .val (.ref b15), .val (.long y44), .second, .val (.long z46), .second] [(.int (0 : Int32))])) (fun _ k => XS.iconst X43.here hx rfl (hb hby at_142) k) ?_
      exact k50
    intro z49 hz49
    refine OGo.retNW X43 hS26 (by rw [e43]; exact (Nat.le_trans hk26 K37.1)) hx (t := .boolean) hret hlk (by simp) (hb hby at_143) ?_ (by decide) (by decide)
    exact ⟨own_ret_0 hz2 hz5 hz13 hy44 hz46 hz49, N38⟩
set_option maxRecDepth 65536 in
set_option maxHeartbeats 40000000 in
theorem comes_1 {Post : Tables → Env → Array Value → State → Outcome → State → Prop} (hpost : ∀ tb e args s v u, (limb_1_1.after args s (.returned v) u = true ∧ limb_1_2.after args s (.returned v) u = true ∧ True) → ReturnedEndW s (.returned v) u (Jvm.fieldLocs frame_1_writes args s ++ Jvm.arrayLocs frame_1_arrays args s ++ Jvm.staticLocs frame_1_statics s) 16 1152 → Post tb e args s (.returned v) u) :
    ArmFor flags0 classFile x code maxLocals ret World_1 tables_1 room_1 Calls_1 rest_1 Pre_1 Post := by
  intro l hfl _ _ p e ha hc hk s m args below hf hA hF happ hP
  obtain ⟨hcalls, hrest, hpre⟩ := hP
  obtain ⟨-, -, -, hnamed, -, -, -, hat⟩ := (Spec.applies_iff hf).mp happ
  obtain ⟨hg, hn⟩ := and_e (Cond.before_iff.mp (show (Jvm.Cond.and given_1 narrow_1).before args s = true from hpre))
  obtain ⟨g0, g1⟩ := and_e hg
  obtain ⟨w0, w1, w2, w3, rfl⟩ : ∃ w0 w1 w2 w3 : Value, args = #[w0, w1, w2, w3] := by
    have hs : args.size = 4 := by simpa [Cond.value, given_1] using g0
    obtain ⟨L⟩ := args
    match L, hs with
    | [w0, w1, w2, w3], _ => exact ⟨w0, w1, w2, w3, rfl⟩
  have hw := fun d (hd : d ∈ tables_1) => atoms_spec (ws := Jvm.Cond.code x code maxLocals ret :: tables_1) hat d (List.mem_cons_of_mem _ hd)
  have hfit : Fit s := fun {y c} hc i hi => by
    obtain ⟨ha, rfl⟩ := Array.getElem?_eq_some_iff.mp hc
    have q := List.all_eq_true.mp ((Array.all_eq_true_iff_forall_mem.mp hF) _ (Array.getElem_mem ha)) i (List.mem_range.mpr hi)
    simpa [Array.getElem?_eq_getElem hi] using q
  obtain ⟨v0, g2⟩ := and_e g1
  obtain ⟨i0, q0⟩ := isL_v v0
  obtain rfl : w0 = (.long i0) := Option.some.inj q0
  obtain ⟨v1, g3⟩ := and_e g2
  obtain ⟨i1, q1⟩ := isL_v v1
  obtain rfl : w1 = (.long i1) := Option.some.inj q1
  obtain ⟨v2, g4⟩ := and_e g3
  obtain ⟨i2, q2⟩ := is_v v2
  obtain rfl : w2 = (.int i2) := Option.some.inj q2
  obtain ⟨i3, q3⟩ := is_v g4
  obtain rfl : w3 = (.int i3) := Option.some.inj q3
  obtain ⟨c0, d0⟩ := and_e hn
  obtain ⟨c1, d1⟩ := and_e d0
  have c2 := d1
  obtain ⟨r0, ev0, S0, E0⟩ := own_enum c0 (hw _ (List.mem_of_getElem? (i := 1) rfl)) (hw _ (List.mem_of_getElem? (i := 2) rfl))
  obtain ⟨r1, ev1, S1, E1⟩ := own_enum c2 (hw _ (List.mem_of_getElem? (i := 1) rfl)) (hw _ (List.mem_of_getElem? (i := 47) rfl))
  obtain ⟨r2, ev2, S2, E2⟩ := own_enum c1 (hw _ (List.mem_of_getElem? (i := 1) rfl)) (hw _ (List.mem_of_getElem? (i := 45) rfl))
  obtain ⟨n, o, h1, h2, h3, _, L, rfl, ⟨rfl, N⟩, hq⟩ := rm_law l s _ hw i0 i1 i2 i3 r0 r1 r2 s.heap.size s.heap (Nat.le_refl _) S0 S1 S2 p e ha hc hk s m _ below hf ((Spec.applies_iff_loose hf).mp happ).1 ⟨rfl, State.Warmed39.refl s, rfl⟩ trivial
  refine ⟨n, _, h1, h2, h3, hpost _ _ _ _ _ _ ⟨Cond.after_iff.mpr rfl, Cond.after_iff.mpr (eq_i res_at (Term.int_eval (1)) rfl), trivial⟩ ⟨hq.1, hq.2.1, hq.2.2.1, (hq.2.2.2.sift fun y hy => Or.inr (N y hy)).mono (by decide) (by decide)⟩⟩
theorem main_1_1 : Claimed_1_1 := comes_1 fun _ _ _ _ _ _ h hF => ⟨h.1, hF⟩
theorem main_1_2 : Claimed_1_2 := comes_1 fun _ _ _ _ _ _ h hF => ⟨h.2.1, hF⟩
end Jvm.Pilot.@@N@@
namespace Jvm.Pilot.@@N@@
open Jvm Jvm.ClassFile Sem Op Lib Jvm.Free Jvm.Stand Jvm.Pilot.@@N@@.Jvm.D
/-! MADE BY PROGRAM (witnessworld.py) out of the Statement's table words and the real class files: 17 classes; the members and pool entries that the words name. The judged class is class 1, her method 1. -/
namespace start1
open Jvm.ClassFile
def u (s : String) : CpInfo := .utf8 (stringToUtf16 s)
/-- a pool by its gaps: so many unusable entries, then the entry; so many at the end -/
def gap : Nat → List CpInfo → List CpInfo
  | 0, r => r
  | n + 1, r => .unusable :: gap n r
def poolList (es : List (Nat × CpInfo)) (last : Nat) : List CpInfo := es.foldr (fun e r => gap e.1 (e.2 :: r)) (gap last [])
def pool (es : List (Nat × CpInfo)) (last : Nat) : Array CpInfo := ⟨poolList es last⟩
def fileOf (pool : Array CpInfo) (this : Nat) (attrs : Array Attribute := #[]) (ms : Array MethodInfo := #[]) (fl : Nat := 33) (sup : Nat := 0) (ifs : Array Nat := #[]) (fds : Array FieldInfo := #[]) : ClassFile where
  minorVersion := 0
  majorVersion := 65
  constantPool := pool
  accessFlags := fl
  thisClass := this
  superClass := sup
  interfaces := ifs
  fields := fds
  methods := ms
  attributes := attrs
def plain (name : String) (sup : Option ClassId) : Class where
  name := name
  kind := .ordinary
  loader := none
  accessFlags := 33
  super := sup
  interfaces := #[]
  cf := none
  fields := #[]
  methods := #[]
  instanceTypes := #[]
  staticTypes := #[]
  resolved := #[]
  callSites := []
  init := .initialized
  statics := none
  mirror := none

def pool0 : Array CpInfo := pool [(5, u "<init>"), (0, u "()V"), (1, .class_ 10), (1, u "java/lang/Object")] 113

def k0c0 : Code := { maxStack := 0, maxLocals := 1, code := object_method_1_code, exceptionTable := #[], attributes := #[] }
def k0m0 : Method := { name := "<init>", desc := "()V", sig := { parameters := [], returnType := none }, accessFlags := 1, code := some k0c0 }
/-- java/lang/Object -/
def k0 : Class := { plain "java/lang/Object" none with
  accessFlags := 33
  interfaces := #[]
  cf := some (fileOf pool0 8 #[] #[{ accessFlags := 1, nameIndex := 5, descriptorIndex := 6, attributes := #[] }] 33 0 #[] #[])
  fields := #[]
  methods := #[k0m0]
  instanceTypes := #[]
  staticTypes := #[]
  resolved := Array.replicate 124 none
  statics := none }

def pool1 : Array CpInfo := pool [(2, .class_ 4), (1, u "java/lang/Object"), (0, u "<init>"), (0, u "()V"), (0, .class_ 8), (0, u "com/example/okstream/okstream/tap/TapLine$TestPoint"), (0, .long 18446744073709551615), (1, .fieldref 12 13), (0, .class_ 14), (0, .nameAndType 15 16), (0, u "com/example/okstream/okstream/tap/Directive"), (0, u "NONE"), (0, u "Lcom/example/okstream/okstream/tap/Directive;"), (0, .fieldref 12 18), (0, .nameAndType 19 16), (0, u "SKIP"), (0, .fieldref 12 21), (0, .nameAndType 22 16), (0, u "TODO"), (0, .string 24), (0, u ""), (0, .methodref 7 26), (0, .nameAndType 5 27), (0, u "(IZJLjava/lang/String;Lcom/example/okstream/okstream/tap/Directive;Ljava/lang/String;)V"), (0, .methodref 7 29), (0, .nameAndType 30 31), (0, u "idAt"), (0, u "(J)J"), (0, .class_ 33), (0, u "com/example/okstream/okstream/tap/TestPointIdAtPinLaw"), (2, u "law"), (0, u "(JJII)Z")] 7

def k1m0 : Method := { name := "<init>", desc := "()V", sig := { parameters := [], returnType := none }, accessFlags := 1, code := none }
def k1c1 : Code := { maxStack := 9, maxLocals := 17, code := code, exceptionTable := #[], attributes := #[] }
def k1m1 : Method := { name := "law", desc := "(JJII)Z", sig := { parameters := [.long, .long, .int, .int], returnType := some .boolean }, accessFlags := 9, code := some k1c1 }
/-- com/example/okstream/okstream/tap/TestPointIdAtPinLaw -/
def k1 : Class := { plain "com/example/okstream/okstream/tap/TestPointIdAtPinLaw" (some 0) with
  accessFlags := 49
  interfaces := #[]
  cf := some (fileOf pool1 32 #[] #[{ accessFlags := 1, nameIndex := 5, descriptorIndex := 6, attributes := #[] }, { accessFlags := 9, nameIndex := 36, descriptorIndex := 37, attributes := #[] }] 49 2 #[] #[])
  fields := #[]
  methods := #[k1m0, k1m1]
  instanceTypes := #[]
  staticTypes := #[]
  resolved := Array.replicate 45 none
  statics := none }

def pool2 : Array CpInfo := pool [(1, .class_ 2), (0, u "java/lang/constant/Constable"), (0, .class_ 4), (0, u "java/lang/Object")] 6

/-- java/lang/constant/Constable -/
def k2 : Class := { plain "java/lang/constant/Constable" (some 0) with
  accessFlags := 1537
  interfaces := #[]
  cf := some (fileOf pool2 1 #[] #[] 1537 3 #[] #[])
  fields := #[]
  methods := #[]
  instanceTypes := #[]
  staticTypes := #[]
  resolved := Array.replicate 11 none
  statics := none }

def pool3 : Array CpInfo := pool [(1, .class_ 2), (0, u "java/lang/Comparable"), (0, .class_ 4), (0, u "java/lang/Object")] 7

/-- java/lang/Comparable -/
def k3 : Class := { plain "java/lang/Comparable" (some 0) with
  accessFlags := 1537
  interfaces := #[]
  cf := some (fileOf pool3 1 #[] #[] 1537 3 #[] #[])
  fields := #[]
  methods := #[]
  instanceTypes := #[]
  staticTypes := #[]
  resolved := Array.replicate 12 none
  statics := none }

def pool4 : Array CpInfo := pool [(1, .class_ 2), (0, u "java/io/Serializable"), (0, .class_ 4), (0, u "java/lang/Object")] 2

/-- java/io/Serializable -/
def k4 : Class := { plain "java/io/Serializable" (some 0) with
  accessFlags := 1537
  interfaces := #[]
  cf := some (fileOf pool4 1 #[] #[] 1537 3 #[] #[])
  fields := #[]
  methods := #[]
  instanceTypes := #[]
  staticTypes := #[]
  resolved := Array.replicate 7 none
  statics := none }

def pool5 : Array CpInfo := pool [(2, .class_ 4), (1, u "java/lang/Enum"), (0, u "name"), (0, u "Ljava/lang/String;"), (2, u "ordinal"), (0, u "I"), (1, .class_ 14), (1, u "java/lang/Object"), (4, u "hash"), (86, .class_ 108), (1, u "java/lang/Enum$EnumDesc"), (2, .class_ 112), (0, u "java/lang/constant/Constable"), (0, .class_ 114), (0, u "java/lang/Comparable"), (0, .class_ 116), (0, u "java/io/Serializable")] 87

/-- java/lang/Enum -/
def k5 : Class := { plain "java/lang/Enum" (some 0) with
  accessFlags := 1057
  interfaces := #[2, 3, 4]
  cf := some (fileOf pool5 2 #[.nestMembers #[106]] #[] 1057 12 #[111, 113, 115] #[{ accessFlags := 18, nameIndex := 5, descriptorIndex := 6, attributes := #[] }, { accessFlags := 18, nameIndex := 9, descriptorIndex := 10, attributes := #[] }, { accessFlags := 2, nameIndex := 19, descriptorIndex := 10, attributes := #[] }])
  fields := #[{ name := "name", type := (.object "java/lang/String"), accessFlags := 18, slot := 0, constantValue := 0 }, { name := "ordinal", type := .int, accessFlags := 18, slot := 1, constantValue := 0 }, { name := "hash", type := .int, accessFlags := 2, slot := 2, constantValue := 0 }]
  methods := #[]
  instanceTypes := #[(.object "java/lang/String"), .int, .int]
  staticTypes := #[]
  resolved := Array.replicate 204 none
  statics := none }

def pool6 : Array CpInfo := pool [(1, .class_ 2), (0, u "com/example/okstream/okstream/tap/Directive"), (2, u "NONE"), (0, u "Lcom/example/okstream/okstream/tap/Directive;"), (2, u "SKIP"), (2, u "TODO"), (2, u "$VALUES"), (0, u "[Lcom/example/okstream/okstream/tap/Directive;"), (6, .class_ 25), (1, u "java/lang/Enum")] 25

/-- com/example/okstream/okstream/tap/Directive -/
def k6 : Class := { plain "com/example/okstream/okstream/tap/Directive" (some 5) with
  accessFlags := 16433
  interfaces := #[]
  cf := some (fileOf pool6 1 #[] #[] 16433 23 #[] #[{ accessFlags := 16409, nameIndex := 5, descriptorIndex := 6, attributes := #[] }, { accessFlags := 16409, nameIndex := 9, descriptorIndex := 6, attributes := #[] }, { accessFlags := 16409, nameIndex := 12, descriptorIndex := 6, attributes := #[] }, { accessFlags := 4122, nameIndex := 15, descriptorIndex := 16, attributes := #[] }])
  fields := #[{ name := "NONE", type := (.object "com/example/okstream/okstream/tap/Directive"), accessFlags := 16409, slot := 0, constantValue := 0 }, { name := "SKIP", type := (.object "com/example/okstream/okstream/tap/Directive"), accessFlags := 16409, slot := 1, constantValue := 0 }, { name := "TODO", type := (.object "com/example/okstream/okstream/tap/Directive"), accessFlags := 16409, slot := 2, constantValue := 0 }, { name := "$VALUES", type := (.array (.object "com/example/okstream/okstream/tap/Directive")), accessFlags := 4122, slot := 3, constantValue := 0 }]
  methods := #[]
  instanceTypes := #[(.object "java/lang/String"), .int, .int]
  staticTypes := #[(.object "com/example/okstream/okstream/tap/Directive"), (.object "com/example/okstream/okstream/tap/Directive"), (.object "com/example/okstream/okstream/tap/Directive"), (.array (.object "com/example/okstream/okstream/tap/Directive"))]
  resolved := Array.replicate 51 none
  statics := some 0 }

def pool7 : Array CpInfo := pool [(1, .methodref 2 3), (0, .class_ 4), (0, .nameAndType 5 6), (0, u "java/lang/Object"), (0, u "<init>"), (0, u "()V"), (0, .fieldref 8 9), (0, .class_ 10), (0, .nameAndType 11 12), (0, u "com/example/okstream/okstream/tap/TapLine"), (0, u "indent"), (0, u "I"), (38, .class_ 52), (0, u "com/example/okstream/okstream/tap/TapLine$Comment"), (16, .class_ 70), (0, u "com/example/okstream/okstream/tap/TapLine$BailOut"), (23, .class_ 95), (0, u "com/example/okstream/okstream/tap/TapLine$YamlStart"), (2, u "(I)V"), (2, .class_ 102), (0, u "com/example/okstream/okstream/tap/TapLine$YamlEnd"), (3, .class_ 107), (0, u "com/example/okstream/okstream/tap/TapLine$Done"), (1, .class_ 110), (0, u "com/example/okstream/okstream/tap/TapLine$Other"), (25, .class_ 137), (0, u "com/example/okstream/okstream/tap/TapLine$TestPoint"), (69, .class_ 208), (0, u "com/example/okstream/okstream/tap/TapLine$Plan"), (7, .class_ 217), (0, u "com/example/okstream/okstream/tap/TapLine$Version"), (3, .class_ 222), (0, u "com/example/okstream/okstream/tap/TapLine$Pragma"), (20, u "NOT_OK"), (0, u "Ljava/lang/String;"), (1, u "OK"), (0, u "PLAN_START"), (0, u "VERSION_START"), (0, u "BAIL_OUT"), (0, u "PRAGMA_START"), (0, u "YAML_START"), (0, u "YAML_END"), (0, u "DONE"), (0, u "NOT_A_NUMBER"), (0, u "J")] 45

def k7c0 : Code := { maxStack := 2, maxLocals := 2, code := prog_11_method_1_code, exceptionTable := #[], attributes := #[] }
def k7m0 : Method := { name := "<init>", desc := "(I)V", sig := { parameters := [.int], returnType := none }, accessFlags := 0, code := some k7c0 }
/-- com/example/okstream/okstream/tap/TapLine -/
def k7 : Class := { plain "com/example/okstream/okstream/tap/TapLine" (some 0) with
  accessFlags := 1057
  interfaces := #[]
  cf := some (fileOf pool7 8 #[.nestMembers #[109, 106, 101, 94, 51, 221, 69, 136, 207, 216]] #[{ accessFlags := 0, nameIndex := 5, descriptorIndex := 98, attributes := #[] }] 1057 2 #[] #[{ accessFlags := 26, nameIndex := 243, descriptorIndex := 244, attributes := #[] }, { accessFlags := 26, nameIndex := 246, descriptorIndex := 244, attributes := #[] }, { accessFlags := 26, nameIndex := 247, descriptorIndex := 244, attributes := #[] }, { accessFlags := 26, nameIndex := 248, descriptorIndex := 244, attributes := #[] }, { accessFlags := 26, nameIndex := 249, descriptorIndex := 244, attributes := #[] }, { accessFlags := 26, nameIndex := 250, descriptorIndex := 244, attributes := #[] }, { accessFlags := 26, nameIndex := 251, descriptorIndex := 244, attributes := #[] }, { accessFlags := 26, nameIndex := 252, descriptorIndex := 244, attributes := #[] }, { accessFlags := 26, nameIndex := 253, descriptorIndex := 244, attributes := #[] }, { accessFlags := 26, nameIndex := 254, descriptorIndex := 255, attributes := #[] }, { accessFlags := 18, nameIndex := 11, descriptorIndex := 12, attributes := #[] }])
  fields := #[{ name := "NOT_OK", type := (.object "java/lang/String"), accessFlags := 26, slot := 0, constantValue := 0 }, { name := "OK", type := (.object "java/lang/String"), accessFlags := 26, slot := 1, constantValue := 0 }, { name := "PLAN_START", type := (.object "java/lang/String"), accessFlags := 26, slot := 2, constantValue := 0 }, { name := "VERSION_START", type := (.object "java/lang/String"), accessFlags := 26, slot := 3, constantValue := 0 }, { name := "BAIL_OUT", type := (.object "java/lang/String"), accessFlags := 26, slot := 4, constantValue := 0 }, { name := "PRAGMA_START", type := (.object "java/lang/String"), accessFlags := 26, slot := 5, constantValue := 0 }, { name := "YAML_START", type := (.object "java/lang/String"), accessFlags := 26, slot := 6, constantValue := 0 }, { name := "YAML_END", type := (.object "java/lang/String"), accessFlags := 26, slot := 7, constantValue := 0 }, { name := "DONE", type := (.object "java/lang/String"), accessFlags := 26, slot := 8, constantValue := 0 }, { name := "NOT_A_NUMBER", type := .long, accessFlags := 26, slot := 9, constantValue := 0 }, { name := "indent", type := .int, accessFlags := 18, slot := 0, constantValue := 0 }]
  methods := #[k7m0]
  instanceTypes := #[.int]
  staticTypes := #[(.object "java/lang/String"), (.object "java/lang/String"), (.object "java/lang/String"), (.object "java/lang/String"), (.object "java/lang/String"), (.object "java/lang/String"), (.object "java/lang/String"), (.object "java/lang/String"), (.object "java/lang/String"), .long]
  resolved := Array.replicate 301 none
  statics := none }

def pool8 : Array CpInfo := pool [(1, .methodref 2 3), (0, .class_ 4), (0, .nameAndType 5 6), (0, u "com/example/okstream/okstream/tap/TapLine"), (0, u "<init>"), (0, u "(I)V"), (0, .fieldref 8 9), (0, .class_ 10), (0, .nameAndType 11 12), (0, u "com/example/okstream/okstream/tap/TapLine$TestPoint"), (0, u "ok"), (0, u "Z"), (0, .fieldref 8 14), (0, .nameAndType 15 16), (0, u "id"), (0, u "J"), (0, .fieldref 8 18), (0, .nameAndType 19 20), (0, u "description"), (0, u "Ljava/lang/String;"), (0, .fieldref 8 22), (0, .nameAndType 23 24), (0, u "directive"), (0, u "Lcom/example/okstream/okstream/tap/Directive;"), (0, .fieldref 8 26), (0, .nameAndType 27 20), (0, u "reason"), (0, .long 18446744073709551615), (6, u "NO_ID"), (1, u "(IZJLjava/lang/String;Lcom/example/okstream/okstream/tap/Directive;Ljava/lang/String;)V"), (6, u "idAt"), (0, u "(J)J")] 12

def k8c0 : Code := { maxStack := 3, maxLocals := 8, code := prog_18_method_1_code, exceptionTable := #[], attributes := #[] }
def k8m0 : Method := { name := "<init>", desc := "(IZJLjava/lang/String;Lcom/example/okstream/okstream/tap/Directive;Ljava/lang/String;)V", sig := { parameters := [.int, .boolean, .long, (.object "java/lang/String"), (.object "com/example/okstream/okstream/tap/Directive"), (.object "java/lang/String")], returnType := none }, accessFlags := 0, code := some k8c0 }
def k8c1 : Code := { maxStack := 4, maxLocals := 3, code := prog_18_method_4_code, exceptionTable := #[], attributes := #[] }
def k8m1 : Method := { name := "idAt", desc := "(J)J", sig := { parameters := [.long], returnType := some .long }, accessFlags := 1, code := some k8c1 }
/-- com/example/okstream/okstream/tap/TapLine$TestPoint -/
def k8 : Class := { plain "com/example/okstream/okstream/tap/TapLine$TestPoint" (some 7) with
  accessFlags := 49
  interfaces := #[]
  cf := some (fileOf pool8 8 #[.nestHost 2] #[{ accessFlags := 0, nameIndex := 5, descriptorIndex := 37, attributes := #[] }, { accessFlags := 1, nameIndex := 44, descriptorIndex := 45, attributes := #[] }] 49 2 #[] #[{ accessFlags := 25, nameIndex := 35, descriptorIndex := 16, attributes := #[] }, { accessFlags := 18, nameIndex := 11, descriptorIndex := 12, attributes := #[] }, { accessFlags := 18, nameIndex := 15, descriptorIndex := 16, attributes := #[] }, { accessFlags := 18, nameIndex := 19, descriptorIndex := 20, attributes := #[] }, { accessFlags := 18, nameIndex := 23, descriptorIndex := 24, attributes := #[] }, { accessFlags := 18, nameIndex := 27, descriptorIndex := 20, attributes := #[] }])
  fields := #[{ name := "NO_ID", type := .long, accessFlags := 25, slot := 0, constantValue := 0 }, { name := "ok", type := .boolean, accessFlags := 18, slot := 1, constantValue := 0 }, { name := "id", type := .long, accessFlags := 18, slot := 2, constantValue := 0 }, { name := "description", type := (.object "java/lang/String"), accessFlags := 18, slot := 3, constantValue := 0 }, { name := "directive", type := (.object "com/example/okstream/okstream/tap/Directive"), accessFlags := 18, slot := 4, constantValue := 0 }, { name := "reason", type := (.object "java/lang/String"), accessFlags := 18, slot := 5, constantValue := 0 }]
  methods := #[k8m0, k8m1]
  instanceTypes := #[.int, .boolean, .long, (.object "java/lang/String"), (.object "com/example/okstream/okstream/tap/Directive"), (.object "java/lang/String")]
  staticTypes := #[.long]
  resolved := Array.replicate 58 none
  statics := none }

def pool9 : Array CpInfo := pool [(2, .class_ 4), (1, u "java/lang/CharSequence"), (42, .class_ 48), (0, u "java/lang/CharSequence$1CodePointIterator"), (10, .class_ 60), (0, u "java/lang/CharSequence$1CharIterator"), (5, .class_ 67), (0, u "java/lang/Object")] 63

/-- java/lang/CharSequence -/
def k9 : Class := { plain "java/lang/CharSequence" (some 0) with
  accessFlags := 1537
  interfaces := #[]
  cf := some (fileOf pool9 2 #[.nestMembers #[47, 59]] #[] 1537 66 #[] #[])
  fields := #[]
  methods := #[]
  instanceTypes := #[]
  staticTypes := #[]
  resolved := Array.replicate 131 none
  statics := none }

def pool10 : Array CpInfo := pool [(1, .class_ 2), (0, u "java/lang/constant/ConstantDesc"), (0, .class_ 4), (0, u "java/lang/Object")] 32

/-- java/lang/constant/ConstantDesc -/
def k10 : Class := { plain "java/lang/constant/ConstantDesc" (some 0) with
  accessFlags := 1537
  interfaces := #[]
  cf := some (fileOf pool10 1 #[] #[] 1537 3 #[] #[])
  fields := #[]
  methods := #[]
  instanceTypes := #[]
  staticTypes := #[]
  resolved := Array.replicate 37 none
  statics := none }

def pool11 : Array CpInfo := pool [(2, .class_ 4), (1, u "java/lang/Object"), (0, u "<init>"), (0, u "()V"), (3, .class_ 12), (1, u "java/lang/String"), (0, u "value"), (0, u "[B"), (2, u "coder"), (0, u "B"), (2, u "hash"), (0, u "I"), (2, u "hashIsZero"), (0, u "Z"), (13, u "COMPACT_STRINGS"), (534, .class_ 576), (0, u "java/lang/CharSequence"), (22, u "CASE_INSENSITIVE_ORDER"), (0, u "Ljava/util/Comparator;"), (500, u "serialPersistentFields"), (0, u "[Ljava/io/ObjectStreamField;"), (0, .class_ 1104), (0, u "java/lang/String$CaseInsensitiveComparator"), (1, .class_ 1107), (0, u "java/io/Serializable"), (0, .class_ 1109), (0, u "java/lang/Comparable"), (0, .class_ 1111), (0, u "java/lang/constant/Constable"), (0, .class_ 1113), (0, u "java/lang/constant/ConstantDesc"), (2, u "serialVersionUID"), (0, u "J"), (3, u "REPL"), (0, u "C"), (2, u "LATIN1"), (1, u "UTF16")] 323

def k11m0 : Method := { name := "<init>", desc := "()V", sig := { parameters := [], returnType := none }, accessFlags := 1, code := none }
/-- java/lang/String -/
def k11 : Class := { plain "java/lang/String" (some 0) with
  accessFlags := 49
  interfaces := #[4, 3, 9, 2, 10]
  cf := some (fileOf pool11 10 #[.nestMembers #[1103]] #[{ accessFlags := 1, nameIndex := 5, descriptorIndex := 6, attributes := #[] }] 49 2 #[1106, 1108, 575, 1110, 1112] #[{ accessFlags := 18, nameIndex := 13, descriptorIndex := 14, attributes := #[] }, { accessFlags := 18, nameIndex := 17, descriptorIndex := 18, attributes := #[] }, { accessFlags := 2, nameIndex := 21, descriptorIndex := 22, attributes := #[] }, { accessFlags := 2, nameIndex := 25, descriptorIndex := 26, attributes := #[] }, { accessFlags := 26, nameIndex := 1116, descriptorIndex := 1117, attributes := #[] }, { accessFlags := 24, nameIndex := 40, descriptorIndex := 26, attributes := #[] }, { accessFlags := 26, nameIndex := 1101, descriptorIndex := 1102, attributes := #[] }, { accessFlags := 26, nameIndex := 1121, descriptorIndex := 1122, attributes := #[] }, { accessFlags := 25, nameIndex := 599, descriptorIndex := 600, attributes := #[] }, { accessFlags := 24, nameIndex := 1125, descriptorIndex := 18, attributes := #[] }, { accessFlags := 24, nameIndex := 1127, descriptorIndex := 18, attributes := #[] }])
  fields := #[{ name := "value", type := (.array .byte), accessFlags := 18, slot := 0, constantValue := 0 }, { name := "coder", type := .byte, accessFlags := 18, slot := 1, constantValue := 0 }, { name := "hash", type := .int, accessFlags := 2, slot := 2, constantValue := 0 }, { name := "hashIsZero", type := .boolean, accessFlags := 2, slot := 3, constantValue := 0 }, { name := "serialVersionUID", type := .long, accessFlags := 26, slot := 0, constantValue := 0 }, { name := "COMPACT_STRINGS", type := .boolean, accessFlags := 24, slot := 1, constantValue := 0 }, { name := "serialPersistentFields", type := (.array (.object "java/io/ObjectStreamField")), accessFlags := 26, slot := 2, constantValue := 0 }, { name := "REPL", type := .char, accessFlags := 26, slot := 3, constantValue := 0 }, { name := "CASE_INSENSITIVE_ORDER", type := (.object "java/util/Comparator"), accessFlags := 25, slot := 4, constantValue := 0 }, { name := "LATIN1", type := .byte, accessFlags := 24, slot := 5, constantValue := 0 }, { name := "UTF16", type := .byte, accessFlags := 24, slot := 6, constantValue := 0 }]
  methods := #[k11m0]
  instanceTypes := #[(.array .byte), .byte, .int, .boolean]
  staticTypes := #[.long, .boolean, (.array (.object "java/io/ObjectStreamField")), .char, (.object "java/util/Comparator"), .byte, .byte]
  resolved := Array.replicate 1451 none
  statics := none }

def pool12 : Array CpInfo := pool [(1, u "java/lang/Cloneable"), (0, .class_ 1), (0, u "java/lang/Object"), (0, .class_ 3)] 3

/-- java/lang/Cloneable -/
def k12 : Class := { plain "java/lang/Cloneable" (some 0) with
  accessFlags := 1537
  interfaces := #[]
  cf := some (fileOf pool12 2 #[] #[] 1537 4 #[] #[])
  fields := #[]
  methods := #[]
  instanceTypes := #[]
  staticTypes := #[]
  resolved := Array.replicate 8 none
  statics := none }

/-- the primitive byte -/
def k13 : Class := { plain "byte" none with kind := .primitive 'B', accessFlags := 0x411 }
/-- [B -/
def k14 : Class := { plain "[B" (some 0) with kind := .array 13 .byte, interfaces := #[12, 4], accessFlags := 1041 }

/-- the primitive int -/
def k15 : Class := { plain "int" none with kind := .primitive 'I', accessFlags := 0x411 }
/-- [I -/
def k16 : Class := { plain "[I" (some 0) with kind := .array 15 .int, interfaces := #[12, 4], accessFlags := 1041 }

def heap : Heap := #[{ cls := 6, slots := #[.ref 1, .ref 2, .ref 3, .null], vm := .statics 6 },
  { cls := 6, slots := #[.null, .int 0, .int 0], vm := .none },
  { cls := 6, slots := #[.null, .int 1, .int 0], vm := .none },
  { cls := 6, slots := #[.null, .int 2, .int 0], vm := .none }]
def classes : Array Class := #[k0, k1, k2, k3, k4, k5, k6, k7, k8, k9, k10, k11, k12, k13, k14, k15, k16]
def interned : List (Array UInt16 × Addr) := []
def slotsUsed : Nat := 13
def theMethod : MethodId := ⟨1, 1⟩
def args0 : Array Value := #[.long 5, .long 7, .int 9, .int 3]
def aboutOver (below : List Frame) : State where
  vm := { classes := classes, interned := interned.toArray }
  heap := heap
  slotsUsed := slotsUsed
  threads := #[{ frames := .invoking theMethod args0 :: below }]
def below0 : List Frame := [.native { method := ⟨0, 0⟩, args := #[] }]
def about1 : State := aboutOver below0
def p0 : Program := .bare "" "" ""
def e0 : Env := launch0.env 0 0 0
theorem w_frames : about1.frames = Frame.invoking theMethod args0 :: below0 := rfl
set_option maxRecDepth 65536 in
theorem w_args : argsFit about1.vm theMethod args0 = true := by decide +kernel
set_option maxRecDepth 65536 in
theorem w_heap : heapFits about1 = true := by decide +kernel
set_option maxRecDepth 65536 in
theorem w_runnable : about1.curStatus? = some .runnable := by decide +kernel
set_option maxRecDepth 65536 in
theorem w_alone : about1.alone = true := by decide +kernel
set_option maxRecDepth 65536 in
theorem w_named : about1.methodNamed? x = some theMethod := by decide +kernel
set_option maxRecDepth 65536 in
theorem w_hears : about1.hears theMethod below0 = true := by decide +kernel
set_option maxRecDepth 65536 in
theorem w_ripe : about1.ripe theMethod args0 below0 = true := by decide +kernel
theorem w_running : about1.status = .running := rfl
set_option maxRecDepth 65536 in
theorem w_room : about1.hasRoom e0.platform room_1 = true :=
  launch0.hasRoom_least _ room_1 (by decide +kernel) (by decide +kernel) (by decide +kernel) (by decide +kernel) (by decide +kernel) (by decide +kernel)
theorem allAtoms_all (ts : List Jvm.Cond) (a : Array Jvm.Value) (st : Jvm.State) : (allAtoms ts).before a st = ts.all (fun c => c.before a st) := by
  induction ts with
  | nil => rfl
  | cons c t ih =>
    show (Jvm.Cond.and c (allAtoms t)).before a st = _
    rw [Jvm.Cond.before_and, ih, List.all_cons]
def words1 : List Jvm.Cond := Jvm.Cond.code x code maxLocals ret :: tables_1
/-- a 'code' word, met by the world's own term for the bytes: nothing is compared byte by byte -/
theorem code_word {y : MethodName} {bytes : ByteArray} {mx : Nat} {rt : Option FieldType} {a : Array Value} {s : State} {m : MethodId} {meth : Method} {c : Code} (h1 : s.methodNamed? y = some m) (h2 : s.vm.method? m = some meth) (h3 : meth.code = some c) (h4 : c.code = bytes)
    (h5 : (c.maxLocals == mx && c.exceptionTable.isEmpty && decide (c.maxStack ≤ mostOperands) && decide (meth.sig.returnType = rt) && !meth.locks && decide (parseMethodDescriptor y.desc = some meth.sig)) = true) : (Jvm.Cond.code y bytes mx rt).before a s = true := by
  simp only [Bool.and_eq_true, beq_iff_eq, Bool.not_eq_true', decide_eq_true_eq] at h5
  obtain ⟨⟨⟨⟨⟨g1, g2⟩, g3⟩, g4⟩, g5⟩, g6⟩ := h5
  simp [Cond.before, Cond.holds, Cond.value, h1, h2, h3, h4, g1, g2, g3, g4, g5, g6]
def isCode : Jvm.Cond → Bool
  | .code _ _ _ _ => true
  | _ => false
theorem all_split {L : List Jvm.Cond} {P : Jvm.Cond → Bool} (h1 : L.all (fun c => isCode c || P c) = true) (h2 : ∀ c ∈ L.filter isCode, P c = true) : L.all P = true := by
  refine List.all_eq_true.mpr fun c hc => ?_
  have h := List.all_eq_true.mp h1 c hc
  rcases Bool.eq_false_or_eq_true (isCode c) with hi | hi
  · exact h2 c (List.mem_filter.mpr ⟨hc, hi⟩)
  · simpa [hi] using h
set_option maxRecDepth 65536 in
theorem w_c0 : (Jvm.Cond.code x code maxLocals ret).before args0 about1 = true := code_word (m := ⟨1, 1⟩) (meth := k1m1) (c := k1c1) (by decide +kernel) rfl rfl rfl (by decide +kernel)
set_option maxRecDepth 65536 in
theorem w_c1 : (Jvm.Cond.code ({ cls := "com/example/okstream/okstream/tap/TapLine$TestPoint", name := "<init>", desc := "(IZJLjava/lang/String;Lcom/example/okstream/okstream/tap/Directive;Ljava/lang/String;)V" } : Jvm.MethodName) prog_18_method_1_code (8 : Nat) (Option.none : Option Jvm.ClassFile.FieldType)).before args0 about1 = true := code_word (m := ⟨8, 0⟩) (meth := k8m0) (c := k8c0) (by decide +kernel) rfl rfl rfl (by decide +kernel)
set_option maxRecDepth 65536 in
theorem w_c2 : (Jvm.Cond.code ({ cls := "com/example/okstream/okstream/tap/TapLine", name := "<init>", desc := "(I)V" } : Jvm.MethodName) prog_11_method_1_code (2 : Nat) (Option.none : Option Jvm.ClassFile.FieldType)).before args0 about1 = true := code_word (m := ⟨7, 0⟩) (meth := k7m0) (c := k7c0) (by decide +kernel) rfl rfl rfl (by decide +kernel)
set_option maxRecDepth 65536 in
theorem w_c3 : (Jvm.Cond.code ({ cls := "java/lang/Object", name := "<init>", desc := "()V" } : Jvm.MethodName) object_method_1_code (1 : Nat) (Option.none : Option Jvm.ClassFile.FieldType)).before args0 about1 = true := code_word (m := ⟨0, 0⟩) (meth := k0m0) (c := k0c0) (by decide +kernel) rfl rfl rfl (by decide +kernel)
set_option maxRecDepth 65536 in
theorem w_c4 : (Jvm.Cond.code ({ cls := "com/example/okstream/okstream/tap/TapLine$TestPoint", name := "idAt", desc := "(J)J" } : Jvm.MethodName) prog_18_method_4_code (3 : Nat) (Option.some Jvm.ClassFile.FieldType.long)).before args0 about1 = true := code_word (m := ⟨8, 1⟩) (meth := k8m1) (c := k8c1) (by decide +kernel) rfl rfl rfl (by decide +kernel)
def codes1 : List Jvm.Cond := [Jvm.Cond.code x code maxLocals ret, Jvm.Cond.code ({ cls := "com/example/okstream/okstream/tap/TapLine$TestPoint", name := "<init>", desc := "(IZJLjava/lang/String;Lcom/example/okstream/okstream/tap/Directive;Ljava/lang/String;)V" } : Jvm.MethodName) prog_18_method_1_code (8 : Nat) (Option.none : Option Jvm.ClassFile.FieldType), Jvm.Cond.code ({ cls := "com/example/okstream/okstream/tap/TapLine", name := "<init>", desc := "(I)V" } : Jvm.MethodName) prog_11_method_1_code (2 : Nat) (Option.none : Option Jvm.ClassFile.FieldType), Jvm.Cond.code ({ cls := "java/lang/Object", name := "<init>", desc := "()V" } : Jvm.MethodName) object_method_1_code (1 : Nat) (Option.none : Option Jvm.ClassFile.FieldType), Jvm.Cond.code ({ cls := "com/example/okstream/okstream/tap/TapLine$TestPoint", name := "idAt", desc := "(J)J" } : Jvm.MethodName) prog_18_method_4_code (3 : Nat) (Option.some Jvm.ClassFile.FieldType.long)]
set_option maxRecDepth 65536 in
theorem codes_eq : words1.filter isCode = codes1 := rfl
theorem w_codes : ∀ c ∈ words1.filter isCode, c.before args0 about1 = true := by
  rw [codes_eq]
  intro c hc
  simp only [codes1, List.mem_cons, List.not_mem_nil, or_false] at hc
  rcases hc with rfl | rfl | rfl | rfl | rfl
  · exact w_c0
  · exact w_c1
  · exact w_c2
  · exact w_c3
  · exact w_c4
set_option maxRecDepth 65536 in
theorem w_t1 : (words1.take 24).all (fun c => isCode c || c.before args0 about1) = true := by decide +kernel
set_option maxRecDepth 65536 in
theorem w_t2 : ((words1.drop 24).take 24).all (fun c => isCode c || c.before args0 about1) = true := by decide +kernel
set_option maxRecDepth 65536 in
theorem w_t3 : ((words1.drop 24).drop 24).all (fun c => isCode c || c.before args0 about1) = true := by decide +kernel
theorem w_tables : (allAtoms (Jvm.Cond.code x code maxLocals ret :: tables_1)).before args0 about1 = true := by
  rw [allAtoms_all]
  show words1.all (fun c => c.before args0 about1) = true
  refine all_split ?_ w_codes
  rw [← List.take_append_drop 24 words1, List.all_append, w_t1, ← List.take_append_drop 24 (words1.drop 24), List.all_append, w_t2, w_t3]
  rfl
set_option maxRecDepth 65536 in
theorem w_case : (Jvm.Cond.and given_1 narrow_1).before args0 about1 = true := by decide +kernel
theorem w_applies : (headSpec (Jvm.Cond.code x code maxLocals ret :: tables_1) room_1).applies x e0.platform about1 = true :=
  (Spec.applies_iff w_frames).mpr ⟨w_running, w_runnable, w_alone, w_named, w_hears, w_ripe, w_room, w_tables⟩
theorem atStart : AtStart classFile x code maxLocals ret World_1 tables_1 room_1 Calls_1 rest_1 Pre_1 launch0 p0 e0 about1 theMethod args0 below0 :=
  ⟨lists_1, trivial, launch0.admits_env _ _ _, launch0.least_env, fairChoices_fair.cas, fairChoices_fair.clock, w_frames, w_args, w_heap, w_applies, trivial, trivial, w_case⟩
end start1
theorem witness_1 : WitnessClaimed_1 := ⟨start1.p0, start1.e0, start1.about1, start1.theMethod, start1.args0, start1.below0, start1.atStart⟩
end Jvm.Pilot.@@N@@
