import JvmDerived
import JvmDerived.Pilot.@@N@@Statement
import JvmDerived.Pilot.@@N@@Code
set_option linter.unusedVariables false
set_option linter.unusedSimpArgs false
namespace Jvm.RoadKit
open Sem ClassFile Op Lib Jvm.Stand Jvm.Free Jvm.LawKit
section OwnGo
variable {p : Program} {l : Launch} {e : Env} {R : Room} {s : State} {m : MethodId} {args : Array Value} {below : List Frame} {meth : Method} {c : Code} {T : State} {locs : List Loc} {cells slots : Nat} {Z : State} {a0 : Array Value} {h : Heap} {kc ks : Nat} {Q : Option Value → Heap → List Loc → Prop} {G : Outcome → State → Prop} {U U' : State}
/-- from U the walk ends, and G says how -/
def OGo (p : Program) (e : Env) (below : List Frame) (G : Outcome → State → Prop) (U : State) : Prop :=
  ∃ s₂ o, Steps p.tables e below U s₂ ∧ s₂.status = .running ∧ Ended s₂ below o ∧ G o s₂
/-- it returned, Q says what, and the frame is kept -/
def OEnd (s : State) (kc ks : Nat) (Q : Option Value → Heap → List Loc → Prop) (o : Outcome) (t : State) : Prop := ∃ v L, o = .returned v ∧ Q v t.heap L ∧ FrameEnd s o t L kc ks
/-- the same where a String constant may have come to be interned -/
def OEndW (s : State) (kc ks : Nat) (Q : Option Value → Heap → List Loc → Prop) (o : Outcome) (t : State) : Prop := ∃ v L, o = .returned v ∧ Q v t.heap L ∧ ReturnedEndW s o t L kc ks
theorem OGo.go (f : ∀ t, Steps p.tables e below U' t → Steps p.tables e below U t) (k : OGo p e below G U') : OGo p e below G U := by
  obtain ⟨s₂, o, h1, h2⟩ := k
  exact ⟨s₂, o, f _ h1, h2⟩
theorem OGo.trans (f : Steps p.tables e below U U') (k : OGo p e below G U') : OGo p e below G U := OGo.go (fun _ r => f.trans r) k
/-- two roads that meet again, in a state that differs in one value -/
theorem OGo.ite1 {α : Type} {P : Prop} [Decidable P] (f : α → State) {x y : α} (h1 : P → OGo p e below G (f x) → OGo p e below G U) (h2 : ¬ P → OGo p e below G (f y) → OGo p e below G U) (k : ∀ z, z = (if P then x else y) → OGo p e below G (f z)) : OGo p e below G U := by
  by_cases q : P
  · exact h1 q (k _ (if_pos q).symm)
  · exact h2 q (k _ (if_neg q).symm)
theorem OGo.ite2 {α β : Type} {P : Prop} [Decidable P] (f : α → β → State) {x y : α} {x' y' : β} (h1 : P → OGo p e below G (f x x') → OGo p e below G U) (h2 : ¬ P → OGo p e below G (f y y') → OGo p e below G U) (k : ∀ z z', z = (if P then x else y) → z' = (if P then x' else y') → OGo p e below G (f z z')) : OGo p e below G U := by
  by_cases q : P
  · exact h1 q (k _ _ (if_pos q).symm (if_pos q).symm)
  · exact h2 q (k _ _ (if_neg q).symm (if_neg q).symm)
theorem OGo.cut {H : Prop} (V : State) (k1 : (H → OGo p e below G V) → OGo p e below G U) (k2 : H → OGo p e below G V) : OGo p e below G U := k1 k2
theorem OGo.cut2 {α : Type} {H : α → Prop} (V : α → State) (k1 : (∀ a, H a → OGo p e below G (V a)) → OGo p e below G U) (k2 : ∀ a, H a → OGo p e below G (V a)) : OGo p e below G U := k1 k2
theorem OGo.nm {α : Type} (f : α → State) {x : α} (k : ∀ z, z = x → OGo p e below G (f z)) : OGo p e below G (f x) := k x rfl
/-- the end of the walk -/
theorem OGo.ret (X : Stand p l e R s m args below meth c T locs cells slots) {v : Option Value} {g : JFrame} (hv : meth.sig.returnType = none → v = none) (hlk : meth.locks = false)
    (hs : ∀ fs, (∀ (f : JFrame) (acts : List Action), f.method = m → f.locked = none → f.entered = [] → (doReturn e (T.setTop f) acts v).1 = T.setFrames fs) → Steps p.tables e below (T.setTop g) (T.setFrames fs))
    (hQ : Q v T.heap locs) (hc : cells ≤ kc) (hl : slots ≤ ks) : OGo p e below (OEnd s kc ks Q) (T.setTop g) := by
  obtain ⟨fs, hr, hrun, hended, hW, hsame⟩ := X.leave (v := v) hv hlk
  exact ⟨_, _, hs fs hr, hrun, hended, v, locs, rfl, hQ, ⟨_, rfl⟩, hW, hsame.mono hc hl⟩
/-- return of a boolean, byte, char, short -/
theorem OGo.retN (X : Stand p l e R s m args below meth c T locs cells slots) (hx : p.tables.exec = Jvm.exec) {pc : Nat} {Ls : Array Slot} {z : Int32} {t : FieldType} {rest : List Value} (hret : meth.sig.returnType = some t) (hlk : meth.locks = false) (ht : t = .boolean ∨ t = .byte ∨ t = .char ∨ t = .short)
    (hd : decode c.code pc = .ok (.ireturn, 1)) (hQ : Q (some (.int (nar t z))) T.heap locs) (hc : cells ≤ kc) (hl : slots ≤ ks) : OGo p e below (OEnd s kc ks Q) (T.setTop (mkF m pc Ls (.int z :: rest))) :=
  OGo.ret X (fun q => by rw [hret] at q; cases q) hlk (fun fs hr => Jvm.RoadKit.retN X hx hret ht hd hr) hQ hc hl
/-- return of an int, a long, a double, a reference -/
theorem OGo.retV (X : Stand p l e R s m args below meth c T locs cells slots) (hx : p.tables.exec = Jvm.exec) {pc : Nat} {Ls : Array Slot} {w : Value} {t : FieldType} {i : Instr} {rest : List Value} (hret : meth.sig.returnType = some t) (hlk : meth.locks = false) (hn : narrow t w = w)
    (hi : (i = .ireturn ∧ (t = .int ∨ t = .boolean ∨ t = .byte ∨ t = .char ∨ t = .short) ∧ ∃ z, w = .int z) ∨ (i = .lreturn ∧ t = .long ∧ ∃ z, w = .long z) ∨ (i = .dreturn ∧ t = .double ∧ ∃ z, w = .double z) ∨ (i = .freturn ∧ t = .float ∧ ∃ z, w = .float z) ∨ (i = .areturn ∧ t.isReference = true ∧ w.isRef = true))
    (hd : decode c.code pc = .ok (i, 1)) (hQ : Q (some w) T.heap locs) (hc : cells ≤ kc) (hl : slots ≤ ks) : OGo p e below (OEnd s kc ks Q) (T.setTop (mkF m pc Ls (w :: rest))) :=
  OGo.ret X (fun q => by rw [hret] at q; cases q) hlk (fun fs hr => Jvm.RoadKit.retOut X hx hret hn hi hd hr) hQ hc hl
theorem OGo.retI (X : Stand p l e R s m args below meth c T locs cells slots) (hx : p.tables.exec = Jvm.exec) {pc : Nat} {Ls : Array Slot} {z : Int32} {rest : List Value} (hret : meth.sig.returnType = some .int) (hlk : meth.locks = false)
    (hd : decode c.code pc = .ok (.ireturn, 1)) (hQ : Q (some (.int z)) T.heap locs) (hc : cells ≤ kc) (hl : slots ≤ ks) : OGo p e below (OEnd s kc ks Q) (T.setTop (mkF m pc Ls (.int z :: rest))) :=
  OGo.retV X hx hret hlk rfl (Or.inl ⟨rfl, Or.inl rfl, z, rfl⟩) hd hQ hc hl
theorem OGo.retJ (X : Stand p l e R s m args below meth c T locs cells slots) (hx : p.tables.exec = Jvm.exec) {pc : Nat} {Ls : Array Slot} {z : Int64} {rest : List Value} (hret : meth.sig.returnType = some .long) (hlk : meth.locks = false)
    (hd : decode c.code pc = .ok (.lreturn, 1)) (hQ : Q (some (.long z)) T.heap locs) (hc : cells ≤ kc) (hl : slots ≤ ks) : OGo p e below (OEnd s kc ks Q) (T.setTop (mkF m pc Ls (.long z :: rest))) :=
  OGo.retV X hx hret hlk rfl (Or.inr (Or.inl ⟨rfl, rfl, z, rfl⟩)) hd hQ hc hl
theorem OGo.retD (X : Stand p l e R s m args below meth c T locs cells slots) (hx : p.tables.exec = Jvm.exec) {pc : Nat} {Ls : Array Slot} {z : UInt64} {rest : List Value} (hret : meth.sig.returnType = some .double) (hlk : meth.locks = false)
    (hd : decode c.code pc = .ok (.dreturn, 1)) (hQ : Q (some (.double z)) T.heap locs) (hc : cells ≤ kc) (hl : slots ≤ ks) : OGo p e below (OEnd s kc ks Q) (T.setTop (mkF m pc Ls (.double z :: rest))) :=
  OGo.retV X hx hret hlk rfl (Or.inr (Or.inr (Or.inl ⟨rfl, rfl, z, rfl⟩))) hd hQ hc hl
theorem OGo.retA (X : Stand p l e R s m args below meth c T locs cells slots) (hx : p.tables.exec = Jvm.exec) {pc : Nat} {Ls : Array Slot} {w : Value} {t : FieldType} {rest : List Value} (hret : meth.sig.returnType = some t) (hlk : meth.locks = false) (ht : t.isReference = true) (hw : w.isRef = true)
    (hd : decode c.code pc = .ok (.areturn, 1)) (hQ : Q (some w) T.heap locs) (hc : cells ≤ kc) (hl : slots ≤ ks) : OGo p e below (OEnd s kc ks Q) (T.setTop (mkF m pc Ls (w :: rest))) :=
  OGo.retV X hx hret hlk (by cases t <;> first | (cases ht; done) | (cases w <;> first | rfl | (cases hw; done))) (Or.inr (Or.inr (Or.inr (Or.inr ⟨rfl, ht, hw⟩)))) hd hQ hc hl
theorem OGo.ret0 (X : Stand p l e R s m args below meth c T locs cells slots) (hx : p.tables.exec = Jvm.exec) {pc : Nat} {Ls : Array Slot} (hret : meth.sig.returnType = none) (hlk : meth.locks = false)
    (hd : decode c.code pc = .ok (.return_, 1)) (hQ : Q none T.heap locs) (hc : cells ≤ kc) (hl : slots ≤ ks) : OGo p e below (OEnd s kc ks Q) (T.setTop (mkF m pc Ls [])) :=
  OGo.ret X (fun _ => rfl) hlk (fun fs hr => X.returnOut hx hret hd hr) hQ hc hl
/-- the end of the walk where a String constant may have come to be interned -/
theorem OGo.retW {vm₁ : Vm} {n : Nat} (X : Stand p l e R (s.setVm vm₁) m args below meth c T locs cells slots) (hS : s.Since vm₁ n) (hn : n ≤ T.heap.size) {v : Option Value} {g : JFrame} (hv : meth.sig.returnType = none → v = none) (hlk : meth.locks = false)
    (hs : ∀ fs, (∀ (f : JFrame) (acts : List Action), f.method = m → f.locked = none → f.entered = [] → (doReturn e (T.setTop f) acts v).1 = T.setFrames fs) → Steps p.tables e below (T.setTop g) (T.setFrames fs))
    (hQ : Q v T.heap locs) (hc : cells ≤ kc) (hl : slots ≤ ks) : OGo p e below (OEndW s kc ks Q) (T.setTop g) := by
  obtain ⟨fs, hr, hrun, hended, h1, h2, h3, h4⟩ := X.leaveW hS hn (v := v) hv hlk
  exact ⟨_, _, hs fs hr, hrun, hended, v, locs, rfl, hQ, h1, h2, h3, h4.mono hc hl⟩
theorem OGo.retNW {vm₁ : Vm} {n : Nat} (X : Stand p l e R (s.setVm vm₁) m args below meth c T locs cells slots) (hS : s.Since vm₁ n) (hn : n ≤ T.heap.size) (hx : p.tables.exec = Jvm.exec) {pc : Nat} {Ls : Array Slot} {z : Int32} {t : FieldType} {rest : List Value} (hret : meth.sig.returnType = some t) (hlk : meth.locks = false) (ht : t = .boolean ∨ t = .byte ∨ t = .char ∨ t = .short)
    (hd : decode c.code pc = .ok (.ireturn, 1)) (hQ : Q (some (.int (nar t z))) T.heap locs) (hc : cells ≤ kc) (hl : slots ≤ ks) : OGo p e below (OEndW s kc ks Q) (T.setTop (mkF m pc Ls (.int z :: rest))) :=
  OGo.retW X hS hn (fun q => by rw [hret] at q; cases q) hlk (fun fs hr => Jvm.RoadKit.retN X hx hret ht hd hr) hQ hc hl
/-- a body's contract: called with 'as' at a heap h0, it returns, and Q says what it left -/
def OMet (l : Launch) (Z : State) (y : MethodName) (bytes : ByteArray) (maxL : Nat) (ret : Option FieldType) (ws : List Jvm.Cond) (rm : Room) (as : Array Value) (h0 : Heap) (Q : Option Value → Heap → List Loc → Prop) : Prop :=
  MetFree l y (head1 (Jvm.Cond.code y bytes maxL ret :: ws) rm) (fun a U => a = as ∧ Z.Warmed39 U.vm ∧ U.heap = h0) (fun _ _ _ _ _ => True) (fun _ U o U' => ∃ v L, o = .returned v ∧ Q v U'.heap L ∧ FrameEnd U o U' L rm.cells rm.slots)
theorem OMet.of {y : MethodName} {bytes : ByteArray} {maxL : Nat} {ret : Option FieldType} {ws : List Jvm.Cond} {rm : Room} {as : Array Value} {h0 : Heap} (hpn : plainFor y = true)
    (H : ∀ (p : Program) (e : Env) (s : State) (m : MethodId) (below : List Frame) (meth : Method) (c : Code) (T0 : State), Stand p l e rm s m as below meth c T0 [] 0 0 → p.tables.exec = Jvm.exec → c.code = bytes → c.maxLocals = maxL → s.vm.findClass y.cls = some m.cls → meth.name = y.name → meth.sig.returnType = ret → meth.locks = false → Z.Warmed39 s.vm → T0.heap = h0 →
      OGo p e below (OEnd s rm.cells rm.slots Q) (T0.setTop (entryFrame m as maxL))) : OMet l Z y bytes maxL ret ws rm as h0 Q := by
  refine MetFree.of_bodySF hpn hisR ?_
  intro p e s m args below meth c s₁ Bd hml0 hP hK
  obtain ⟨rfl, hZ, hh⟩ := hP
  exact H p e s m below meth c s₁ (Stand.of_body Bd) Bd.exec Bd.bytes hml0 (findClass_of_methodNamed Bd.named) (name_of_methodNamed Bd.named Bd.method).1 Bd.returns Bd.notSynchronized hZ (by rw [← hh, Bd.state]; rfl)
def OMetW (l : Launch) (Z : State) (y : MethodName) (bytes : ByteArray) (maxL : Nat) (ret : Option FieldType) (ws : List Jvm.Cond) (rm : Room) (as : Array Value) (h0 : Heap) (Q : Option Value → Heap → List Loc → Prop) : Prop :=
  MetFree l y (head1 (Jvm.Cond.code y bytes maxL ret :: ws) rm) (fun a U => a = as ∧ Z.Warmed39 U.vm ∧ U.heap = h0) (fun _ _ _ _ _ => True) (fun _ U o U' => ∃ v L, o = .returned v ∧ Q v U'.heap L ∧ ReturnedEndW U o U' L rm.cells rm.slots)
theorem OMetW.of {y : MethodName} {bytes : ByteArray} {maxL : Nat} {ret : Option FieldType} {ws : List Jvm.Cond} {rm : Room} {as : Array Value} {h0 : Heap} (hpn : plainFor y = true)
    (H : ∀ (p : Program) (e : Env) (s : State) (m : MethodId) (below : List Frame) (meth : Method) (c : Code) (T0 : State), Stand p l e rm s m as below meth c T0 [] 0 0 → p.tables.exec = Jvm.exec → c.code = bytes → c.maxLocals = maxL → s.vm.findClass y.cls = some m.cls → meth.name = y.name → meth.sig.returnType = ret → meth.locks = false → Z.Warmed39 s.vm → T0.heap = h0 →
      OGo p e below (OEndW s rm.cells rm.slots Q) (T0.setTop (entryFrame m as maxL))) : OMetW l Z y bytes maxL ret ws rm as h0 Q := by
  refine MetFree.of_bodySF hpn hisR ?_
  intro p e s m args below meth c s₁ Bd hml0 hP hK
  obtain ⟨rfl, hZ, hh⟩ := hP
  exact H p e s m below meth c s₁ (Stand.of_body Bd) Bd.exec Bd.bytes hml0 (findClass_of_methodNamed Bd.named) (name_of_methodNamed Bd.named Bd.method).1 Bd.returns Bd.notSynchronized hZ (by rw [← hh, Bd.state]; rfl)
/-- a call of a static method -/
theorem OGo.callS (X : Stand p l e R s m args below meth c T locs cells slots) (hx : p.tables.exec = Jvm.exec) (hZ : Z.Warmed39 s.vm) {own : String} {index : Nat} {y : MethodName} {bytes : ByteArray} {maxL : Nat} {ret : Option FieldType}
    (hown : s.vm.findClass own = some m.cls) (w1 : (Jvm.Cond.methodLink own index y).before a0 Z = true) (w2 : (Jvm.Cond.static y).before a0 Z = true) (w3 : (Jvm.Cond.initialized y.cls).before a0 Z = true) (w4 : (Jvm.Cond.code y bytes maxL ret).before a0 Z = true)
    (hy : y.cls ≠ "java/lang/invoke/MethodHandle" ∧ y.cls ≠ "java/lang/invoke/VarHandle") {g : JFrame} {argsL rest : List Value} {rm : Room} {Q' : Option Value → Heap → List Loc → Prop} (eT : T.heap = h) (hM : OMet l Z y bytes maxL ret [] rm argsL.toArray h Q')
    (hg : g.method = m) (hsize : g.locals.size = c.maxLocals) (hlen : ∀ sig, parseMethodDescriptor y.desc = some sig → argsL.length = sig.parameters.length) (hstack : g.stack = argsL.reverse ++ rest) {W : Nat} (hW : 2 * g.monitorRoom + (rest.map fun v => v.category).sum ≤ W) (hd : decode c.code g.pc = .ok (.invokestatic index, 3))
    (hf : rm.frames + 1 ≤ R.frames) (hl : W + (maxL + 11) + rm.locals ≤ R.locals) (hc : cells + rm.cells ≤ R.cells) (hs : slots + rm.slots ≤ R.slots)
    (k : ∀ (v : Option Value) (T' : State) (L' : List Loc), Stand p l e R s m args below meth c T' (locs ++ L') (cells + rm.cells) (slots + rm.slots) → Q' v T'.heap L' → OGo p e below G (T'.setTop { g with pc := g.pc + 3, stack := v.toList ++ rest })) : OGo p e below G (T.setTop g) := by
  obtain ⟨v, vm₁, B, hW₁, X', ⟨L, hQ, e1, e2, e3⟩, st⟩ := Jvm.LawKit.callS X hx (y := y) hown (mvT hZ w1) (mvT hZ w2) (mvT hZ w3) (mvT hZ w4) hy (backOf (W := W) hM hZ w4 w3 hf hl) (g := g) hg hsize (argsL := argsL) (rest := rest) hlen hstack hW hd (fun _ _ => ⟨rfl, eT, hc, hs⟩)
  rw [e1, e2, e3] at X'
  exact OGo.go st (k v B.U L X' hQ)
/-- a call of a constructor -/
theorem OGo.callI (X : Stand p l e R s m args below meth c T locs cells slots) (hx : p.tables.exec = Jvm.exec) (hZ : Z.Warmed39 s.vm) {own : String} {index : Nat} {y : MethodName} {bytes : ByteArray} {maxL : Nat} (hy1 : y.name = "<init>")
    (hown : s.vm.findClass own = some m.cls) (w1 : (Jvm.Cond.methodLink own index y).before a0 Z = true) (w2 : (Jvm.Cond.instanceMethod y).before a0 Z = true) (w3 : (Jvm.Cond.initialized y.cls).before a0 Z = true) (w4 : (Jvm.Cond.code y bytes maxL none).before a0 Z = true)
    (hy : y.cls ≠ "java/lang/invoke/MethodHandle" ∧ y.cls ≠ "java/lang/invoke/VarHandle") {g : JFrame} {a : Addr} {argsL rest : List Value} {rm : Room} {Q' : Option Value → Heap → List Loc → Prop} (eT : T.heap = h) (hM : OMet l Z y bytes maxL none [] rm (.ref a :: argsL).toArray h Q')
    (hg : g.method = m) (hsize : g.locals.size = c.maxLocals) (hlen : ∀ sig, parseMethodDescriptor y.desc = some sig → argsL.length = sig.parameters.length) (hstack : g.stack = argsL.reverse ++ .ref a :: rest) {W : Nat} (hW : 2 * g.monitorRoom + (rest.map fun v => v.category).sum ≤ W) (hd : decode c.code g.pc = .ok (.invokespecial index, 3))
    (hf : rm.frames + 1 ≤ R.frames) (hl : W + (maxL + 11) + rm.locals ≤ R.locals) (hc : cells + rm.cells ≤ R.cells) (hs : slots + rm.slots ≤ R.slots)
    (k : ∀ (v : Option Value) (T' : State) (L' : List Loc), Stand p l e R s m args below meth c T' (locs ++ L') (cells + rm.cells) (slots + rm.slots) → Q' v T'.heap L' → OGo p e below G (T'.setTop { g with pc := g.pc + 3, stack := v.toList ++ rest })) : OGo p e below G (T.setTop g) := by
  obtain ⟨v, vm₁, B, hW₁, X', ⟨L, hQ, e1, e2, e3⟩, st⟩ := X.specialBack hx (y := y) hy1 hown (mvT hZ w1) (mvT hZ w2) (mvT hZ w4) hy (backOf (W := W) hM hZ w4 w3 hf hl) (g := g) hg hsize (Steps.refl _) (a := a) (argsL := argsL) (rest := rest) hlen hstack hW hd (fun _ _ => ⟨rfl, eT, hc, hs⟩)
  rw [e1, e2, e3] at X'
  exact OGo.trans st (k v B.U L X' hQ)
/-- a call of an instance method -/
theorem OGo.callV (X : Stand p l e R s m args below meth c T locs cells slots) (hx : p.tables.exec = Jvm.exec) (hZ : Z.Warmed39 s.vm) {own C : String} {index : Nat} {y : MethodName} {bytes : ByteArray} {maxL : Nat} {ret : Option FieldType}
    (hown : s.vm.findClass own = some m.cls) (w1 : (Jvm.Cond.methodLink own index y).before a0 Z = true) (w5 : (Jvm.Cond.declares y).before a0 Z = true) (w6 : (Jvm.Cond.selects C y y).before a0 Z = true) (w2 : (Jvm.Cond.instanceMethod y).before a0 Z = true) (w3 : (Jvm.Cond.initialized y.cls).before a0 Z = true) (w4 : (Jvm.Cond.code y bytes maxL ret).before a0 Z = true)
    (hy : y.cls ≠ "java/lang/invoke/MethodHandle" ∧ y.cls ≠ "java/lang/invoke/VarHandle") {g : JFrame} {a : Addr} {argsL rest : List Value} {rm : Room} {Q' : Option Value → Heap → List Loc → Prop} (eT : T.heap = h) (E : Exa Z h a C) (hM : OMet l Z y bytes maxL ret [] rm (.ref a :: argsL).toArray h Q')
    (hg : g.method = m) (hsize : g.locals.size = c.maxLocals) (hlen : ∀ sig, parseMethodDescriptor y.desc = some sig → argsL.length = sig.parameters.length) (hstack : g.stack = argsL.reverse ++ .ref a :: rest) {W : Nat} (hW : 2 * g.monitorRoom + (rest.map fun v => v.category).sum ≤ W) (hd : decode c.code g.pc = .ok (.invokevirtual index, 3))
    (hf : rm.frames + 1 ≤ R.frames) (hl : W + (maxL + 11) + rm.locals ≤ R.locals) (hc : cells + rm.cells ≤ R.cells) (hs : slots + rm.slots ≤ R.slots)
    (k : ∀ (v : Option Value) (T' : State) (L' : List Loc), Stand p l e R s m args below meth c T' (locs ++ L') (cells + rm.cells) (slots + rm.slots) → Q' v T'.heap L' → OGo p e below G (T'.setTop { g with pc := g.pc + 3, stack := v.toList ++ rest })) : OGo p e below G (T.setTop g) := by
  obtain ⟨cB, kB, q1, q2, q3⟩ := isOf hZ eT E
  obtain ⟨v, vm₁, B, hW₁, X', ⟨L, hQ, e1, e2, e3⟩, st⟩ := X.virtualBack hx (y := y) (z := y) hown (mvT hZ w1) (mvT hZ w5) (notFace_of_selects (args := #[]) (mvT hZ w6)) (mvT hZ w6) (mvT hZ w2) hy (backOf (W := W) hM hZ w4 w3 hf hl) q1 q3 (g := g) hg hsize (Steps.refl _) (argsL := argsL) (rest := rest) hlen hstack hW hd (fun _ _ => ⟨rfl, eT, hc, hs⟩)
  rw [e1, e2, e3] at X'
  exact OGo.trans st (k v B.U L X' hQ)
/-- what a contract says that leaves the heap as it was -/
def OPure (w : Option Value) (h0 : Heap) (v : Option Value) (h : Heap) (L : List Loc) : Prop := v = w ∧ h = h0 ∧ L = []
/-- a static that a sheet says to hold an object of just this class -/
theorem own_enum {s : State} {args : Array Value} {C n d K : String} (hx : (Jvm.Cond.exactly (.static C n d) K).value args s none s [] = some true) (w1 : (Jvm.Cond.initialized C).before args s = true) (w2 : (Jvm.Cond.laysStatic C n d).before args s = true) :
    ∃ a, (Term.static C n d).eval args s none [] s = some (.ref a) ∧ Sta s s.heap C n d (.ref a) ∧ Exa s s.heap a K := by
  obtain ⟨a, ev⟩ := exa_v hx
  exact ⟨a, ev, Sta.start ev (Or.inr ⟨w1, w2⟩), Exa.start ev hx⟩
theorem own_efld {s : State} {args : Array Value} {t : Term} {C n d : String} {a : Addr} {k : Int32} (ev : t.eval args s none [] s = some (.ref a)) (h : (Jvm.Cond.eq (.field t C n d) (.int k)).value args s none s [] = some true) : Fld s s.heap a C n d (.int k) := by
  obtain ⟨x, y, h1, h2, h3, h4⟩ := cmp_v (Or.inl h)
  have h2' : y = .int k := (Option.some.inj h2).symm
  subst h2'
  obtain ⟨z, rfl⟩ := h4
  have q : (Jvm.Cond.eq (.field t C n d) (.int k)).value args s none s [] = some (decide (z = k)) := by simp [Cond.value, h1, h2]
  have e := gotT q h
  subst e
  exact Fld.start ((fld_at ev).symm.trans h1)
theorem own_sta_keep {h' : Heap} {C n d : String} {v : Value} {ws : List Addr} (F : Sta Z h C n d v) (K : Keep h h' ws) (q : ∀ x ∈ ws, ∀ cell : Cell, h[x]? = some cell → cell.vm.isStatics = false) : Sta Z h' C n d v := by
  obtain ⟨cf, i, k, f, st, cell, h1, h2, h3, h4, h5, h6, h7⟩ := F
  exact ⟨cf, i, k, f, st, cell, h1, h2, h3, h4, K.2.1 _ _ h5 (fun r => by rw [q _ r _ h5] at h6; cases h6), h6, h7⟩
theorem own_plain {a : Addr} {C : String} (F : Exa Z h a C) : ∀ cell : Cell, h[a]? = some cell → cell.vm.isStatics = false := fun cell hc => by
  obtain ⟨c', k, h1, h2, h3, h4, h5⟩ := F
  cases h1.symm.trans hc
  exact h4
theorem nar_b0 : nar .boolean 0 = 0 := by decide
theorem nar_b1 : nar .boolean 1 = 1 := by decide
theorem nar_bite {P : Prop} [Decidable P] {x y : Int32} : nar .boolean (if P then x else y) = if P then nar .boolean x else nar .boolean y := by split <;> rfl
end OwnGo
end Jvm.RoadKit
namespace Jvm.Pilot.@@N@@
open Jvm Jvm.ClassFile Sem Op Lib Jvm.Free Jvm.Stand Jvm.LawKit Jvm.RoadKit Bundle Jvm.Pilot.@@N@@.Jvm.D
theorem pd_0 : parseMethodDescriptor "(C)Z" = some ⟨[.char], some .boolean⟩ := by decide +kernel
def F_isl (x0 : Int32) : Int32 := (nar .boolean (if x0 < (97 : Int32) then (if x0 < (65 : Int32) then (0 : Int32) else (if (90 : Int32) < x0 then (0 : Int32) else (1 : Int32))) else (if (122 : Int32) < x0 then (if x0 < (65 : Int32) then (0 : Int32) else (if (90 : Int32) < x0 then (0 : Int32) else (1 : Int32))) else (1 : Int32))))
theorem d_isl_0 : decode prog_23_method_5_code 0 = .ok (.iload_n 0, 1) := by decide +kernel
theorem d_isl_1 : decode prog_23_method_5_code 1 = .ok (.bipush 97, 2) := by decide +kernel
theorem d_isl_3 : decode prog_23_method_5_code 3 = .ok (.if_icmp .lt 9, 3) := by decide +kernel
theorem d_isl_6 : decode prog_23_method_5_code 6 = .ok (.iload_n 0, 1) := by decide +kernel
theorem d_isl_7 : decode prog_23_method_5_code 7 = .ok (.bipush 122, 2) := by decide +kernel
theorem d_isl_9 : decode prog_23_method_5_code 9 = .ok (.if_icmp .le 15, 3) := by decide +kernel
theorem d_isl_12 : decode prog_23_method_5_code 12 = .ok (.iload_n 0, 1) := by decide +kernel
theorem d_isl_13 : decode prog_23_method_5_code 13 = .ok (.bipush 65, 2) := by decide +kernel
theorem d_isl_15 : decode prog_23_method_5_code 15 = .ok (.if_icmp .lt 13, 3) := by decide +kernel
theorem d_isl_18 : decode prog_23_method_5_code 18 = .ok (.iload_n 0, 1) := by decide +kernel
theorem d_isl_19 : decode prog_23_method_5_code 19 = .ok (.bipush 90, 2) := by decide +kernel
theorem d_isl_21 : decode prog_23_method_5_code 21 = .ok (.if_icmp .gt 7, 3) := by decide +kernel
theorem d_isl_24 : decode prog_23_method_5_code 24 = .ok (.iconst 1, 1) := by decide +kernel
theorem d_isl_25 : decode prog_23_method_5_code 25 = .ok (.goto 4, 3) := by decide +kernel
theorem d_isl_28 : decode prog_23_method_5_code 28 = .ok (.iconst 0, 1) := by decide +kernel
theorem d_isl_29 : decode prog_23_method_5_code 29 = .ok (.ireturn, 1) := by decide +kernel
theorem ef_isl (m : MethodId) (x0 : Int32) : entryFrame m #[(.int x0)] 1 = mkF m 0 #[.val (.int x0)] [] := by first | (simp [entryFrame, mkF, argsToLocals, Value.category]; done) | rfl
theorem pn_isl : plainFor (⟨"com/example/okstream/okstream/tap/YamlText", "isLetter", "(C)Z"⟩ : MethodName) = true := by first | exact plainFor_of_name (by first | (simp [plainName, overriddenIn]; done) | decide +kernel) | decide +kernel
set_option maxRecDepth 65536 in
set_option maxHeartbeats 40000000 in
theorem rm_isl (l : Launch) (Z : State) (a0 : Array Value) (hw : ∀ d ∈ tables_1, d.before a0 Z = true) (x0 : Int32)  (h0 : Heap)  :
    OMet l Z (⟨"com/example/okstream/okstream/tap/YamlText", "isLetter", "(C)Z"⟩ : MethodName) prog_23_method_5_code 1 (some .boolean) [] ({ frames := 0, cells := 0, slots := 0, locals := 0 } : Room) #[(.int x0)] h0 (OPure (some (.int (F_isl x0))) h0) := by
  refine OMet.of pn_isl ?_
  intro p e s m below meth c T0 X0 hx hby hml hown0 hnm hret hlk hZ e0
  have hown : s.vm.findClass "com/example/okstream/okstream/tap/YamlText" = some m.cls := hown0
  refine OGo.go (fun t k => castTop (ef_isl m x0) k) ?_
  refine OGo.go (U' := T0.setTop (mkF m 1 #[.val (.int x0)] [(.int x0)])) (fun _ k => XS.iloadN X0.here hx rfl (hb hby d_isl_0) rfl k) ?_
  refine OGo.go (U' := T0.setTop (mkF m 3 #[.val (.int x0)] [(.int (97 : Int32)), (.int x0)])) (fun _ k => XS.bipush X0.here hx rfl (hb hby d_isl_1) k) ?_
  refine OGo.ite1 (P := x0 < (97 : Int32)) (fun (z2 : Int32) => T0.setTop (mkF m 29 #[.val (.int x0)] [(.int z2)])) (x := (if x0 < (65 : Int32) then (0 : Int32) else (if (90 : Int32) < x0 then (0 : Int32) else (1 : Int32)))) (y := (if (122 : Int32) < x0 then (if x0 < (65 : Int32) then (0 : Int32) else (if (90 : Int32) < x0 then (0 : Int32) else (1 : Int32))) else (1 : Int32))) (fun hc1 k3 => ?_) (fun hc1 k3 => ?_) ?_
  · skip
    refine OGo.go (U' := T0.setTop (mkF m 12 #[.val (.int x0)] [])) (fun _ k => XS.icmpYes X0.here hx rfl (pc0 := 3) (pc' := 12) rfl (hb hby d_isl_3) rfl (tlt hc1).1 (by decide) (by decide) k) ?_
    refine OGo.go (U' := T0.setTop (mkF m 13 #[.val (.int x0)] [(.int x0)])) (fun _ k => XS.iloadN X0.here hx rfl (hb hby d_isl_12) rfl k) ?_
    refine OGo.go (U' := T0.setTop (mkF m 15 #[.val (.int x0)] [(.int (65 : Int32)), (.int x0)])) (fun _ k => XS.bipush X0.here hx rfl (hb hby d_isl_13) k) ?_
    refine OGo.ite1 (P := x0 < (65 : Int32)) (fun (z5 : Int32) => T0.setTop (mkF m 29 #[.val (.int x0)] [(.int z5)])) (x := (0 : Int32)) (y := (if (90 : Int32) < x0 then (0 : Int32) else (1 : Int32))) (fun hc4 k6 => ?_) (fun hc4 k6 => ?_) (fun z5 hz5 => by subst hz5; exact k3)
    · skip
      refine OGo.go (U' := T0.setTop (mkF m 28 #[.val (.int x0)] [])) (fun _ k => XS.icmpYes X0.here hx rfl (pc0 := 15) (pc' := 28) rfl (hb hby d_isl_15) rfl (tlt hc4).1 (by decide) (by decide) k) ?_
      refine OGo.go (U' := T0.setTop (mkF m 29 #[.val (.int x0)] [(.int (0 : Int32))])) (fun _ k => XS.iconst X0.here hx rfl (hb hby d_isl_28) k) ?_
      exact k6
    · skip
      refine OGo.go (U' := T0.setTop (mkF m 18 #[.val (.int x0)] [])) (fun _ k => XS.icmpNo X0.here hx rfl (hb hby d_isl_15) rfl (flt hc4).1 k) ?_
      refine OGo.go (U' := T0.setTop (mkF m 19 #[.val (.int x0)] [(.int x0)])) (fun _ k => XS.iloadN X0.here hx rfl (hb hby d_isl_18) rfl k) ?_
      refine OGo.go (U' := T0.setTop (mkF m 21 #[.val (.int x0)] [(.int (90 : Int32)), (.int x0)])) (fun _ k => XS.bipush X0.here hx rfl (hb hby d_isl_19) k) ?_
      refine OGo.ite1 (P := (90 : Int32) < x0) (fun (z8 : Int32) => T0.setTop (mkF m 29 #[.val (.int x0)] [(.int z8)])) (x := (0 : Int32)) (y := (1 : Int32)) (fun hc7 k9 => ?_) (fun hc7 k9 => ?_) (fun z8 hz8 => by subst hz8; exact k6)
      · skip
        refine OGo.go (U' := T0.setTop (mkF m 28 #[.val (.int x0)] [])) (fun _ k => XS.icmpYes X0.here hx rfl (pc0 := 21) (pc' := 28) rfl (hb hby d_isl_21) rfl (tlt hc7).2.2.1 (by decide) (by decide) k) ?_
        refine OGo.go (U' := T0.setTop (mkF m 29 #[.val (.int x0)] [(.int (0 : Int32))])) (fun _ k => XS.iconst X0.here hx rfl (hb hby d_isl_28) k) ?_
        exact k9
      · skip
        refine OGo.go (U' := T0.setTop (mkF m 24 #[.val (.int x0)] [])) (fun _ k => XS.icmpNo X0.here hx rfl (hb hby d_isl_21) rfl (flt hc7).2.2.1 k) ?_
        refine OGo.go (U' := T0.setTop (mkF m 25 #[.val (.int x0)] [(.int (1 : Int32))])) (fun _ k => XS.iconst X0.here hx rfl (hb hby d_isl_24) k) ?_
        refine OGo.go (U' := T0.setTop (mkF m 29 #[.val (.int x0)] [(.int (1 : Int32))])) (fun _ k => XS.goto X0.here hx rfl (pc0 := 25) (pc' := 29) rfl (hb hby d_isl_25) (by decide) (by decide) k) ?_
        exact k9
  · skip
    refine OGo.go (U' := T0.setTop (mkF m 6 #[.val (.int x0)] [])) (fun _ k => XS.icmpNo X0.here hx rfl (hb hby d_isl_3) rfl (flt hc1).1 k) ?_
    refine OGo.go (U' := T0.setTop (mkF m 7 #[.val (.int x0)] [(.int x0)])) (fun _ k => XS.iloadN X0.here hx rfl (hb hby d_isl_6) rfl k) ?_
    refine OGo.go (U' := T0.setTop (mkF m 9 #[.val (.int x0)] [(.int (122 : Int32)), (.int x0)])) (fun _ k => XS.bipush X0.here hx rfl (hb hby d_isl_7) k) ?_
    refine OGo.ite1 (P := (122 : Int32) < x0) (fun (z11 : Int32) => T0.setTop (mkF m 29 #[.val (.int x0)] [(.int z11)])) (x := (if x0 < (65 : Int32) then (0 : Int32) else (if (90 : Int32) < x0 then (0 : Int32) else (1 : Int32)))) (y := (1 : Int32)) (fun hc10 k12 => ?_) (fun hc10 k12 => ?_) (fun z11 hz11 => by subst hz11; exact k3)
    · skip
      refine OGo.go (U' := T0.setTop (mkF m 12 #[.val (.int x0)] [])) (fun _ k => XS.icmpNo X0.here hx rfl (hb hby d_isl_9) rfl (tlt hc10).2.2.2 k) ?_
      refine OGo.go (U' := T0.setTop (mkF m 13 #[.val (.int x0)] [(.int x0)])) (fun _ k => XS.iloadN X0.here hx rfl (hb hby d_isl_12) rfl k) ?_
      refine OGo.go (U' := T0.setTop (mkF m 15 #[.val (.int x0)] [(.int (65 : Int32)), (.int x0)])) (fun _ k => XS.bipush X0.here hx rfl (hb hby d_isl_13) k) ?_
      refine OGo.ite1 (P := x0 < (65 : Int32)) (fun (z14 : Int32) => T0.setTop (mkF m 29 #[.val (.int x0)] [(.int z14)])) (x := (0 : Int32)) (y := (if (90 : Int32) < x0 then (0 : Int32) else (1 : Int32))) (fun hc13 k15 => ?_) (fun hc13 k15 => ?_) (fun z14 hz14 => by subst hz14; exact k12)
      · skip
        refine OGo.go (U' := T0.setTop (mkF m 28 #[.val (.int x0)] [])) (fun _ k => XS.icmpYes X0.here hx rfl (pc0 := 15) (pc' := 28) rfl (hb hby d_isl_15) rfl (tlt hc13).1 (by decide) (by decide) k) ?_
        refine OGo.go (U' := T0.setTop (mkF m 29 #[.val (.int x0)] [(.int (0 : Int32))])) (fun _ k => XS.iconst X0.here hx rfl (hb hby d_isl_28) k) ?_
        exact k15
      · skip
        refine OGo.go (U' := T0.setTop (mkF m 18 #[.val (.int x0)] [])) (fun _ k => XS.icmpNo X0.here hx rfl (hb hby d_isl_15) rfl (flt hc13).1 k) ?_
        refine OGo.go (U' := T0.setTop (mkF m 19 #[.val (.int x0)] [(.int x0)])) (fun _ k => XS.iloadN X0.here hx rfl (hb hby d_isl_18) rfl k) ?_
        refine OGo.go (U' := T0.setTop (mkF m 21 #[.val (.int x0)] [(.int (90 : Int32)), (.int x0)])) (fun _ k => XS.bipush X0.here hx rfl (hb hby d_isl_19) k) ?_
        refine OGo.ite1 (P := (90 : Int32) < x0) (fun (z17 : Int32) => T0.setTop (mkF m 29 #[.val (.int x0)] [(.int z17)])) (x := (0 : Int32)) (y := (1 : Int32)) (fun hc16 k18 => ?_) (fun hc16 k18 => ?_) (fun z17 hz17 => by subst hz17; exact k15)
        · skip
          refine OGo.go (U' := T0.setTop (mkF m 28 #[.val (.int x0)] [])) (fun _ k => XS.icmpYes X0.here hx rfl (pc0 := 21) (pc' := 28) rfl (hb hby d_isl_21) rfl (tlt hc16).2.2.1 (by decide) (by decide) k) ?_
          refine OGo.go (U' := T0.setTop (mkF m 29 #[.val (.int x0)] [(.int (0 : Int32))])) (fun _ k => XS.iconst X0.here hx rfl (hb hby d_isl_28) k) ?_
          exact k18
        · skip
          refine OGo.go (U' := T0.setTop (mkF m 24 #[.val (.int x0)] [])) (fun _ k => XS.icmpNo X0.here hx rfl (hb hby d_isl_21) rfl (flt hc16).2.2.1 k) ?_
          refine OGo.go (U' := T0.setTop (mkF m 25 #[.val (.int x0)] [(.int (1 : Int32))])) (fun _ k => XS.iconst X0.here hx rfl (hb hby d_isl_24) k) ?_
          refine OGo.go (U' := T0.setTop (mkF m 29 #[.val (.int x0)] [(.int (1 : Int32))])) (fun _ k => XS.goto X0.here hx rfl (pc0 := 25) (pc' := 29) rfl (hb hby d_isl_25) (by decide) (by decide) k) ?_
          exact k18
    · skip
      refine OGo.go (U' := T0.setTop (mkF m 24 #[.val (.int x0)] [])) (fun _ k => XS.icmpYes X0.here hx rfl (pc0 := 9) (pc' := 24) rfl (hb hby d_isl_9) rfl (flt hc10).2.2.2 (by decide) (by decide) k) ?_
      refine OGo.go (U' := T0.setTop (mkF m 25 #[.val (.int x0)] [(.int (1 : Int32))])) (fun _ k => XS.iconst X0.here hx rfl (hb hby d_isl_24) k) ?_
      refine OGo.go (U' := T0.setTop (mkF m 29 #[.val (.int x0)] [(.int (1 : Int32))])) (fun _ k => XS.goto X0.here hx rfl (pc0 := 25) (pc' := 29) rfl (hb hby d_isl_25) (by decide) (by decide) k) ?_
      exact k12
  intro z2 hz2
  refine OGo.retN X0 hx (t := .boolean) hret hlk (by simp) (hb hby d_isl_29) ?_ (by decide) (by decide)
  refine ⟨?_, e0, rfl⟩
  subst hz2
  rfl
def F_isw (x0 : Int32) : Int32 := (nar .boolean (if (F_isl x0) = (0 : Int32) then (if x0 < (48 : Int32) then (if x0 = (95 : Int32) then (1 : Int32) else (if x0 = (46 : Int32) then (1 : Int32) else (if x0 = (45 : Int32) then (1 : Int32) else (0 : Int32)))) else (if (57 : Int32) < x0 then (if x0 = (95 : Int32) then (1 : Int32) else (if x0 = (46 : Int32) then (1 : Int32) else (if x0 = (45 : Int32) then (1 : Int32) else (0 : Int32)))) else (1 : Int32))) else (1 : Int32)))
theorem d_isw_0 : decode prog_23_method_4_code 0 = .ok (.iload_n 0, 1) := by decide +kernel
theorem d_isw_1 : decode prog_23_method_4_code 1 = .ok (.invokestatic 37, 3) := by decide +kernel
theorem d_isw_4 : decode prog_23_method_4_code 4 = .ok (.ifCond .ne 33, 3) := by decide +kernel
theorem d_isw_7 : decode prog_23_method_4_code 7 = .ok (.iload_n 0, 1) := by decide +kernel
theorem d_isw_8 : decode prog_23_method_4_code 8 = .ok (.bipush 48, 2) := by decide +kernel
theorem d_isw_10 : decode prog_23_method_4_code 10 = .ok (.if_icmp .lt 9, 3) := by decide +kernel
theorem d_isw_13 : decode prog_23_method_4_code 13 = .ok (.iload_n 0, 1) := by decide +kernel
theorem d_isw_14 : decode prog_23_method_4_code 14 = .ok (.bipush 57, 2) := by decide +kernel
theorem d_isw_16 : decode prog_23_method_4_code 16 = .ok (.if_icmp .le 21, 3) := by decide +kernel
theorem d_isw_19 : decode prog_23_method_4_code 19 = .ok (.iload_n 0, 1) := by decide +kernel
theorem d_isw_20 : decode prog_23_method_4_code 20 = .ok (.bipush 95, 2) := by decide +kernel
theorem d_isw_22 : decode prog_23_method_4_code 22 = .ok (.if_icmp .eq 15, 3) := by decide +kernel
theorem d_isw_25 : decode prog_23_method_4_code 25 = .ok (.iload_n 0, 1) := by decide +kernel
theorem d_isw_26 : decode prog_23_method_4_code 26 = .ok (.bipush 46, 2) := by decide +kernel
theorem d_isw_28 : decode prog_23_method_4_code 28 = .ok (.if_icmp .eq 9, 3) := by decide +kernel
theorem d_isw_31 : decode prog_23_method_4_code 31 = .ok (.iload_n 0, 1) := by decide +kernel
theorem d_isw_32 : decode prog_23_method_4_code 32 = .ok (.bipush 45, 2) := by decide +kernel
theorem d_isw_34 : decode prog_23_method_4_code 34 = .ok (.if_icmp .ne 7, 3) := by decide +kernel
theorem d_isw_37 : decode prog_23_method_4_code 37 = .ok (.iconst 1, 1) := by decide +kernel
theorem d_isw_38 : decode prog_23_method_4_code 38 = .ok (.goto 4, 3) := by decide +kernel
theorem d_isw_41 : decode prog_23_method_4_code 41 = .ok (.iconst 0, 1) := by decide +kernel
theorem d_isw_42 : decode prog_23_method_4_code 42 = .ok (.ireturn, 1) := by decide +kernel
theorem ef_isw (m : MethodId) (x0 : Int32) : entryFrame m #[(.int x0)] 1 = mkF m 0 #[.val (.int x0)] [] := by first | (simp [entryFrame, mkF, argsToLocals, Value.category]; done) | rfl
theorem pn_isw : plainFor (⟨"com/example/okstream/okstream/tap/YamlText", "isWordCharacter", "(C)Z"⟩ : MethodName) = true := by first | exact plainFor_of_name (by first | (simp [plainName, overriddenIn]; done) | decide +kernel) | decide +kernel
set_option maxRecDepth 65536 in
set_option maxHeartbeats 40000000 in
theorem rm_isw (l : Launch) (Z : State) (a0 : Array Value) (hw : ∀ d ∈ tables_1, d.before a0 Z = true) (x0 : Int32)  (h0 : Heap)  :
    OMet l Z (⟨"com/example/okstream/okstream/tap/YamlText", "isWordCharacter", "(C)Z"⟩ : MethodName) prog_23_method_4_code 1 (some .boolean) [] ({ frames := 1, cells := 0, slots := 0, locals := 12 } : Room) #[(.int x0)] h0 (OPure (some (.int (F_isw x0))) h0) := by
  refine OMet.of pn_isw ?_
  intro p e s m below meth c T0 X0 hx hby hml hown0 hnm hret hlk hZ e0
  have hown : s.vm.findClass "com/example/okstream/okstream/tap/YamlText" = some m.cls := hown0
  refine OGo.go (fun t k => castTop (ef_isw m x0) k) ?_
  refine OGo.go (U' := T0.setTop (mkF m 1 #[.val (.int x0)] [(.int x0)])) (fun _ k => XS.iloadN X0.here hx rfl (hb hby d_isw_0) rfl k) ?_
  refine OGo.callS X0 hx hZ (y := (⟨"com/example/okstream/okstream/tap/YamlText", "isLetter", "(C)Z"⟩ : MethodName)) hown (hw _ (List.mem_of_getElem? (i := 4) rfl)) (hw _ (List.mem_of_getElem? (i := 5) rfl)) (hw _ (List.mem_of_getElem? (i := 2) rfl)) (hw _ (List.mem_of_getElem? (i := 6) rfl)) (by decide) (g := (mkF m 1 #[.val (.int x0)] [(.int x0)])) (argsL := [(.int x0)]) (rest := []) e0 (rm_isl l Z a0 hw x0 h0) rfl (by rw [hml]; rfl) (lenOf pd_0 rfl) rfl (W := 0) (by show 2 * 0 + _ ≤ _; exact Nat.le_of_eq rfl) (hb hby d_isw_1) (by decide) (by decide) (by decide) (by decide) ?_
  rintro _ T1 _ X1 ⟨rfl, e1, rfl⟩
  rw [List.append_nil] at X1
  refine OGo.nm (fun (y2 : Int32) => T1.setTop (mkF m 4 #[.val (.int x0)] [(.int y2)])) (x := (F_isl x0)) (fun y2 hy2 => ?_)
  refine OGo.ite1 (P := y2 = (0 : Int32)) (fun (z4 : Int32) => T1.setTop (mkF m 42 #[.val (.int x0)] [(.int z4)])) (x := (if x0 < (48 : Int32) then (if x0 = (95 : Int32) then (1 : Int32) else (if x0 = (46 : Int32) then (1 : Int32) else (if x0 = (45 : Int32) then (1 : Int32) else (0 : Int32)))) else (if (57 : Int32) < x0 then (if x0 = (95 : Int32) then (1 : Int32) else (if x0 = (46 : Int32) then (1 : Int32) else (if x0 = (45 : Int32) then (1 : Int32) else (0 : Int32)))) else (1 : Int32)))) (y := (1 : Int32)) (fun hc3 k5 => ?_) (fun hc3 k5 => ?_) ?_
  · skip
    refine OGo.go (U' := T1.setTop (mkF m 7 #[.val (.int x0)] [])) (fun _ k => XS.ifNo X1.here hx rfl (hb hby d_isw_4) rfl ((if0 _ _).trans (teq hc3).2) k) ?_
    refine OGo.go (U' := T1.setTop (mkF m 8 #[.val (.int x0)] [(.int x0)])) (fun _ k => XS.iloadN X1.here hx rfl (hb hby d_isw_7) rfl k) ?_
    refine OGo.go (U' := T1.setTop (mkF m 10 #[.val (.int x0)] [(.int (48 : Int32)), (.int x0)])) (fun _ k => XS.bipush X1.here hx rfl (hb hby d_isw_8) k) ?_
    refine OGo.ite1 (P := x0 < (48 : Int32)) (fun (z7 : Int32) => T1.setTop (mkF m 42 #[.val (.int x0)] [(.int z7)])) (x := (if x0 = (95 : Int32) then (1 : Int32) else (if x0 = (46 : Int32) then (1 : Int32) else (if x0 = (45 : Int32) then (1 : Int32) else (0 : Int32))))) (y := (if (57 : Int32) < x0 then (if x0 = (95 : Int32) then (1 : Int32) else (if x0 = (46 : Int32) then (1 : Int32) else (if x0 = (45 : Int32) then (1 : Int32) else (0 : Int32)))) else (1 : Int32))) (fun hc6 k8 => ?_) (fun hc6 k8 => ?_) (fun z7 hz7 => by subst hz7; exact k5)
    · skip
      refine OGo.go (U' := T1.setTop (mkF m 19 #[.val (.int x0)] [])) (fun _ k => XS.icmpYes X1.here hx rfl (pc0 := 10) (pc' := 19) rfl (hb hby d_isw_10) rfl (tlt hc6).1 (by decide) (by decide) k) ?_
      refine OGo.go (U' := T1.setTop (mkF m 20 #[.val (.int x0)] [(.int x0)])) (fun _ k => XS.iloadN X1.here hx rfl (hb hby d_isw_19) rfl k) ?_
      refine OGo.go (U' := T1.setTop (mkF m 22 #[.val (.int x0)] [(.int (95 : Int32)), (.int x0)])) (fun _ k => XS.bipush X1.here hx rfl (hb hby d_isw_20) k) ?_
      refine OGo.ite1 (P := x0 = (95 : Int32)) (fun (z10 : Int32) => T1.setTop (mkF m 42 #[.val (.int x0)] [(.int z10)])) (x := (1 : Int32)) (y := (if x0 = (46 : Int32) then (1 : Int32) else (if x0 = (45 : Int32) then (1 : Int32) else (0 : Int32)))) (fun hc9 k11 => ?_) (fun hc9 k11 => ?_) (fun z10 hz10 => by subst hz10; exact k8)
      · skip
        refine OGo.go (U' := T1.setTop (mkF m 37 #[.val (.int x0)] [])) (fun _ k => XS.icmpYes X1.here hx rfl (pc0 := 22) (pc' := 37) rfl (hb hby d_isw_22) rfl (teq hc9).1 (by decide) (by decide) k) ?_
        refine OGo.go (U' := T1.setTop (mkF m 38 #[.val (.int x0)] [(.int (1 : Int32))])) (fun _ k => XS.iconst X1.here hx rfl (hb hby d_isw_37) k) ?_
        refine OGo.go (U' := T1.setTop (mkF m 42 #[.val (.int x0)] [(.int (1 : Int32))])) (fun _ k => XS.goto X1.here hx rfl (pc0 := 38) (pc' := 42) rfl (hb hby d_isw_38) (by decide) (by decide) k) ?_
        exact k11
      · skip
        refine OGo.go (U' := T1.setTop (mkF m 25 #[.val (.int x0)] [])) (fun _ k => XS.icmpNo X1.here hx rfl (hb hby d_isw_22) rfl (feq hc9).1 k) ?_
        refine OGo.go (U' := T1.setTop (mkF m 26 #[.val (.int x0)] [(.int x0)])) (fun _ k => XS.iloadN X1.here hx rfl (hb hby d_isw_25) rfl k) ?_
        refine OGo.go (U' := T1.setTop (mkF m 28 #[.val (.int x0)] [(.int (46 : Int32)), (.int x0)])) (fun _ k => XS.bipush X1.here hx rfl (hb hby d_isw_26) k) ?_
        refine OGo.ite1 (P := x0 = (46 : Int32)) (fun (z13 : Int32) => T1.setTop (mkF m 42 #[.val (.int x0)] [(.int z13)])) (x := (1 : Int32)) (y := (if x0 = (45 : Int32) then (1 : Int32) else (0 : Int32))) (fun hc12 k14 => ?_) (fun hc12 k14 => ?_) (fun z13 hz13 => by subst hz13; exact k11)
        · skip
          refine OGo.go (U' := T1.setTop (mkF m 37 #[.val (.int x0)] [])) (fun _ k => XS.icmpYes X1.here hx rfl (pc0 := 28) (pc' := 37) rfl (hb hby d_isw_28) rfl (teq hc12).1 (by decide) (by decide) k) ?_
          refine OGo.go (U' := T1.setTop (mkF m 38 #[.val (.int x0)] [(.int (1 : Int32))])) (fun _ k => XS.iconst X1.here hx rfl (hb hby d_isw_37) k) ?_
          refine OGo.go (U' := T1.setTop (mkF m 42 #[.val (.int x0)] [(.int (1 : Int32))])) (fun _ k => XS.goto X1.here hx rfl (pc0 := 38) (pc' := 42) rfl (hb hby d_isw_38) (by decide) (by decide) k) ?_
          exact k14
        · skip
          refine OGo.go (U' := T1.setTop (mkF m 31 #[.val (.int x0)] [])) (fun _ k => XS.icmpNo X1.here hx rfl (hb hby d_isw_28) rfl (feq hc12).1 k) ?_
          refine OGo.go (U' := T1.setTop (mkF m 32 #[.val (.int x0)] [(.int x0)])) (fun _ k => XS.iloadN X1.here hx rfl (hb hby d_isw_31) rfl k) ?_
          refine OGo.go (U' := T1.setTop (mkF m 34 #[.val (.int x0)] [(.int (45 : Int32)), (.int x0)])) (fun _ k => XS.bipush X1.here hx rfl (hb hby d_isw_32) k) ?_
          refine OGo.ite1 (P := x0 = (45 : Int32)) (fun (z16 : Int32) => T1.setTop (mkF m 42 #[.val (.int x0)] [(.int z16)])) (x := (1 : Int32)) (y := (0 : Int32)) (fun hc15 k17 => ?_) (fun hc15 k17 => ?_) (fun z16 hz16 => by subst hz16; exact k14)
          · skip
            refine OGo.go (U' := T1.setTop (mkF m 37 #[.val (.int x0)] [])) (fun _ k => XS.icmpNo X1.here hx rfl (hb hby d_isw_34) rfl (teq hc15).2 k) ?_
            refine OGo.go (U' := T1.setTop (mkF m 38 #[.val (.int x0)] [(.int (1 : Int32))])) (fun _ k => XS.iconst X1.here hx rfl (hb hby d_isw_37) k) ?_
            refine OGo.go (U' := T1.setTop (mkF m 42 #[.val (.int x0)] [(.int (1 : Int32))])) (fun _ k => XS.goto X1.here hx rfl (pc0 := 38) (pc' := 42) rfl (hb hby d_isw_38) (by decide) (by decide) k) ?_
            exact k17
          · skip
            refine OGo.go (U' := T1.setTop (mkF m 41 #[.val (.int x0)] [])) (fun _ k => XS.icmpYes X1.here hx rfl (pc0 := 34) (pc' := 41) rfl (hb hby d_isw_34) rfl (feq hc15).2 (by decide) (by decide) k) ?_
            refine OGo.go (U' := T1.setTop (mkF m 42 #[.val (.int x0)] [(.int (0 : Int32))])) (fun _ k => XS.iconst X1.here hx rfl (hb hby d_isw_41) k) ?_
            exact k17
    · skip
      refine OGo.go (U' := T1.setTop (mkF m 13 #[.val (.int x0)] [])) (fun _ k => XS.icmpNo X1.here hx rfl (hb hby d_isw_10) rfl (flt hc6).1 k) ?_
      refine OGo.go (U' := T1.setTop (mkF m 14 #[.val (.int x0)] [(.int x0)])) (fun _ k => XS.iloadN X1.here hx rfl (hb hby d_isw_13) rfl k) ?_
      refine OGo.go (U' := T1.setTop (mkF m 16 #[.val (.int x0)] [(.int (57 : Int32)), (.int x0)])) (fun _ k => XS.bipush X1.here hx rfl (hb hby d_isw_14) k) ?_
      refine OGo.ite1 (P := (57 : Int32) < x0) (fun (z19 : Int32) => T1.setTop (mkF m 42 #[.val (.int x0)] [(.int z19)])) (x := (if x0 = (95 : Int32) then (1 : Int32) else (if x0 = (46 : Int32) then (1 : Int32) else (if x0 = (45 : Int32) then (1 : Int32) else (0 : Int32))))) (y := (1 : Int32)) (fun hc18 k20 => ?_) (fun hc18 k20 => ?_) (fun z19 hz19 => by subst hz19; exact k8)
      · skip
        refine OGo.go (U' := T1.setTop (mkF m 19 #[.val (.int x0)] [])) (fun _ k => XS.icmpNo X1.here hx rfl (hb hby d_isw_16) rfl (tlt hc18).2.2.2 k) ?_
        refine OGo.go (U' := T1.setTop (mkF m 20 #[.val (.int x0)] [(.int x0)])) (fun _ k => XS.iloadN X1.here hx rfl (hb hby d_isw_19) rfl k) ?_
        refine OGo.go (U' := T1.setTop (mkF m 22 #[.val (.int x0)] [(.int (95 : Int32)), (.int x0)])) (fun _ k => XS.bipush X1.here hx rfl (hb hby d_isw_20) k) ?_
        refine OGo.ite1 (P := x0 = (95 : Int32)) (fun (z22 : Int32) => T1.setTop (mkF m 42 #[.val (.int x0)] [(.int z22)])) (x := (1 : Int32)) (y := (if x0 = (46 : Int32) then (1 : Int32) else (if x0 = (45 : Int32) then (1 : Int32) else (0 : Int32)))) (fun hc21 k23 => ?_) (fun hc21 k23 => ?_) (fun z22 hz22 => by subst hz22; exact k20)
        · skip
          refine OGo.go (U' := T1.setTop (mkF m 37 #[.val (.int x0)] [])) (fun _ k => XS.icmpYes X1.here hx rfl (pc0 := 22) (pc' := 37) rfl (hb hby d_isw_22) rfl (teq hc21).1 (by decide) (by decide) k) ?_
          refine OGo.go (U' := T1.setTop (mkF m 38 #[.val (.int x0)] [(.int (1 : Int32))])) (fun _ k => XS.iconst X1.here hx rfl (hb hby d_isw_37) k) ?_
          refine OGo.go (U' := T1.setTop (mkF m 42 #[.val (.int x0)] [(.int (1 : Int32))])) (fun _ k => XS.goto X1.here hx rfl (pc0 := 38) (pc' := 42) rfl (hb hby d_isw_38) (by decide) (by decide) k) ?_
          exact k23
        · skip
          refine OGo.go (U' := T1.setTop (mkF m 25 #[.val (.int x0)] [])) (fun _ k => XS.icmpNo X1.here hx rfl (hb hby d_isw_22) rfl (feq hc21).1 k) ?_
          refine OGo.go (U' := T1.setTop (mkF m 26 #[.val (.int x0)] [(.int x0)])) (fun _ k => XS.iloadN X1.here hx rfl (hb hby d_isw_25) rfl k) ?_
          refine OGo.go (U' := T1.setTop (mkF m 28 #[.val (.int x0)] [(.int (46 : Int32)), (.int x0)])) (fun _ k => XS.bipush X1.here hx rfl (hb hby d_isw_26) k) ?_
          refine OGo.ite1 (P := x0 = (46 : Int32)) (fun (z25 : Int32) => T1.setTop (mkF m 42 #[.val (.int x0)] [(.int z25)])) (x := (1 : Int32)) (y := (if x0 = (45 : Int32) then (1 : Int32) else (0 : Int32))) (fun hc24 k26 => ?_) (fun hc24 k26 => ?_) (fun z25 hz25 => by subst hz25; exact k23)
          · skip
            refine OGo.go (U' := T1.setTop (mkF m 37 #[.val (.int x0)] [])) (fun _ k => XS.icmpYes X1.here hx rfl (pc0 := 28) (pc' := 37) rfl (hb hby d_isw_28) rfl (teq hc24).1 (by decide) (by decide) k) ?_
            refine OGo.go (U' := T1.setTop (mkF m 38 #[.val (.int x0)] [(.int (1 : Int32))])) (fun _ k => XS.iconst X1.here hx rfl (hb hby d_isw_37) k) ?_
            refine OGo.go (U' := T1.setTop (mkF m 42 #[.val (.int x0)] [(.int (1 : Int32))])) (fun _ k => XS.goto X1.here hx rfl (pc0 := 38) (pc' := 42) rfl (hb hby d_isw_38) (by decide) (by decide) k) ?_
            exact k26
          · skip
            refine OGo.go (U' := T1.setTop (mkF m 31 #[.val (.int x0)] [])) (fun _ k => XS.icmpNo X1.here hx rfl (hb hby d_isw_28) rfl (feq hc24).1 k) ?_
            refine OGo.go (U' := T1.setTop (mkF m 32 #[.val (.int x0)] [(.int x0)])) (fun _ k => XS.iloadN X1.here hx rfl (hb hby d_isw_31) rfl k) ?_
            refine OGo.go (U' := T1.setTop (mkF m 34 #[.val (.int x0)] [(.int (45 : Int32)), (.int x0)])) (fun _ k => XS.bipush X1.here hx rfl (hb hby d_isw_32) k) ?_
            refine OGo.ite1 (P := x0 = (45 : Int32)) (fun (z28 : Int32) => T1.setTop (mkF m 42 #[.val (.int x0)] [(.int z28)])) (x := (1 : Int32)) (y := (0 : Int32)) (fun hc27 k29 => ?_) (fun hc27 k29 => ?_) (fun z28 hz28 => by subst hz28; exact k26)
            · skip
              refine OGo.go (U' := T1.setTop (mkF m 37 #[.val (.int x0)] [])) (fun _ k => XS.icmpNo X1.here hx rfl (hb hby d_isw_34) rfl (teq hc27).2 k) ?_
              refine OGo.go (U' := T1.setTop (mkF m 38 #[.val (.int x0)] [(.int (1 : Int32))])) (fun _ k => XS.iconst X1.here hx rfl (hb hby d_isw_37) k) ?_
              refine OGo.go (U' := T1.setTop (mkF m 42 #[.val (.int x0)] [(.int (1 : Int32))])) (fun _ k => XS.goto X1.here hx rfl (pc0 := 38) (pc' := 42) rfl (hb hby d_isw_38) (by decide) (by decide) k) ?_
              exact k29
            · skip
              refine OGo.go (U' := T1.setTop (mkF m 41 #[.val (.int x0)] [])) (fun _ k => XS.icmpYes X1.here hx rfl (pc0 := 34) (pc' := 41) rfl (hb hby d_isw_34) rfl (feq hc27).2 (by decide) (by decide) k) ?_
              refine OGo.go (U' := T1.setTop (mkF m 42 #[.val (.int x0)] [(.int (0 : Int32))])) (fun _ k => XS.iconst X1.here hx rfl (hb hby d_isw_41) k) ?_
              exact k29
      · skip
        refine OGo.go (U' := T1.setTop (mkF m 37 #[.val (.int x0)] [])) (fun _ k => XS.icmpYes X1.here hx rfl (pc0 := 16) (pc' := 37) rfl (hb hby d_isw_16) rfl (flt hc18).2.2.2 (by decide) (by decide) k) ?_
        refine OGo.go (U' := T1.setTop (mkF m 38 #[.val (.int x0)] [(.int (1 : Int32))])) (fun _ k => XS.iconst X1.here hx rfl (hb hby d_isw_37) k) ?_
        refine OGo.go (U' := T1.setTop (mkF m 42 #[.val (.int x0)] [(.int (1 : Int32))])) (fun _ k => XS.goto X1.here hx rfl (pc0 := 38) (pc' := 42) rfl (hb hby d_isw_38) (by decide) (by decide) k) ?_
        exact k20
  · skip
    refine OGo.go (U' := T1.setTop (mkF m 37 #[.val (.int x0)] [])) (fun _ k => XS.ifYes X1.here hx rfl (pc0 := 4) (pc' := 37) rfl (hb hby d_isw_4) rfl ((if0 _ _).trans (feq hc3).2) (by decide) (by decide) k) ?_
    refine OGo.go (U' := T1.setTop (mkF m 38 #[.val (.int x0)] [(.int (1 : Int32))])) (fun _ k => XS.iconst X1.here hx rfl (hb hby d_isw_37) k) ?_
    refine OGo.go (U' := T1.setTop (mkF m 42 #[.val (.int x0)] [(.int (1 : Int32))])) (fun _ k => XS.goto X1.here hx rfl (pc0 := 38) (pc' := 42) rfl (hb hby d_isw_38) (by decide) (by decide) k) ?_
    exact k5
  intro z4 hz4
  refine OGo.retN X1 hx (t := .boolean) hret hlk (by simp) (hb hby d_isw_42) ?_ (by decide) (by decide)
  refine ⟨?_, e1, rfl⟩
  subst hy2
  subst hz4
  rfl
def F_ex (x0 : Int32) : Int32 := (if x0 < (128 : Int32) then (if (x0 ||| (32 : Int32)) < (97 : Int32) then (if (x0 - (48 : Int32)) < (0 : Int32) then (if x0 = (95 : Int32) then (nar .boolean (1 : Int32)) else (nar .boolean (if (x0 - (45 : Int32)) = (0 : Int32) then (1 : Int32) else (if (x0 - (45 : Int32)) = (1 : Int32) then (1 : Int32) else (0 : Int32))))) else (if (x0 - (48 : Int32)) < (10 : Int32) then (nar .boolean (1 : Int32)) else (if x0 = (95 : Int32) then (nar .boolean (1 : Int32)) else (nar .boolean (if (x0 - (45 : Int32)) = (0 : Int32) then (1 : Int32) else (if (x0 - (45 : Int32)) = (1 : Int32) then (1 : Int32) else (0 : Int32))))))) else (if (122 : Int32) < (x0 ||| (32 : Int32)) then (if (x0 - (48 : Int32)) < (0 : Int32) then (if x0 = (95 : Int32) then (nar .boolean (1 : Int32)) else (nar .boolean (if (x0 - (45 : Int32)) = (0 : Int32) then (1 : Int32) else (if (x0 - (45 : Int32)) = (1 : Int32) then (1 : Int32) else (0 : Int32))))) else (if (x0 - (48 : Int32)) < (10 : Int32) then (nar .boolean (1 : Int32)) else (if x0 = (95 : Int32) then (nar .boolean (1 : Int32)) else (nar .boolean (if (x0 - (45 : Int32)) = (0 : Int32) then (1 : Int32) else (if (x0 - (45 : Int32)) = (1 : Int32) then (1 : Int32) else (0 : Int32))))))) else (nar .boolean (1 : Int32)))) else (nar .boolean (0 : Int32)))
theorem d_ex_0 : decode method_2_code 0 = .ok (.iload_n 0, 1) := by decide +kernel
theorem d_ex_1 : decode method_2_code 1 = .ok (.istore_n 1, 1) := by decide +kernel
theorem d_ex_2 : decode method_2_code 2 = .ok (.iload_n 1, 1) := by decide +kernel
theorem d_ex_3 : decode method_2_code 3 = .ok (.sipush 128, 3) := by decide +kernel
theorem d_ex_6 : decode method_2_code 6 = .ok (.if_icmp .lt 5, 3) := by decide +kernel
theorem d_ex_9 : decode method_2_code 9 = .ok (.iconst 0, 1) := by decide +kernel
theorem d_ex_10 : decode method_2_code 10 = .ok (.ireturn, 1) := by decide +kernel
theorem d_ex_11 : decode method_2_code 11 = .ok (.iload_n 1, 1) := by decide +kernel
theorem d_ex_12 : decode method_2_code 12 = .ok (.bipush 32, 2) := by decide +kernel
theorem d_ex_14 : decode method_2_code 14 = .ok (.ior, 1) := by decide +kernel
theorem d_ex_15 : decode method_2_code 15 = .ok (.istore_n 2, 1) := by decide +kernel
theorem d_ex_16 : decode method_2_code 16 = .ok (.iload_n 2, 1) := by decide +kernel
theorem d_ex_17 : decode method_2_code 17 = .ok (.bipush 97, 2) := by decide +kernel
theorem d_ex_19 : decode method_2_code 19 = .ok (.if_icmp .lt 11, 3) := by decide +kernel
theorem d_ex_22 : decode method_2_code 22 = .ok (.iload_n 2, 1) := by decide +kernel
theorem d_ex_23 : decode method_2_code 23 = .ok (.bipush 122, 2) := by decide +kernel
theorem d_ex_25 : decode method_2_code 25 = .ok (.if_icmp .gt 5, 3) := by decide +kernel
theorem d_ex_28 : decode method_2_code 28 = .ok (.iconst 1, 1) := by decide +kernel
theorem d_ex_29 : decode method_2_code 29 = .ok (.ireturn, 1) := by decide +kernel
theorem d_ex_30 : decode method_2_code 30 = .ok (.iload_n 1, 1) := by decide +kernel
theorem d_ex_31 : decode method_2_code 31 = .ok (.bipush 48, 2) := by decide +kernel
theorem d_ex_33 : decode method_2_code 33 = .ok (.isub, 1) := by decide +kernel
theorem d_ex_34 : decode method_2_code 34 = .ok (.istore_n 3, 1) := by decide +kernel
theorem d_ex_35 : decode method_2_code 35 = .ok (.iload_n 3, 1) := by decide +kernel
theorem d_ex_36 : decode method_2_code 36 = .ok (.ifCond .lt 11, 3) := by decide +kernel
theorem d_ex_39 : decode method_2_code 39 = .ok (.iload_n 3, 1) := by decide +kernel
theorem d_ex_40 : decode method_2_code 40 = .ok (.bipush 10, 2) := by decide +kernel
theorem d_ex_42 : decode method_2_code 42 = .ok (.if_icmp .ge 5, 3) := by decide +kernel
theorem d_ex_45 : decode method_2_code 45 = .ok (.iconst 1, 1) := by decide +kernel
theorem d_ex_46 : decode method_2_code 46 = .ok (.ireturn, 1) := by decide +kernel
theorem d_ex_47 : decode method_2_code 47 = .ok (.iload_n 1, 1) := by decide +kernel
theorem d_ex_48 : decode method_2_code 48 = .ok (.bipush 95, 2) := by decide +kernel
theorem d_ex_50 : decode method_2_code 50 = .ok (.if_icmp .ne 5, 3) := by decide +kernel
theorem d_ex_53 : decode method_2_code 53 = .ok (.iconst 1, 1) := by decide +kernel
theorem d_ex_54 : decode method_2_code 54 = .ok (.ireturn, 1) := by decide +kernel
theorem d_ex_55 : decode method_2_code 55 = .ok (.iload_n 1, 1) := by decide +kernel
theorem d_ex_56 : decode method_2_code 56 = .ok (.bipush 45, 2) := by decide +kernel
theorem d_ex_58 : decode method_2_code 58 = .ok (.isub, 1) := by decide +kernel
theorem d_ex_59 : decode method_2_code 59 = .ok (.istore 4, 2) := by decide +kernel
theorem d_ex_61 : decode method_2_code 61 = .ok (.iload 4, 2) := by decide +kernel
theorem d_ex_63 : decode method_2_code 63 = .ok (.ifCond .eq 9, 3) := by decide +kernel
theorem d_ex_66 : decode method_2_code 66 = .ok (.iload 4, 2) := by decide +kernel
theorem d_ex_68 : decode method_2_code 68 = .ok (.iconst 1, 1) := by decide +kernel
theorem d_ex_69 : decode method_2_code 69 = .ok (.if_icmp .ne 7, 3) := by decide +kernel
theorem d_ex_72 : decode method_2_code 72 = .ok (.iconst 1, 1) := by decide +kernel
theorem d_ex_73 : decode method_2_code 73 = .ok (.goto 4, 3) := by decide +kernel
theorem d_ex_76 : decode method_2_code 76 = .ok (.iconst 0, 1) := by decide +kernel
theorem d_ex_77 : decode method_2_code 77 = .ok (.ireturn, 1) := by decide +kernel
theorem ef_ex (m : MethodId) (x0 : Int32) : entryFrame m #[(.int x0)] 5 = mkF m 0 #[.val (.int x0), .unset, .unset, .unset, .unset] [] := by first | (simp [entryFrame, mkF, argsToLocals, Value.category]; done) | rfl
theorem pn_ex : plainFor (⟨"com/example/okstream/okstream/tap/YamlTextIsWordCharacterPinLaw", "expected", "(C)Z"⟩ : MethodName) = true := by first | exact plainFor_of_name (by first | (simp [plainName, overriddenIn]; done) | decide +kernel) | decide +kernel
set_option maxRecDepth 65536 in
set_option maxHeartbeats 40000000 in
theorem rm_ex (l : Launch) (Z : State) (a0 : Array Value) (hw : ∀ d ∈ tables_1, d.before a0 Z = true) (x0 : Int32)  (h0 : Heap)  :
    OMet l Z (⟨"com/example/okstream/okstream/tap/YamlTextIsWordCharacterPinLaw", "expected", "(C)Z"⟩ : MethodName) method_2_code 5 (some .boolean) [] ({ frames := 0, cells := 0, slots := 0, locals := 0 } : Room) #[(.int x0)] h0 (OPure (some (.int (F_ex x0))) h0) := by
  refine OMet.of pn_ex ?_
  intro p e s m below meth c T0 X0 hx hby hml hown0 hnm hret hlk hZ e0
  have hown : s.vm.findClass "com/example/okstream/okstream/tap/YamlTextIsWordCharacterPinLaw" = some m.cls := hown0
  refine OGo.go (fun t k => castTop (ef_ex m x0) k) ?_
  refine OGo.go (U' := T0.setTop (mkF m 1 #[.val (.int x0), .unset, .unset, .unset, .unset] [(.int x0)])) (fun _ k => XS.iloadN X0.here hx rfl (hb hby d_ex_0) rfl k) ?_
  refine OGo.go (U' := T0.setTop (mkF m 2 #[.val (.int x0), .val (.int x0), .unset, .unset, .unset] [])) (fun _ k => XS.istoreN X0.here hx rfl (hb hby d_ex_1) rfl (l' := #[.val (.int x0), .val (.int x0), .unset, .unset, .unset]) rfl k) ?_
  refine OGo.go (U' := T0.setTop (mkF m 3 #[.val (.int x0), .val (.int x0), .unset, .unset, .unset] [(.int x0)])) (fun _ k => XS.iloadN X0.here hx rfl (hb hby d_ex_2) rfl k) ?_
  refine OGo.go (U' := T0.setTop (mkF m 6 #[.val (.int x0), .val (.int x0), .unset, .unset, .unset] [(.int (128 : Int32)), (.int x0)])) (fun _ k => XS.sipush X0.here hx rfl (hb hby d_ex_3) k) ?_
  by_cases hc1 : x0 < (128 : Int32)
  · skip
    refine OGo.go (U' := T0.setTop (mkF m 11 #[.val (.int x0), .val (.int x0), .unset, .unset, .unset] [])) (fun _ k => XS.icmpYes X0.here hx rfl (pc0 := 6) (pc' := 11) rfl (hb hby d_ex_6) rfl (tlt hc1).1 (by decide) (by decide) k) ?_
    refine OGo.go (U' := T0.setTop (mkF m 12 #[.val (.int x0), .val (.int x0), .unset, .unset, .unset] [(.int x0)])) (fun _ k => XS.iloadN X0.here hx rfl (hb hby d_ex_11) rfl k) ?_
    refine OGo.go (U' := T0.setTop (mkF m 14 #[.val (.int x0), .val (.int x0), .unset, .unset, .unset] [(.int (32 : Int32)), (.int x0)])) (fun _ k => XS.bipush X0.here hx rfl (hb hby d_ex_12) k) ?_
    refine OGo.go (U' := T0.setTop (mkF m 15 #[.val (.int x0), .val (.int x0), .unset, .unset, .unset] [(.int (x0 ||| (32 : Int32)))])) (fun _ k => XS.ior X0.here hx rfl (hb hby d_ex_14) rfl k) ?_
    refine OGo.go (U' := T0.setTop (mkF m 16 #[.val (.int x0), .val (.int x0), .val (.int (x0 ||| (32 : Int32))), .unset, .unset] [])) (fun _ k => XS.istoreN X0.here hx rfl (hb hby d_ex_15) rfl (l' := #[.val (.int x0), .val (.int x0), .val (.int (x0 ||| (32 : Int32))), .unset, .unset]) rfl k) ?_
    refine OGo.go (U' := T0.setTop (mkF m 17 #[.val (.int x0), .val (.int x0), .val (.int (x0 ||| (32 : Int32))), .unset, .unset] [(.int (x0 ||| (32 : Int32)))])) (fun _ k => XS.iloadN X0.here hx rfl (hb hby d_ex_16) rfl k) ?_
    refine OGo.go (U' := T0.setTop (mkF m 19 #[.val (.int x0), .val (.int x0), .val (.int (x0 ||| (32 : Int32))), .unset, .unset] [(.int (97 : Int32)), (.int (x0 ||| (32 : Int32)))])) (fun _ k => XS.bipush X0.here hx rfl (hb hby d_ex_17) k) ?_
    by_cases hc2 : (x0 ||| (32 : Int32)) < (97 : Int32)
    · skip
      refine OGo.go (U' := T0.setTop (mkF m 30 #[.val (.int x0), .val (.int x0), .val (.int (x0 ||| (32 : Int32))), .unset, .unset] [])) (fun _ k => XS.icmpYes X0.here hx rfl (pc0 := 19) (pc' := 30) rfl (hb hby d_ex_19) rfl (tlt hc2).1 (by decide) (by decide) k) ?_
      refine OGo.go (U' := T0.setTop (mkF m 31 #[.val (.int x0), .val (.int x0), .val (.int (x0 ||| (32 : Int32))), .unset, .unset] [(.int x0)])) (fun _ k => XS.iloadN X0.here hx rfl (hb hby d_ex_30) rfl k) ?_
      refine OGo.go (U' := T0.setTop (mkF m 33 #[.val (.int x0), .val (.int x0), .val (.int (x0 ||| (32 : Int32))), .unset, .unset] [(.int (48 : Int32)), (.int x0)])) (fun _ k => XS.bipush X0.here hx rfl (hb hby d_ex_31) k) ?_
      refine OGo.go (U' := T0.setTop (mkF m 34 #[.val (.int x0), .val (.int x0), .val (.int (x0 ||| (32 : Int32))), .unset, .unset] [(.int (x0 - (48 : Int32)))])) (fun _ k => XS.isub X0.here hx rfl (hb hby d_ex_33) rfl k) ?_
      refine OGo.go (U' := T0.setTop (mkF m 35 #[.val (.int x0), .val (.int x0), .val (.int (x0 ||| (32 : Int32))), .val (.int (x0 - (48 : Int32))), .unset] [])) (fun _ k => XS.istoreN X0.here hx rfl (hb hby d_ex_34) rfl (l' := #[.val (.int x0), .val (.int x0), .val (.int (x0 ||| (32 : Int32))), .val (.int (x0 - (48 : Int32))), .unset]) rfl k) ?_
      refine OGo.go (U' := T0.setTop (mkF m 36 #[.val (.int x0), .val (.int x0), .val (.int (x0 ||| (32 : Int32))), .val (.int (x0 - (48 : Int32))), .unset] [(.int (x0 - (48 : Int32)))])) (fun _ k => XS.iloadN X0.here hx rfl (hb hby d_ex_35) rfl k) ?_
      by_cases hc3 : (x0 - (48 : Int32)) < (0 : Int32)
      · skip
        refine OGo.go (U' := T0.setTop (mkF m 47 #[.val (.int x0), .val (.int x0), .val (.int (x0 ||| (32 : Int32))), .val (.int (x0 - (48 : Int32))), .unset] [])) (fun _ k => XS.ifYes X0.here hx rfl (pc0 := 36) (pc' := 47) rfl (hb hby d_ex_36) rfl ((if0 _ _).trans (tlt hc3).1) (by decide) (by decide) k) ?_
        refine OGo.go (U' := T0.setTop (mkF m 48 #[.val (.int x0), .val (.int x0), .val (.int (x0 ||| (32 : Int32))), .val (.int (x0 - (48 : Int32))), .unset] [(.int x0)])) (fun _ k => XS.iloadN X0.here hx rfl (hb hby d_ex_47) rfl k) ?_
        refine OGo.go (U' := T0.setTop (mkF m 50 #[.val (.int x0), .val (.int x0), .val (.int (x0 ||| (32 : Int32))), .val (.int (x0 - (48 : Int32))), .unset] [(.int (95 : Int32)), (.int x0)])) (fun _ k => XS.bipush X0.here hx rfl (hb hby d_ex_48) k) ?_
        by_cases hc4 : x0 = (95 : Int32)
        · skip
          refine OGo.go (U' := T0.setTop (mkF m 53 #[.val (.int x0), .val (.int x0), .val (.int (x0 ||| (32 : Int32))), .val (.int (x0 - (48 : Int32))), .unset] [])) (fun _ k => XS.icmpNo X0.here hx rfl (hb hby d_ex_50) rfl (teq hc4).2 k) ?_
          refine OGo.go (U' := T0.setTop (mkF m 54 #[.val (.int x0), .val (.int x0), .val (.int (x0 ||| (32 : Int32))), .val (.int (x0 - (48 : Int32))), .unset] [(.int (1 : Int32))])) (fun _ k => XS.iconst X0.here hx rfl (hb hby d_ex_53) k) ?_
          refine OGo.retN X0 hx (t := .boolean) hret hlk (by simp) (hb hby d_ex_54) ?_ (by decide) (by decide)
          refine ⟨?_, e0, rfl⟩
          rw [F_ex]
          rw [if_pos hc1]
          rw [if_pos hc2]
          rw [if_pos hc3]
          rw [if_pos hc4]
        · skip
          refine OGo.go (U' := T0.setTop (mkF m 55 #[.val (.int x0), .val (.int x0), .val (.int (x0 ||| (32 : Int32))), .val (.int (x0 - (48 : Int32))), .unset] [])) (fun _ k => XS.icmpYes X0.here hx rfl (pc0 := 50) (pc' := 55) rfl (hb hby d_ex_50) rfl (feq hc4).2 (by decide) (by decide) k) ?_
          refine OGo.go (U' := T0.setTop (mkF m 56 #[.val (.int x0), .val (.int x0), .val (.int (x0 ||| (32 : Int32))), .val (.int (x0 - (48 : Int32))), .unset] [(.int x0)])) (fun _ k => XS.iloadN X0.here hx rfl (hb hby d_ex_55) rfl k) ?_
          refine OGo.go (U' := T0.setTop (mkF m 58 #[.val (.int x0), .val (.int x0), .val (.int (x0 ||| (32 : Int32))), .val (.int (x0 - (48 : Int32))), .unset] [(.int (45 : Int32)), (.int x0)])) (fun _ k => XS.bipush X0.here hx rfl (hb hby d_ex_56) k) ?_
          refine OGo.go (U' := T0.setTop (mkF m 59 #[.val (.int x0), .val (.int x0), .val (.int (x0 ||| (32 : Int32))), .val (.int (x0 - (48 : Int32))), .unset] [(.int (x0 - (45 : Int32)))])) (fun _ k => XS.isub X0.here hx rfl (hb hby d_ex_58) rfl k) ?_
          refine OGo.go (U' := T0.setTop (mkF m 61 #[.val (.int x0), .val (.int x0), .val (.int (x0 ||| (32 : Int32))), .val (.int (x0 - (48 : Int32))), .val (.int (x0 - (45 : Int32)))] [])) (fun _ k => XS.istore X0.here hx rfl (hb hby d_ex_59) rfl (l' := #[.val (.int x0), .val (.int x0), .val (.int (x0 ||| (32 : Int32))), .val (.int (x0 - (48 : Int32))), .val (.int (x0 - (45 : Int32)))]) rfl k) ?_
          refine OGo.go (U' := T0.setTop (mkF m 63 #[.val (.int x0), .val (.int x0), .val (.int (x0 ||| (32 : Int32))), .val (.int (x0 - (48 : Int32))), .val (.int (x0 - (45 : Int32)))] [(.int (x0 - (45 : Int32)))])) (fun _ k => XS.iload X0.here hx rfl (hb hby d_ex_61) rfl k) ?_
          refine OGo.ite1 (P := (x0 - (45 : Int32)) = (0 : Int32)) (fun (z6 : Int32) => T0.setTop (mkF m 77 #[.val (.int x0), .val (.int x0), .val (.int (x0 ||| (32 : Int32))), .val (.int (x0 - (48 : Int32))), .val (.int (x0 - (45 : Int32)))] [(.int z6)])) (x := (1 : Int32)) (y := (if (x0 - (45 : Int32)) = (1 : Int32) then (1 : Int32) else (0 : Int32))) (fun hc5 k7 => ?_) (fun hc5 k7 => ?_) ?_
          · skip
            refine OGo.go (U' := T0.setTop (mkF m 72 #[.val (.int x0), .val (.int x0), .val (.int (x0 ||| (32 : Int32))), .val (.int (x0 - (48 : Int32))), .val (.int (x0 - (45 : Int32)))] [])) (fun _ k => XS.ifYes X0.here hx rfl (pc0 := 63) (pc' := 72) rfl (hb hby d_ex_63) rfl ((if0 _ _).trans (teq hc5).1) (by decide) (by decide) k) ?_
            refine OGo.go (U' := T0.setTop (mkF m 73 #[.val (.int x0), .val (.int x0), .val (.int (x0 ||| (32 : Int32))), .val (.int (x0 - (48 : Int32))), .val (.int (x0 - (45 : Int32)))] [(.int (1 : Int32))])) (fun _ k => XS.iconst X0.here hx rfl (hb hby d_ex_72) k) ?_
            refine OGo.go (U' := T0.setTop (mkF m 77 #[.val (.int x0), .val (.int x0), .val (.int (x0 ||| (32 : Int32))), .val (.int (x0 - (48 : Int32))), .val (.int (x0 - (45 : Int32)))] [(.int (1 : Int32))])) (fun _ k => XS.goto X0.here hx rfl (pc0 := 73) (pc' := 77) rfl (hb hby d_ex_73) (by decide) (by decide) k) ?_
            exact k7
          · skip
            refine OGo.go (U' := T0.setTop (mkF m 66 #[.val (.int x0), .val (.int x0), .val (.int (x0 ||| (32 : Int32))), .val (.int (x0 - (48 : Int32))), .val (.int (x0 - (45 : Int32)))] [])) (fun _ k => XS.ifNo X0.here hx rfl (hb hby d_ex_63) rfl ((if0 _ _).trans (feq hc5).1) k) ?_
            refine OGo.go (U' := T0.setTop (mkF m 68 #[.val (.int x0), .val (.int x0), .val (.int (x0 ||| (32 : Int32))), .val (.int (x0 - (48 : Int32))), .val (.int (x0 - (45 : Int32)))] [(.int (x0 - (45 : Int32)))])) (fun _ k => XS.iload X0.here hx rfl (hb hby d_ex_66) rfl k) ?_
            refine OGo.go (U' := T0.setTop (mkF m 69 #[.val (.int x0), .val (.int x0), .val (.int (x0 ||| (32 : Int32))), .val (.int (x0 - (48 : Int32))), .val (.int (x0 - (45 : Int32)))] [(.int (1 : Int32)), (.int (x0 - (45 : Int32)))])) (fun _ k => XS.iconst X0.here hx rfl (hb hby d_ex_68) k) ?_
            refine OGo.ite1 (P := (x0 - (45 : Int32)) = (1 : Int32)) (fun (z9 : Int32) => T0.setTop (mkF m 77 #[.val (.int x0), .val (.int x0), .val (.int (x0 ||| (32 : Int32))), .val (.int (x0 - (48 : Int32))), .val (.int (x0 - (45 : Int32)))] [(.int z9)])) (x := (1 : Int32)) (y := (0 : Int32)) (fun hc8 k10 => ?_) (fun hc8 k10 => ?_) (fun z9 hz9 => by subst hz9; exact k7)
            · skip
              refine OGo.go (U' := T0.setTop (mkF m 72 #[.val (.int x0), .val (.int x0), .val (.int (x0 ||| (32 : Int32))), .val (.int (x0 - (48 : Int32))), .val (.int (x0 - (45 : Int32)))] [])) (fun _ k => XS.icmpNo X0.here hx rfl (hb hby d_ex_69) rfl (teq hc8).2 k) ?_
              refine OGo.go (U' := T0.setTop (mkF m 73 #[.val (.int x0), .val (.int x0), .val (.int (x0 ||| (32 : Int32))), .val (.int (x0 - (48 : Int32))), .val (.int (x0 - (45 : Int32)))] [(.int (1 : Int32))])) (fun _ k => XS.iconst X0.here hx rfl (hb hby d_ex_72) k) ?_
              refine OGo.go (U' := T0.setTop (mkF m 77 #[.val (.int x0), .val (.int x0), .val (.int (x0 ||| (32 : Int32))), .val (.int (x0 - (48 : Int32))), .val (.int (x0 - (45 : Int32)))] [(.int (1 : Int32))])) (fun _ k => XS.goto X0.here hx rfl (pc0 := 73) (pc' := 77) rfl (hb hby d_ex_73) (by decide) (by decide) k) ?_
              exact k10
            · skip
              refine OGo.go (U' := T0.setTop (mkF m 76 #[.val (.int x0), .val (.int x0), .val (.int (x0 ||| (32 : Int32))), .val (.int (x0 - (48 : Int32))), .val (.int (x0 - (45 : Int32)))] [])) (fun _ k => XS.icmpYes X0.here hx rfl (pc0 := 69) (pc' := 76) rfl (hb hby d_ex_69) rfl (feq hc8).2 (by decide) (by decide) k) ?_
              refine OGo.go (U' := T0.setTop (mkF m 77 #[.val (.int x0), .val (.int x0), .val (.int (x0 ||| (32 : Int32))), .val (.int (x0 - (48 : Int32))), .val (.int (x0 - (45 : Int32)))] [(.int (0 : Int32))])) (fun _ k => XS.iconst X0.here hx rfl (hb hby d_ex_76) k) ?_
              exact k10
          intro z6 hz6
          refine OGo.retN X0 hx (t := .boolean) hret hlk (by simp) (hb hby d_ex_77) ?_ (by decide) (by decide)
          refine ⟨?_, e0, rfl⟩
          subst hz6
          rw [F_ex]
          rw [if_pos hc1]
          rw [if_pos hc2]
          rw [if_pos hc3]
          rw [if_neg hc4]
      · skip
        refine OGo.go (U' := T0.setTop (mkF m 39 #[.val (.int x0), .val (.int x0), .val (.int (x0 ||| (32 : Int32))), .val (.int (x0 - (48 : Int32))), .unset] [])) (fun _ k => XS.ifNo X0.here hx rfl (hb hby d_ex_36) rfl ((if0 _ _).trans (flt hc3).1) k) ?_
        refine OGo.go (U' := T0.setTop (mkF m 40 #[.val (.int x0), .val (.int x0), .val (.int (x0 ||| (32 : Int32))), .val (.int (x0 - (48 : Int32))), .unset] [(.int (x0 - (48 : Int32)))])) (fun _ k => XS.iloadN X0.here hx rfl (hb hby d_ex_39) rfl k) ?_
        refine OGo.go (U' := T0.setTop (mkF m 42 #[.val (.int x0), .val (.int x0), .val (.int (x0 ||| (32 : Int32))), .val (.int (x0 - (48 : Int32))), .unset] [(.int (10 : Int32)), (.int (x0 - (48 : Int32)))])) (fun _ k => XS.bipush X0.here hx rfl (hb hby d_ex_40) k) ?_
        by_cases hc11 : (x0 - (48 : Int32)) < (10 : Int32)
        · skip
          refine OGo.go (U' := T0.setTop (mkF m 45 #[.val (.int x0), .val (.int x0), .val (.int (x0 ||| (32 : Int32))), .val (.int (x0 - (48 : Int32))), .unset] [])) (fun _ k => XS.icmpNo X0.here hx rfl (hb hby d_ex_42) rfl (tlt hc11).2.1 k) ?_
          refine OGo.go (U' := T0.setTop (mkF m 46 #[.val (.int x0), .val (.int x0), .val (.int (x0 ||| (32 : Int32))), .val (.int (x0 - (48 : Int32))), .unset] [(.int (1 : Int32))])) (fun _ k => XS.iconst X0.here hx rfl (hb hby d_ex_45) k) ?_
          refine OGo.retN X0 hx (t := .boolean) hret hlk (by simp) (hb hby d_ex_46) ?_ (by decide) (by decide)
          refine ⟨?_, e0, rfl⟩
          rw [F_ex]
          rw [if_pos hc1]
          rw [if_pos hc2]
          rw [if_neg hc3]
          rw [if_pos hc11]
        · skip
          refine OGo.go (U' := T0.setTop (mkF m 47 #[.val (.int x0), .val (.int x0), .val (.int (x0 ||| (32 : Int32))), .val (.int (x0 - (48 : Int32))), .unset] [])) (fun _ k => XS.icmpYes X0.here hx rfl (pc0 := 42) (pc' := 47) rfl (hb hby d_ex_42) rfl (flt hc11).2.1 (by decide) (by decide) k) ?_
          refine OGo.go (U' := T0.setTop (mkF m 48 #[.val (.int x0), .val (.int x0), .val (.int (x0 ||| (32 : Int32))), .val (.int (x0 - (48 : Int32))), .unset] [(.int x0)])) (fun _ k => XS.iloadN X0.here hx rfl (hb hby d_ex_47) rfl k) ?_
          refine OGo.go (U' := T0.setTop (mkF m 50 #[.val (.int x0), .val (.int x0), .val (.int (x0 ||| (32 : Int32))), .val (.int (x0 - (48 : Int32))), .unset] [(.int (95 : Int32)), (.int x0)])) (fun _ k => XS.bipush X0.here hx rfl (hb hby d_ex_48) k) ?_
          by_cases hc12 : x0 = (95 : Int32)
          · skip
            refine OGo.go (U' := T0.setTop (mkF m 53 #[.val (.int x0), .val (.int x0), .val (.int (x0 ||| (32 : Int32))), .val (.int (x0 - (48 : Int32))), .unset] [])) (fun _ k => XS.icmpNo X0.here hx rfl (hb hby d_ex_50) rfl (teq hc12).2 k) ?_
            refine OGo.go (U' := T0.setTop (mkF m 54 #[.val (.int x0), .val (.int x0), .val (.int (x0 ||| (32 : Int32))), .val (.int (x0 - (48 : Int32))), .unset] [(.int (1 : Int32))])) (fun _ k => XS.iconst X0.here hx rfl (hb hby d_ex_53) k) ?_
            refine OGo.retN X0 hx (t := .boolean) hret hlk (by simp) (hb hby d_ex_54) ?_ (by decide) (by decide)
            refine ⟨?_, e0, rfl⟩
            rw [F_ex]
            rw [if_pos hc1]
            rw [if_pos hc2]
            rw [if_neg hc3]
            rw [if_neg hc11]
            rw [if_pos hc12]
          · skip
            refine OGo.go (U' := T0.setTop (mkF m 55 #[.val (.int x0), .val (.int x0), .val (.int (x0 ||| (32 : Int32))), .val (.int (x0 - (48 : Int32))), .unset] [])) (fun _ k => XS.icmpYes X0.here hx rfl (pc0 := 50) (pc' := 55) rfl (hb hby d_ex_50) rfl (feq hc12).2 (by decide) (by decide) k) ?_
            refine OGo.go (U' := T0.setTop (mkF m 56 #[.val (.int x0), .val (.int x0), .val (.int (x0 ||| (32 : Int32))), .val (.int (x0 - (48 : Int32))), .unset] [(.int x0)])) (fun _ k => XS.iloadN X0.here hx rfl (hb hby d_ex_55) rfl k) ?_
            refine OGo.go (U' := T0.setTop (mkF m 58 #[.val (.int x0), .val (.int x0), .val (.int (x0 ||| (32 : Int32))), .val (.int (x0 - (48 : Int32))), .unset] [(.int (45 : Int32)), (.int x0)])) (fun _ k => XS.bipush X0.here hx rfl (hb hby d_ex_56) k) ?_
            refine OGo.go (U' := T0.setTop (mkF m 59 #[.val (.int x0), .val (.int x0), .val (.int (x0 ||| (32 : Int32))), .val (.int (x0 - (48 : Int32))), .unset] [(.int (x0 - (45 : Int32)))])) (fun _ k => XS.isub X0.here hx rfl (hb hby d_ex_58) rfl k) ?_
            refine OGo.go (U' := T0.setTop (mkF m 61 #[.val (.int x0), .val (.int x0), .val (.int (x0 ||| (32 : Int32))), .val (.int (x0 - (48 : Int32))), .val (.int (x0 - (45 : Int32)))] [])) (fun _ k => XS.istore X0.here hx rfl (hb hby d_ex_59) rfl (l' := #[.val (.int x0), .val (.int x0), .val (.int (x0 ||| (32 : Int32))), .val (.int (x0 - (48 : Int32))), .val (.int (x0 - (45 : Int32)))]) rfl k) ?_
            refine OGo.go (U' := T0.setTop (mkF m 63 #[.val (.int x0), .val (.int x0), .val (.int (x0 ||| (32 : Int32))), .val (.int (x0 - (48 : Int32))), .val (.int (x0 - (45 : Int32)))] [(.int (x0 - (45 : Int32)))])) (fun _ k => XS.iload X0.here hx rfl (hb hby d_ex_61) rfl k) ?_
            refine OGo.ite1 (P := (x0 - (45 : Int32)) = (0 : Int32)) (fun (z14 : Int32) => T0.setTop (mkF m 77 #[.val (.int x0), .val (.int x0), .val (.int (x0 ||| (32 : Int32))), .val (.int (x0 - (48 : Int32))), .val (.int (x0 - (45 : Int32)))] [(.int z14)])) (x := (1 : Int32)) (y := (if (x0 - (45 : Int32)) = (1 : Int32) then (1 : Int32) else (0 : Int32))) (fun hc13 k15 => ?_) (fun hc13 k15 => ?_) ?_
            · skip
              refine OGo.go (U' := T0.setTop (mkF m 72 #[.val (.int x0), .val (.int x0), .val (.int (x0 ||| (32 : Int32))), .val (.int (x0 - (48 : Int32))), .val (.int (x0 - (45 : Int32)))] [])) (fun _ k => XS.ifYes X0.here hx rfl (pc0 := 63) (pc' := 72) rfl (hb hby d_ex_63) rfl ((if0 _ _).trans (teq hc13).1) (by decide) (by decide) k) ?_
              refine OGo.go (U' := T0.setTop (mkF m 73 #[.val (.int x0), .val (.int x0), .val (.int (x0 ||| (32 : Int32))), .val (.int (x0 - (48 : Int32))), .val (.int (x0 - (45 : Int32)))] [(.int (1 : Int32))])) (fun _ k => XS.iconst X0.here hx rfl (hb hby d_ex_72) k) ?_
              refine OGo.go (U' := T0.setTop (mkF m 77 #[.val (.int x0), .val (.int x0), .val (.int (x0 ||| (32 : Int32))), .val (.int (x0 - (48 : Int32))), .val (.int (x0 - (45 : Int32)))] [(.int (1 : Int32))])) (fun _ k => XS.goto X0.here hx rfl (pc0 := 73) (pc' := 77) rfl (hb hby d_ex_73) (by decide) (by decide) k) ?_
              exact k15
            · skip
              refine OGo.go (U' := T0.setTop (mkF m 66 #[.val (.int x0), .val (.int x0), .val (.int (x0 ||| (32 : Int32))), .val (.int (x0 - (48 : Int32))), .val (.int (x0 - (45 : Int32)))] [])) (fun _ k => XS.ifNo X0.here hx rfl (hb hby d_ex_63) rfl ((if0 _ _).trans (feq hc13).1) k) ?_
              refine OGo.go (U' := T0.setTop (mkF m 68 #[.val (.int x0), .val (.int x0), .val (.int (x0 ||| (32 : Int32))), .val (.int (x0 - (48 : Int32))), .val (.int (x0 - (45 : Int32)))] [(.int (x0 - (45 : Int32)))])) (fun _ k => XS.iload X0.here hx rfl (hb hby d_ex_66) rfl k) ?_
              refine OGo.go (U' := T0.setTop (mkF m 69 #[.val (.int x0), .val (.int x0), .val (.int (x0 ||| (32 : Int32))), .val (.int (x0 - (48 : Int32))), .val (.int (x0 - (45 : Int32)))] [(.int (1 : Int32)), (.int (x0 - (45 : Int32)))])) (fun _ k => XS.iconst X0.here hx rfl (hb hby d_ex_68) k) ?_
              refine OGo.ite1 (P := (x0 - (45 : Int32)) = (1 : Int32)) (fun (z17 : Int32) => T0.setTop (mkF m 77 #[.val (.int x0), .val (.int x0), .val (.int (x0 ||| (32 : Int32))), .val (.int (x0 - (48 : Int32))), .val (.int (x0 - (45 : Int32)))] [(.int z17)])) (x := (1 : Int32)) (y := (0 : Int32)) (fun hc16 k18 => ?_) (fun hc16 k18 => ?_) (fun z17 hz17 => by subst hz17; exact k15)
              · skip
                refine OGo.go (U' := T0.setTop (mkF m 72 #[.val (.int x0), .val (.int x0), .val (.int (x0 ||| (32 : Int32))), .val (.int (x0 - (48 : Int32))), .val (.int (x0 - (45 : Int32)))] [])) (fun _ k => XS.icmpNo X0.here hx rfl (hb hby d_ex_69) rfl (teq hc16).2 k) ?_
                refine OGo.go (U' := T0.setTop (mkF m 73 #[.val (.int x0), .val (.int x0), .val (.int (x0 ||| (32 : Int32))), .val (.int (x0 - (48 : Int32))), .val (.int (x0 - (45 : Int32)))] [(.int (1 : Int32))])) (fun _ k => XS.iconst X0.here hx rfl (hb hby d_ex_72) k) ?_
                refine OGo.go (U' := T0.setTop (mkF m 77 #[.val (.int x0), .val (.int x0), .val (.int (x0 ||| (32 : Int32))), .val (.int (x0 - (48 : Int32))), .val (.int (x0 - (45 : Int32)))] [(.int (1 : Int32))])) (fun _ k => XS.goto X0.here hx rfl (pc0 := 73) (pc' := 77) rfl (hb hby d_ex_73) (by decide) (by decide) k) ?_
                exact k18
              · skip
                refine OGo.go (U' := T0.setTop (mkF m 76 #[.val (.int x0), .val (.int x0), .val (.int (x0 ||| (32 : Int32))), .val (.int (x0 - (48 : Int32))), .val (.int (x0 - (45 : Int32)))] [])) (fun _ k => XS.icmpYes X0.here hx rfl (pc0 := 69) (pc' := 76) rfl (hb hby d_ex_69) rfl (feq hc16).2 (by decide) (by decide) k) ?_
                refine OGo.go (U' := T0.setTop (mkF m 77 #[.val (.int x0), .val (.int x0), .val (.int (x0 ||| (32 : Int32))), .val (.int (x0 - (48 : Int32))), .val (.int (x0 - (45 : Int32)))] [(.int (0 : Int32))])) (fun _ k => XS.iconst X0.here hx rfl (hb hby d_ex_76) k) ?_
                exact k18
            intro z14 hz14
            refine OGo.retN X0 hx (t := .boolean) hret hlk (by simp) (hb hby d_ex_77) ?_ (by decide) (by decide)
            refine ⟨?_, e0, rfl⟩
            subst hz14
            rw [F_ex]
            rw [if_pos hc1]
            rw [if_pos hc2]
            rw [if_neg hc3]
            rw [if_neg hc11]
            rw [if_neg hc12]
    · skip
      refine OGo.go (U' := T0.setTop (mkF m 22 #[.val (.int x0), .val (.int x0), .val (.int (x0 ||| (32 : Int32))), .unset, .unset] [])) (fun _ k => XS.icmpNo X0.here hx rfl (hb hby d_ex_19) rfl (flt hc2).1 k) ?_
      refine OGo.go (U' := T0.setTop (mkF m 23 #[.val (.int x0), .val (.int x0), .val (.int (x0 ||| (32 : Int32))), .unset, .unset] [(.int (x0 ||| (32 : Int32)))])) (fun _ k => XS.iloadN X0.here hx rfl (hb hby d_ex_22) rfl k) ?_
      refine OGo.go (U' := T0.setTop (mkF m 25 #[.val (.int x0), .val (.int x0), .val (.int (x0 ||| (32 : Int32))), .unset, .unset] [(.int (122 : Int32)), (.int (x0 ||| (32 : Int32)))])) (fun _ k => XS.bipush X0.here hx rfl (hb hby d_ex_23) k) ?_
      by_cases hc19 : (122 : Int32) < (x0 ||| (32 : Int32))
      · skip
        refine OGo.go (U' := T0.setTop (mkF m 30 #[.val (.int x0), .val (.int x0), .val (.int (x0 ||| (32 : Int32))), .unset, .unset] [])) (fun _ k => XS.icmpYes X0.here hx rfl (pc0 := 25) (pc' := 30) rfl (hb hby d_ex_25) rfl (tlt hc19).2.2.1 (by decide) (by decide) k) ?_
        refine OGo.go (U' := T0.setTop (mkF m 31 #[.val (.int x0), .val (.int x0), .val (.int (x0 ||| (32 : Int32))), .unset, .unset] [(.int x0)])) (fun _ k => XS.iloadN X0.here hx rfl (hb hby d_ex_30) rfl k) ?_
        refine OGo.go (U' := T0.setTop (mkF m 33 #[.val (.int x0), .val (.int x0), .val (.int (x0 ||| (32 : Int32))), .unset, .unset] [(.int (48 : Int32)), (.int x0)])) (fun _ k => XS.bipush X0.here hx rfl (hb hby d_ex_31) k) ?_
        refine OGo.go (U' := T0.setTop (mkF m 34 #[.val (.int x0), .val (.int x0), .val (.int (x0 ||| (32 : Int32))), .unset, .unset] [(.int (x0 - (48 : Int32)))])) (fun _ k => XS.isub X0.here hx rfl (hb hby d_ex_33) rfl k) ?_
        refine OGo.go (U' := T0.setTop (mkF m 35 #[.val (.int x0), .val (.int x0), .val (.int (x0 ||| (32 : Int32))), .val (.int (x0 - (48 : Int32))), .unset] [])) (fun _ k => XS.istoreN X0.here hx rfl (hb hby d_ex_34) rfl (l' := #[.val (.int x0), .val (.int x0), .val (.int (x0 ||| (32 : Int32))), .val (.int (x0 - (48 : Int32))), .unset]) rfl k) ?_
        refine OGo.go (U' := T0.setTop (mkF m 36 #[.val (.int x0), .val (.int x0), .val (.int (x0 ||| (32 : Int32))), .val (.int (x0 - (48 : Int32))), .unset] [(.int (x0 - (48 : Int32)))])) (fun _ k => XS.iloadN X0.here hx rfl (hb hby d_ex_35) rfl k) ?_
        by_cases hc20 : (x0 - (48 : Int32)) < (0 : Int32)
        · skip
          refine OGo.go (U' := T0.setTop (mkF m 47 #[.val (.int x0), .val (.int x0), .val (.int (x0 ||| (32 : Int32))), .val (.int (x0 - (48 : Int32))), .unset] [])) (fun _ k => XS.ifYes X0.here hx rfl (pc0 := 36) (pc' := 47) rfl (hb hby d_ex_36) rfl ((if0 _ _).trans (tlt hc20).1) (by decide) (by decide) k) ?_
          refine OGo.go (U' := T0.setTop (mkF m 48 #[.val (.int x0), .val (.int x0), .val (.int (x0 ||| (32 : Int32))), .val (.int (x0 - (48 : Int32))), .unset] [(.int x0)])) (fun _ k => XS.iloadN X0.here hx rfl (hb hby d_ex_47) rfl k) ?_
          refine OGo.go (U' := T0.setTop (mkF m 50 #[.val (.int x0), .val (.int x0), .val (.int (x0 ||| (32 : Int32))), .val (.int (x0 - (48 : Int32))), .unset] [(.int (95 : Int32)), (.int x0)])) (fun _ k => XS.bipush X0.here hx rfl (hb hby d_ex_48) k) ?_
          by_cases hc21 : x0 = (95 : Int32)
          · skip
            refine OGo.go (U' := T0.setTop (mkF m 53 #[.val (.int x0), .val (.int x0), .val (.int (x0 ||| (32 : Int32))), .val (.int (x0 - (48 : Int32))), .unset] [])) (fun _ k => XS.icmpNo X0.here hx rfl (hb hby d_ex_50) rfl (teq hc21).2 k) ?_
            refine OGo.go (U' := T0.setTop (mkF m 54 #[.val (.int x0), .val (.int x0), .val (.int (x0 ||| (32 : Int32))), .val (.int (x0 - (48 : Int32))), .unset] [(.int (1 : Int32))])) (fun _ k => XS.iconst X0.here hx rfl (hb hby d_ex_53) k) ?_
            refine OGo.retN X0 hx (t := .boolean) hret hlk (by simp) (hb hby d_ex_54) ?_ (by decide) (by decide)
            refine ⟨?_, e0, rfl⟩
            rw [F_ex]
            rw [if_pos hc1]
            rw [if_neg hc2]
            rw [if_pos hc19]
            rw [if_pos hc20]
            rw [if_pos hc21]
          · skip
            refine OGo.go (U' := T0.setTop (mkF m 55 #[.val (.int x0), .val (.int x0), .val (.int (x0 ||| (32 : Int32))), .val (.int (x0 - (48 : Int32))), .unset] [])) (fun _ k => XS.icmpYes X0.here hx rfl (pc0 := 50) (pc' := 55) rfl (hb hby d_ex_50) rfl (feq hc21).2 (by decide) (by decide) k) ?_
            refine OGo.go (U' := T0.setTop (mkF m 56 #[.val (.int x0), .val (.int x0), .val (.int (x0 ||| (32 : Int32))), .val (.int (x0 - (48 : Int32))), .unset] [(.int x0)])) (fun _ k => XS.iloadN X0.here hx rfl (hb hby d_ex_55) rfl k) ?_
            refine OGo.go (U' := T0.setTop (mkF m 58 #[.val (.int x0), .val (.int x0), .val (.int (x0 ||| (32 : Int32))), .val (.int (x0 - (48 : Int32))), .unset] [(.int (45 : Int32)), (.int x0)])) (fun _ k => XS.bipush X0.here hx rfl (hb hby d_ex_56) k) ?_
            refine OGo.go (U' := T0.setTop (mkF m 59 #[.val (.int x0), .val (.int x0), .val (.int (x0 ||| (32 : Int32))), .val (.int (x0 - (48 : Int32))), .unset] [(.int (x0 - (45 : Int32)))])) (fun _ k => XS.isub X0.here hx rfl (hb hby d_ex_58) rfl k) ?_
            refine OGo.go (U' := T0.setTop (mkF m 61 #[.val (.int x0), .val (.int x0), .val (.int (x0 ||| (32 : Int32))), .val (.int (x0 - (48 : Int32))), .val (.int (x0 - (45 : Int32)))] [])) (fun _ k => XS.istore X0.here hx rfl (hb hby d_ex_59) rfl (l' := #[.val (.int x0), .val (.int x0), .val (.int (x0 ||| (32 : Int32))), .val (.int (x0 - (48 : Int32))), .val (.int (x0 - (45 : Int32)))]) rfl k) ?_
            refine OGo.go (U' := T0.setTop (mkF m 63 #[.val (.int x0), .val (.int x0), .val (.int (x0 ||| (32 : Int32))), .val (.int (x0 - (48 : Int32))), .val (.int (x0 - (45 : Int32)))] [(.int (x0 - (45 : Int32)))])) (fun _ k => XS.iload X0.here hx rfl (hb hby d_ex_61) rfl k) ?_
            refine OGo.ite1 (P := (x0 - (45 : Int32)) = (0 : Int32)) (fun (z23 : Int32) => T0.setTop (mkF m 77 #[.val (.int x0), .val (.int x0), .val (.int (x0 ||| (32 : Int32))), .val (.int (x0 - (48 : Int32))), .val (.int (x0 - (45 : Int32)))] [(.int z23)])) (x := (1 : Int32)) (y := (if (x0 - (45 : Int32)) = (1 : Int32) then (1 : Int32) else (0 : Int32))) (fun hc22 k24 => ?_) (fun hc22 k24 => ?_) ?_
            · skip
              refine OGo.go (U' := T0.setTop (mkF m 72 #[.val (.int x0), .val (.int x0), .val (.int (x0 ||| (32 : Int32))), .val (.int (x0 - (48 : Int32))), .val (.int (x0 - (45 : Int32)))] [])) (fun _ k => XS.ifYes X0.here hx rfl (pc0 := 63) (pc' := 72) rfl (hb hby d_ex_63) rfl ((if0 _ _).trans (teq hc22).1) (by decide) (by decide) k) ?_
              refine OGo.go (U' := T0.setTop (mkF m 73 #[.val (.int x0), .val (.int x0), .val (.int (x0 ||| (32 : Int32))), .val (.int (x0 - (48 : Int32))), .val (.int (x0 - (45 : Int32)))] [(.int (1 : Int32))])) (fun _ k => XS.iconst X0.here hx rfl (hb hby d_ex_72) k) ?_
              refine OGo.go (U' := T0.setTop (mkF m 77 #[.val (.int x0), .val (.int x0), .val (.int (x0 ||| (32 : Int32))), .val (.int (x0 - (48 : Int32))), .val (.int (x0 - (45 : Int32)))] [(.int (1 : Int32))])) (fun _ k => XS.goto X0.here hx rfl (pc0 := 73) (pc' := 77) rfl (hb hby d_ex_73) (by decide) (by decide) k) ?_
              exact k24
            · skip
              refine OGo.go (U' := T0.setTop (mkF m 66 #[.val (.int x0), .val (.int x0), .val (.int (x0 ||| (32 : Int32))), .val (.int (x0 - (48 : Int32))), .val (.int (x0 - (45 : Int32)))] [])) (fun _ k => XS.ifNo X0.here hx rfl (hb hby d_ex_63) rfl ((if0 _ _).trans (feq hc22).1) k) ?_
              refine OGo.go (U' := T0.setTop (mkF m 68 #[.val (.int x0), .val (.int x0), .val (.int (x0 ||| (32 : Int32))), .val (.int (x0 - (48 : Int32))), .val (.int (x0 - (45 : Int32)))] [(.int (x0 - (45 : Int32)))])) (fun _ k => XS.iload X0.here hx rfl (hb hby d_ex_66) rfl k) ?_
              refine OGo.go (U' := T0.setTop (mkF m 69 #[.val (.int x0), .val (.int x0), .val (.int (x0 ||| (32 : Int32))), .val (.int (x0 - (48 : Int32))), .val (.int (x0 - (45 : Int32)))] [(.int (1 : Int32)), (.int (x0 - (45 : Int32)))])) (fun _ k => XS.iconst X0.here hx rfl (hb hby d_ex_68) k) ?_
              refine OGo.ite1 (P := (x0 - (45 : Int32)) = (1 : Int32)) (fun (z26 : Int32) => T0.setTop (mkF m 77 #[.val (.int x0), .val (.int x0), .val (.int (x0 ||| (32 : Int32))), .val (.int (x0 - (48 : Int32))), .val (.int (x0 - (45 : Int32)))] [(.int z26)])) (x := (1 : Int32)) (y := (0 : Int32)) (fun hc25 k27 => ?_) (fun hc25 k27 => ?_) (fun z26 hz26 => by subst hz26; exact k24)
              · skip
                refine OGo.go (U' := T0.setTop (mkF m 72 #[.val (.int x0), .val (.int x0), .val (.int (x0 ||| (32 : Int32))), .val (.int (x0 - (48 : Int32))), .val (.int (x0 - (45 : Int32)))] [])) (fun _ k => XS.icmpNo X0.here hx rfl (hb hby d_ex_69) rfl (teq hc25).2 k) ?_
                refine OGo.go (U' := T0.setTop (mkF m 73 #[.val (.int x0), .val (.int x0), .val (.int (x0 ||| (32 : Int32))), .val (.int (x0 - (48 : Int32))), .val (.int (x0 - (45 : Int32)))] [(.int (1 : Int32))])) (fun _ k => XS.iconst X0.here hx rfl (hb hby d_ex_72) k) ?_
                refine OGo.go (U' := T0.setTop (mkF m 77 #[.val (.int x0), .val (.int x0), .val (.int (x0 ||| (32 : Int32))), .val (.int (x0 - (48 : Int32))), .val (.int (x0 - (45 : Int32)))] [(.int (1 : Int32))])) (fun _ k => XS.goto X0.here hx rfl (pc0 := 73) (pc' := 77) rfl (hb hby d_ex_73) (by decide) (by decide) k) ?_
                exact k27
              · skip
                refine OGo.go (U' := T0.setTop (mkF m 76 #[.val (.int x0), .val (.int x0), .val (.int (x0 ||| (32 : Int32))), .val (.int (x0 - (48 : Int32))), .val (.int (x0 - (45 : Int32)))] [])) (fun _ k => XS.icmpYes X0.here hx rfl (pc0 := 69) (pc' := 76) rfl (hb hby d_ex_69) rfl (feq hc25).2 (by decide) (by decide) k) ?_
                refine OGo.go (U' := T0.setTop (mkF m 77 #[.val (.int x0), .val (.int x0), .val (.int (x0 ||| (32 : Int32))), .val (.int (x0 - (48 : Int32))), .val (.int (x0 - (45 : Int32)))] [(.int (0 : Int32))])) (fun _ k => XS.iconst X0.here hx rfl (hb hby d_ex_76) k) ?_
                exact k27
            intro z23 hz23
            refine OGo.retN X0 hx (t := .boolean) hret hlk (by simp) (hb hby d_ex_77) ?_ (by decide) (by decide)
            refine ⟨?_, e0, rfl⟩
            subst hz23
            rw [F_ex]
            rw [if_pos hc1]
            rw [if_neg hc2]
            rw [if_pos hc19]
            rw [if_pos hc20]
            rw [if_neg hc21]
        · skip
          refine OGo.go (U' := T0.setTop (mkF m 39 #[.val (.int x0), .val (.int x0), .val (.int (x0 ||| (32 : Int32))), .val (.int (x0 - (48 : Int32))), .unset] [])) (fun _ k => XS.ifNo X0.here hx rfl (hb hby d_ex_36) rfl ((if0 _ _).trans (flt hc20).1) k) ?_
          refine OGo.go (U' := T0.setTop (mkF m 40 #[.val (.int x0), .val (.int x0), .val (.int (x0 ||| (32 : Int32))), .val (.int (x0 - (48 : Int32))), .unset] [(.int (x0 - (48 : Int32)))])) (fun _ k => XS.iloadN X0.here hx rfl (hb hby d_ex_39) rfl k) ?_
          refine OGo.go (U' := T0.setTop (mkF m 42 #[.val (.int x0), .val (.int x0), .val (.int (x0 ||| (32 : Int32))), .val (.int (x0 - (48 : Int32))), .unset] [(.int (10 : Int32)), (.int (x0 - (48 : Int32)))])) (fun _ k => XS.bipush X0.here hx rfl (hb hby d_ex_40) k) ?_
          by_cases hc28 : (x0 - (48 : Int32)) < (10 : Int32)
          · skip
            refine OGo.go (U' := T0.setTop (mkF m 45 #[.val (.int x0), .val (.int x0), .val (.int (x0 ||| (32 : Int32))), .val (.int (x0 - (48 : Int32))), .unset] [])) (fun _ k => XS.icmpNo X0.here hx rfl (hb hby d_ex_42) rfl (tlt hc28).2.1 k) ?_
            refine OGo.go (U' := T0.setTop (mkF m 46 #[.val (.int x0), .val (.int x0), .val (.int (x0 ||| (32 : Int32))), .val (.int (x0 - (48 : Int32))), .unset] [(.int (1 : Int32))])) (fun _ k => XS.iconst X0.here hx rfl (hb hby d_ex_45) k) ?_
            refine OGo.retN X0 hx (t := .boolean) hret hlk (by simp) (hb hby d_ex_46) ?_ (by decide) (by decide)
            refine ⟨?_, e0, rfl⟩
            rw [F_ex]
            rw [if_pos hc1]
            rw [if_neg hc2]
            rw [if_pos hc19]
            rw [if_neg hc20]
            rw [if_pos hc28]
          · skip
            refine OGo.go (U' := T0.setTop (mkF m 47 #[.val (.int x0), .val (.int x0), .val (.int (x0 ||| (32 : Int32))), .val (.int (x0 - (48 : Int32))), .unset] [])) (fun _ k => XS.icmpYes X0.here hx rfl (pc0 := 42) (pc' := 47) rfl (hb hby d_ex_42) rfl (flt hc28).2.1 (by decide) (by decide) k) ?_
            refine OGo.go (U' := T0.setTop (mkF m 48 #[.val (.int x0), .val (.int x0), .val (.int (x0 ||| (32 : Int32))), .val (.int (x0 - (48 : Int32))), .unset] [(.int x0)])) (fun _ k => XS.iloadN X0.here hx rfl (hb hby d_ex_47) rfl k) ?_
            refine OGo.go (U' := T0.setTop (mkF m 50 #[.val (.int x0), .val (.int x0), .val (.int (x0 ||| (32 : Int32))), .val (.int (x0 - (48 : Int32))), .unset] [(.int (95 : Int32)), (.int x0)])) (fun _ k => XS.bipush X0.here hx rfl (hb hby d_ex_48) k) ?_
            by_cases hc29 : x0 = (95 : Int32)
            · skip
              refine OGo.go (U' := T0.setTop (mkF m 53 #[.val (.int x0), .val (.int x0), .val (.int (x0 ||| (32 : Int32))), .val (.int (x0 - (48 : Int32))), .unset] [])) (fun _ k => XS.icmpNo X0.here hx rfl (hb hby d_ex_50) rfl (teq hc29).2 k) ?_
              refine OGo.go (U' := T0.setTop (mkF m 54 #[.val (.int x0), .val (.int x0), .val (.int (x0 ||| (32 : Int32))), .val (.int (x0 - (48 : Int32))), .unset] [(.int (1 : Int32))])) (fun _ k => XS.iconst X0.here hx rfl (hb hby d_ex_53) k) ?_
              refine OGo.retN X0 hx (t := .boolean) hret hlk (by simp) (hb hby d_ex_54) ?_ (by decide) (by decide)
              refine ⟨?_, e0, rfl⟩
              rw [F_ex]
              rw [if_pos hc1]
              rw [if_neg hc2]
              rw [if_pos hc19]
              rw [if_neg hc20]
              rw [if_neg hc28]
              rw [if_pos hc29]
            · skip
              refine OGo.go (U' := T0.setTop (mkF m 55 #[.val (.int x0), .val (.int x0), .val (.int (x0 ||| (32 : Int32))), .val (.int (x0 - (48 : Int32))), .unset] [])) (fun _ k => XS.icmpYes X0.here hx rfl (pc0 := 50) (pc' := 55) rfl (hb hby d_ex_50) rfl (feq hc29).2 (by decide) (by decide) k) ?_
              refine OGo.go (U' := T0.setTop (mkF m 56 #[.val (.int x0), .val (.int x0), .val (.int (x0 ||| (32 : Int32))), .val (.int (x0 - (48 : Int32))), .unset] [(.int x0)])) (fun _ k => XS.iloadN X0.here hx rfl (hb hby d_ex_55) rfl k) ?_
              refine OGo.go (U' := T0.setTop (mkF m 58 #[.val (.int x0), .val (.int x0), .val (.int (x0 ||| (32 : Int32))), .val (.int (x0 - (48 : Int32))), .unset] [(.int (45 : Int32)), (.int x0)])) (fun _ k => XS.bipush X0.here hx rfl (hb hby d_ex_56) k) ?_
              refine OGo.go (U' := T0.setTop (mkF m 59 #[.val (.int x0), .val (.int x0), .val (.int (x0 ||| (32 : Int32))), .val (.int (x0 - (48 : Int32))), .unset] [(.int (x0 - (45 : Int32)))])) (fun _ k => XS.isub X0.here hx rfl (hb hby d_ex_58) rfl k) ?_
              refine OGo.go (U' := T0.setTop (mkF m 61 #[.val (.int x0), .val (.int x0), .val (.int (x0 ||| (32 : Int32))), .val (.int (x0 - (48 : Int32))), .val (.int (x0 - (45 : Int32)))] [])) (fun _ k => XS.istore X0.here hx rfl (hb hby d_ex_59) rfl (l' := #[.val (.int x0), .val (.int x0), .val (.int (x0 ||| (32 : Int32))), .val (.int (x0 - (48 : Int32))), .val (.int (x0 - (45 : Int32)))]) rfl k) ?_
              refine OGo.go (U' := T0.setTop (mkF m 63 #[.val (.int x0), .val (.int x0), .val (.int (x0 ||| (32 : Int32))), .val (.int (x0 - (48 : Int32))), .val (.int (x0 - (45 : Int32)))] [(.int (x0 - (45 : Int32)))])) (fun _ k => XS.iload X0.here hx rfl (hb hby d_ex_61) rfl k) ?_
              refine OGo.ite1 (P := (x0 - (45 : Int32)) = (0 : Int32)) (fun (z31 : Int32) => T0.setTop (mkF m 77 #[.val (.int x0), .val (.int x0), .val (.int (x0 ||| (32 : Int32))), .val (.int (x0 - (48 : Int32))), .val (.int (x0 - (45 : Int32)))] [(.int z31)])) (x := (1 : Int32)) (y := (if (x0 - (45 : Int32)) = (1 : Int32) then (1 : Int32) else (0 : Int32))) (fun hc30 k32 => ?_) (fun hc30 k32 => ?_) ?_
              · skip
                refine OGo.go (U' := T0.setTop (mkF m 72 #[.val (.int x0), .val (.int x0), .val (.int (x0 ||| (32 : Int32))), .val (.int (x0 - (48 : Int32))), .val (.int (x0 - (45 : Int32)))] [])) (fun _ k => XS.ifYes X0.here hx rfl (pc0 := 63) (pc' := 72) rfl (hb hby d_ex_63) rfl ((if0 _ _).trans (teq hc30).1) (by decide) (by decide) k) ?_
                refine OGo.go (U' := T0.setTop (mkF m 73 #[.val (.int x0), .val (.int x0), .val (.int (x0 ||| (32 : Int32))), .val (.int (x0 - (48 : Int32))), .val (.int (x0 - (45 : Int32)))] [(.int (1 : Int32))])) (fun _ k => XS.iconst X0.here hx rfl (hb hby d_ex_72) k) ?_
                refine OGo.go (U' := T0.setTop (mkF m 77 #[.val (.int x0), .val (.int x0), .val (.int (x0 ||| (32 : Int32))), .val (.int (x0 - (48 : Int32))), .val (.int (x0 - (45 : Int32)))] [(.int (1 : Int32))])) (fun _ k => XS.goto X0.here hx rfl (pc0 := 73) (pc' := 77) rfl (hb hby d_ex_73) (by decide) (by decide) k) ?_
                exact k32
              · skip
                refine OGo.go (U' := T0.setTop (mkF m 66 #[.val (.int x0), .val (.int x0), .val (.int (x0 ||| (32 : Int32))), .val (.int (x0 - (48 : Int32))), .val (.int (x0 - (45 : Int32)))] [])) (fun _ k => XS.ifNo X0.here hx rfl (hb hby d_ex_63) rfl ((if0 _ _).trans (feq hc30).1) k) ?_
                refine OGo.go (U' := T0.setTop (mkF m 68 #[.val (.int x0), .val (.int x0), .val (.int (x0 ||| (32 : Int32))), .val (.int (x0 - (48 : Int32))), .val (.int (x0 - (45 : Int32)))] [(.int (x0 - (45 : Int32)))])) (fun _ k => XS.iload X0.here hx rfl (hb hby d_ex_66) rfl k) ?_
                refine OGo.go (U' := T0.setTop (mkF m 69 #[.val (.int x0), .val (.int x0), .val (.int (x0 ||| (32 : Int32))), .val (.int (x0 - (48 : Int32))), .val (.int (x0 - (45 : Int32)))] [(.int (1 : Int32)), (.int (x0 - (45 : Int32)))])) (fun _ k => XS.iconst X0.here hx rfl (hb hby d_ex_68) k) ?_
                refine OGo.ite1 (P := (x0 - (45 : Int32)) = (1 : Int32)) (fun (z34 : Int32) => T0.setTop (mkF m 77 #[.val (.int x0), .val (.int x0), .val (.int (x0 ||| (32 : Int32))), .val (.int (x0 - (48 : Int32))), .val (.int (x0 - (45 : Int32)))] [(.int z34)])) (x := (1 : Int32)) (y := (0 : Int32)) (fun hc33 k35 => ?_) (fun hc33 k35 => ?_) (fun z34 hz34 => by subst hz34; exact k32)
                · skip
                  refine OGo.go (U' := T0.setTop (mkF m 72 #[.val (.int x0), .val (.int x0), .val (.int (x0 ||| (32 : Int32))), .val (.int (x0 - (48 : Int32))), .val (.int (x0 - (45 : Int32)))] [])) (fun _ k => XS.icmpNo X0.here hx rfl (hb hby d_ex_69) rfl (teq hc33).2 k) ?_
                  refine OGo.go (U' := T0.setTop (mkF m 73 #[.val (.int x0), .val (.int x0), .val (.int (x0 ||| (32 : Int32))), .val (.int (x0 - (48 : Int32))), .val (.int (x0 - (45 : Int32)))] [(.int (1 : Int32))])) (fun _ k => XS.iconst X0.here hx rfl (hb hby d_ex_72) k) ?_
                  refine OGo.go (U' := T0.setTop (mkF m 77 #[.val (.int x0), .val (.int x0), .val (.int (x0 ||| (32 : Int32))), .val (.int (x0 - (48 : Int32))), .val (.int (x0 - (45 : Int32)))] [(.int (1 : Int32))])) (fun _ k => XS.goto X0.here hx rfl (pc0 := 73) (pc' := 77) rfl (hb hby d_ex_73) (by decide) (by decide) k) ?_
                  exact k35
                · skip
                  refine OGo.go (U' := T0.setTop (mkF m 76 #[.val (.int x0), .val (.int x0), .val (.int (x0 ||| (32 : Int32))), .val (.int (x0 - (48 : Int32))), .val (.int (x0 - (45 : Int32)))] [])) (fun _ k => XS.icmpYes X0.here hx rfl (pc0 := 69) (pc' := 76) rfl (hb hby d_ex_69) rfl (feq hc33).2 (by decide) (by decide) k) ?_
                  refine OGo.go (U' := T0.setTop (mkF m 77 #[.val (.int x0), .val (.int x0), .val (.int (x0 ||| (32 : Int32))), .val (.int (x0 - (48 : Int32))), .val (.int (x0 - (45 : Int32)))] [(.int (0 : Int32))])) (fun _ k => XS.iconst X0.here hx rfl (hb hby d_ex_76) k) ?_
                  exact k35
              intro z31 hz31
              refine OGo.retN X0 hx (t := .boolean) hret hlk (by simp) (hb hby d_ex_77) ?_ (by decide) (by decide)
              refine ⟨?_, e0, rfl⟩
              subst hz31
              rw [F_ex]
              rw [if_pos hc1]
              rw [if_neg hc2]
              rw [if_pos hc19]
              rw [if_neg hc20]
              rw [if_neg hc28]
              rw [if_neg hc29]
      · skip
        refine OGo.go (U' := T0.setTop (mkF m 28 #[.val (.int x0), .val (.int x0), .val (.int (x0 ||| (32 : Int32))), .unset, .unset] [])) (fun _ k => XS.icmpNo X0.here hx rfl (hb hby d_ex_25) rfl (flt hc19).2.2.1 k) ?_
        refine OGo.go (U' := T0.setTop (mkF m 29 #[.val (.int x0), .val (.int x0), .val (.int (x0 ||| (32 : Int32))), .unset, .unset] [(.int (1 : Int32))])) (fun _ k => XS.iconst X0.here hx rfl (hb hby d_ex_28) k) ?_
        refine OGo.retN X0 hx (t := .boolean) hret hlk (by simp) (hb hby d_ex_29) ?_ (by decide) (by decide)
        refine ⟨?_, e0, rfl⟩
        rw [F_ex]
        rw [if_pos hc1]
        rw [if_neg hc2]
        rw [if_neg hc19]
  · skip
    refine OGo.go (U' := T0.setTop (mkF m 9 #[.val (.int x0), .val (.int x0), .unset, .unset, .unset] [])) (fun _ k => XS.icmpNo X0.here hx rfl (hb hby d_ex_6) rfl (flt hc1).1 k) ?_
    refine OGo.go (U' := T0.setTop (mkF m 10 #[.val (.int x0), .val (.int x0), .unset, .unset, .unset] [(.int (0 : Int32))])) (fun _ k => XS.iconst X0.here hx rfl (hb hby d_ex_9) k) ?_
    refine OGo.retN X0 hx (t := .boolean) hret hlk (by simp) (hb hby d_ex_10) ?_ (by decide) (by decide)
    refine ⟨?_, e0, rfl⟩
    rw [F_ex]
    rw [if_neg hc1]
theorem own_nlt {x k : Int32} (K : Int) (hk : k.toInt = K) (h : K ≤ x.toInt) : ¬ x < k := by rw [Int32.lt_iff_toInt_lt, hk]; omega
theorem own_gt {x k : Int32} (K : Int) (hk : k.toInt = K) (h : K < x.toInt) : k < x := by rw [Int32.lt_iff_toInt_lt, hk]; exact h
theorem own_ne {x k : Int32} (K : Int) (hk : k.toInt = K) (h : x.toInt ≠ K) : ¬ x = k := fun q => h (by rw [q, hk])
theorem own_lo : ∀ n : Fin 128, F_isw (Int32.ofNat n) = F_ex (Int32.ofNat n) := by decide +kernel
theorem own_core (x : Int32) (h1 : 0 ≤ x.toInt) (h2 : x.toInt < 65536) : F_isw x = F_ex x := by
  by_cases hx : x.toInt < 128
  · have hn : x = Int32.ofNat (⟨x.toInt.toNat, by omega⟩ : Fin 128).val := by
      apply Int32.toInt_inj.mp
      rw [Int32.toInt_ofNat_of_lt (by simp only; omega)]
      simp only; omega
    rw [hn]; exact own_lo _
  · have b1 := own_nlt (x := x) (k := 97) 97 (by decide) (by omega)
    have b2 := own_gt (x := x) (k := 122) 122 (by decide) (by omega)
    have b3 := own_nlt (x := x) (k := 65) 65 (by decide) (by omega)
    have b4 := own_gt (x := x) (k := 90) 90 (by decide) (by omega)
    have b5 := own_nlt (x := x) (k := 48) 48 (by decide) (by omega)
    have b6 := own_gt (x := x) (k := 57) 57 (by decide) (by omega)
    have b7 := own_ne (x := x) (k := 95) 95 (by decide) (by omega)
    have b8 := own_ne (x := x) (k := 46) 46 (by decide) (by omega)
    have b9 := own_ne (x := x) (k := 45) 45 (by decide) (by omega)
    have b10 := own_nlt (x := x) (k := 128) 128 (by decide) (by omega)
    simp only [F_isw, F_isl, F_ex, b1, b2, b3, b4, b5, b6, b7, b8, b9, b10, if_true, if_false, nar_b0, nar_b1]
theorem own_ret_0 {x0 : Int32} {x1 : Int32} {y1 : Int32} {y3 : Int32} {y5 : Int32} {z7 : Int32} {y10 : Int32} {y12 : Int32} {z14 : Int32} {z17 : Int32} (hy1 : y1 = ((x1 &&& (127 : Int32)).toUInt32.toUInt16.toUInt32.toInt32)) (hy3 : y3 = (F_isw (x0.toUInt32.toUInt16.toUInt32.toInt32))) (hy5 : y5 = (F_ex (x0.toUInt32.toUInt16.toUInt32.toInt32))) (hz7 : z7 = (if y3 = y5 then (1 : Int32) else (0 : Int32))) (hy10 : y10 = (F_isw y1)) (hy12 : y12 = (F_ex y1)) (hz14 : z14 = (if y10 = y12 then (1 : Int32) else (0 : Int32))) (hz17 : z17 = (if z7 = (0 : Int32) then (0 : Int32) else (if z14 = (0 : Int32) then (0 : Int32) else (1 : Int32)))) : some (Value.int (nar .boolean z17)) = some (Value.int 1) := by
  have q1 : y3 = y5 := by rw [hy3, hy5]; exact own_core _ (c_i2c x0).2.1 (c_i2c x0).2.2
  have q2 : y10 = y12 := by rw [hy10, hy12, hy1]; exact own_core _ (c_i2c _).2.1 (c_i2c _).2.2
  rw [if_pos q1] at hz7
  rw [if_pos q2] at hz14
  subst hz7 hz14 hz17
  rfl
theorem ef_law (m : MethodId) (x0 : Int32) (x1 : Int32) : entryFrame m #[(.int x0), (.int x1)] maxLocals = mkF m 0 #[.val (.int x0), .val (.int x1), .unset, .unset, .unset, .unset] [] := by first | (simp [entryFrame, mkF, argsToLocals, Value.category, maxLocals]; done) | rfl
theorem pn_law : plainFor x = true := by first | exact plainFor_of_name (by first | (simp [plainName, overriddenIn]; done) | decide +kernel) | decide +kernel
set_option maxRecDepth 65536 in
set_option maxHeartbeats 40000000 in
theorem rm_law (l : Launch) (Z : State) (a0 : Array Value) (hw : ∀ d ∈ tables_1, d.before a0 Z = true) (x0 : Int32) (x1 : Int32) (n0 : Nat) (h0 : Heap)  :
    OMet l Z x code maxLocals ret tables_1 room_1 #[(.int x0), (.int x1)] h0 (fun v h L => v = some (.int 1) ∧ Fr n0 L) := by
  refine OMet.of pn_law ?_
  intro p e s m below meth c T0 X0 hx hby hml hown0 hnm hret hlk hZ e0
  have hown : s.vm.findClass "com/example/okstream/okstream/tap/YamlTextIsWordCharacterPinLaw" = some m.cls := hown0
  refine OGo.go (fun t k => castTop (ef_law m x0 x1) k) ?_
  refine OGo.go (U' := T0.setTop (mkF m 1 #[.val (.int x0), .val (.int x1), .unset, .unset, .unset, .unset] [(.int x0)])) (fun _ k => XS.iloadN X0.here hx rfl (hb hby at_0) rfl k) ?_
  refine OGo.go (U' := T0.setTop (mkF m 2 #[.val (.int x0), .val (.int x1), .unset, .unset, .unset, .unset] [(.int (x0.toUInt32.toUInt16.toUInt32.toInt32))])) (fun _ k => XS.i2c X0.here hx rfl (hb hby at_1) rfl k) ?_
  refine OGo.go (U' := T0.setTop (mkF m 3 #[.val (.int x0), .val (.int x1), .val (.int (x0.toUInt32.toUInt16.toUInt32.toInt32)), .unset, .unset, .unset] [])) (fun _ k => XS.istoreN X0.here hx rfl (hb hby at_2) rfl (l' := #[.val (.int x0), .val (.int x1), .val (.int (x0.toUInt32.toUInt16.toUInt32.toInt32)), .unset, .unset, .unset]) rfl k) ?_
  refine OGo.go (U' := T0.setTop (mkF m 4 #[.val (.int x0), .val (.int x1), .val (.int (x0.toUInt32.toUInt16.toUInt32.toInt32)), .unset, .unset, .unset] [(.int x1)])) (fun _ k => XS.iloadN X0.here hx rfl (hb hby at_3) rfl k) ?_
  refine OGo.go (U' := T0.setTop (mkF m 6 #[.val (.int x0), .val (.int x1), .val (.int (x0.toUInt32.toUInt16.toUInt32.toInt32)), .unset, .unset, .unset] [(.int (127 : Int32)), (.int x1)])) (fun _ k => XS.bipush X0.here hx rfl (hb hby at_4) k) ?_
  refine OGo.go (U' := T0.setTop (mkF m 7 #[.val (.int x0), .val (.int x1), .val (.int (x0.toUInt32.toUInt16.toUInt32.toInt32)), .unset, .unset, .unset] [(.int (x1 &&& (127 : Int32)))])) (fun _ k => XS.iand X0.here hx rfl (hb hby at_6) rfl k) ?_
  refine OGo.go (U' := T0.setTop (mkF m 8 #[.val (.int x0), .val (.int x1), .val (.int (x0.toUInt32.toUInt16.toUInt32.toInt32)), .unset, .unset, .unset] [(.int ((x1 &&& (127 : Int32)).toUInt32.toUInt16.toUInt32.toInt32))])) (fun _ k => XS.i2c X0.here hx rfl (hb hby at_7) rfl k) ?_
  refine OGo.go (U' := T0.setTop (mkF m 9 #[.val (.int x0), .val (.int x1), .val (.int (x0.toUInt32.toUInt16.toUInt32.toInt32)), .val (.int ((x1 &&& (127 : Int32)).toUInt32.toUInt16.toUInt32.toInt32)), .unset, .unset] [])) (fun _ k => XS.istoreN X0.here hx rfl (hb hby at_8) rfl (l' := #[.val (.int x0), .val (.int x1), .val (.int (x0.toUInt32.toUInt16.toUInt32.toInt32)), .val (.int ((x1 &&& (127 : Int32)).toUInt32.toUInt16.toUInt32.toInt32)), .unset, .unset]) rfl k) ?_
  refine OGo.nm (fun (y1 : Int32) => T0.setTop (mkF m 9 #[.val (.int x0), .val (.int x1), .val (.int (x0.toUInt32.toUInt16.toUInt32.toInt32)), .val (.int y1), .unset, .unset] [])) (x := ((x1 &&& (127 : Int32)).toUInt32.toUInt16.toUInt32.toInt32)) (fun y1 hy1 => ?_)
  refine OGo.go (U' := T0.setTop (mkF m 10 #[.val (.int x0), .val (.int x1), .val (.int (x0.toUInt32.toUInt16.toUInt32.toInt32)), .val (.int y1), .unset, .unset] [(.int (x0.toUInt32.toUInt16.toUInt32.toInt32))])) (fun _ k => XS.iloadN X0.here hx rfl (hb hby at_9) rfl k) ?_
  refine OGo.callS X0 hx hZ (y := (⟨"com/example/okstream/okstream/tap/YamlText", "isWordCharacter", "(C)Z"⟩ : MethodName)) hown (hw _ (List.mem_of_getElem? (i := 0) rfl)) (hw _ (List.mem_of_getElem? (i := 1) rfl)) (hw _ (List.mem_of_getElem? (i := 2) rfl)) (hw _ (List.mem_of_getElem? (i := 3) rfl)) (by decide) (g := (mkF m 10 #[.val (.int x0), .val (.int x1), .val (.int (x0.toUInt32.toUInt16.toUInt32.toInt32)), .val (.int y1), .unset, .unset] [(.int (x0.toUInt32.toUInt16.toUInt32.toInt32))])) (argsL := [(.int (x0.toUInt32.toUInt16.toUInt32.toInt32))]) (rest := []) e0 (rm_isw l Z a0 hw (x0.toUInt32.toUInt16.toUInt32.toInt32) h0) rfl (by rw [hml]; rfl) (lenOf pd_0 rfl) rfl (W := 0) (by show 2 * 0 + _ ≤ _; exact Nat.le_of_eq rfl) (hb hby at_10) (by decide) (by decide) (by decide) (by decide) ?_
  rintro _ T2 _ X2 ⟨rfl, e2, rfl⟩
  rw [List.append_nil] at X2
  refine OGo.nm (fun (y3 : Int32) => T2.setTop (mkF m 13 #[.val (.int x0), .val (.int x1), .val (.int (x0.toUInt32.toUInt16.toUInt32.toInt32)), .val (.int y1), .unset, .unset] [(.int y3)])) (x := (F_isw (x0.toUInt32.toUInt16.toUInt32.toInt32))) (fun y3 hy3 => ?_)
  refine OGo.go (U' := T2.setTop (mkF m 14 #[.val (.int x0), .val (.int x1), .val (.int (x0.toUInt32.toUInt16.toUInt32.toInt32)), .val (.int y1), .unset, .unset] [(.int (x0.toUInt32.toUInt16.toUInt32.toInt32)), (.int y3)])) (fun _ k => XS.iloadN X2.here hx rfl (hb hby at_13) rfl k) ?_
  refine OGo.callS X2 hx hZ (y := (⟨"com/example/okstream/okstream/tap/YamlTextIsWordCharacterPinLaw", "expected", "(C)Z"⟩ : MethodName)) hown (hw _ (List.mem_of_getElem? (i := 7) rfl)) (hw _ (List.mem_of_getElem? (i := 8) rfl)) (hw _ (List.mem_of_getElem? (i := 9) rfl)) (hw _ (List.mem_of_getElem? (i := 10) rfl)) (by decide) (g := (mkF m 14 #[.val (.int x0), .val (.int x1), .val (.int (x0.toUInt32.toUInt16.toUInt32.toInt32)), .val (.int y1), .unset, .unset] [(.int (x0.toUInt32.toUInt16.toUInt32.toInt32)), (.int y3)])) (argsL := [(.int (x0.toUInt32.toUInt16.toUInt32.toInt32))]) (rest := [(.int y3)]) e2 (rm_ex l Z a0 hw (x0.toUInt32.toUInt16.toUInt32.toInt32) h0) rfl (by rw [hml]; rfl) (lenOf pd_0 rfl) rfl (W := 1) (by show 2 * 0 + _ ≤ _; exact Nat.le_of_eq rfl) (hb hby at_14) (by decide) (by decide) (by decide) (by decide) ?_
  rintro _ T4 _ X4 ⟨rfl, e4, rfl⟩
  rw [List.append_nil] at X4
  refine OGo.nm (fun (y5 : Int32) => T4.setTop (mkF m 17 #[.val (.int x0), .val (.int x1), .val (.int (x0.toUInt32.toUInt16.toUInt32.toInt32)), .val (.int y1), .unset, .unset] [(.int y5), (.int y3)])) (x := (F_ex (x0.toUInt32.toUInt16.toUInt32.toInt32))) (fun y5 hy5 => ?_)
  refine OGo.ite1 (P := y3 = y5) (fun (z7 : Int32) => T4.setTop (mkF m 25 #[.val (.int x0), .val (.int x1), .val (.int (x0.toUInt32.toUInt16.toUInt32.toInt32)), .val (.int y1), .unset, .unset] [(.int z7)])) (x := (1 : Int32)) (y := (0 : Int32)) (fun hc6 k8 => ?_) (fun hc6 k8 => ?_) ?_
  · skip
    refine OGo.go (U' := T4.setTop (mkF m 20 #[.val (.int x0), .val (.int x1), .val (.int (x0.toUInt32.toUInt16.toUInt32.toInt32)), .val (.int y1), .unset, .unset] [])) (fun _ k => XS.icmpNo X4.here hx rfl (hb hby at_17) rfl (teq hc6).2 k) ?_
    refine OGo.go (U' := T4.setTop (mkF m 21 #[.val (.int x0), .val (.int x1), .val (.int (x0.toUInt32.toUInt16.toUInt32.toInt32)), .val (.int y1), .unset, .unset] [(.int (1 : Int32))])) (fun _ k => XS.iconst X4.here hx rfl (hb hby at_20) k) ?_
    refine OGo.go (U' := T4.setTop (mkF m 25 #[.val (.int x0), .val (.int x1), .val (.int (x0.toUInt32.toUInt16.toUInt32.toInt32)), .val (.int y1), .unset, .unset] [(.int (1 : Int32))])) (fun _ k => XS.goto X4.here hx rfl (pc0 := 21) (pc' := 25) rfl (hb hby at_21) (by decide) (by decide) k) ?_
    exact k8
  · skip
    refine OGo.go (U' := T4.setTop (mkF m 24 #[.val (.int x0), .val (.int x1), .val (.int (x0.toUInt32.toUInt16.toUInt32.toInt32)), .val (.int y1), .unset, .unset] [])) (fun _ k => XS.icmpYes X4.here hx rfl (pc0 := 17) (pc' := 24) rfl (hb hby at_17) rfl (feq hc6).2 (by decide) (by decide) k) ?_
    refine OGo.go (U' := T4.setTop (mkF m 25 #[.val (.int x0), .val (.int x1), .val (.int (x0.toUInt32.toUInt16.toUInt32.toInt32)), .val (.int y1), .unset, .unset] [(.int (0 : Int32))])) (fun _ k => XS.iconst X4.here hx rfl (hb hby at_24) k) ?_
    exact k8
  intro z7 hz7
  refine OGo.go (U' := T4.setTop (mkF m 27 #[.val (.int x0), .val (.int x1), .val (.int (x0.toUInt32.toUInt16.toUInt32.toInt32)), .val (.int y1), .val (.int z7), .unset] [])) (fun _ k => XS.istore X4.here hx rfl (hb hby at_25) rfl (l' := #[.val (.int x0), .val (.int x1), .val (.int (x0.toUInt32.toUInt16.toUInt32.toInt32)), .val (.int y1), .val (.int z7), .unset]) rfl k) ?_
  refine OGo.go (U' := T4.setTop (mkF m 28 #[.val (.int x0), .val (.int x1), .val (.int (x0.toUInt32.toUInt16.toUInt32.toInt32)), .val (.int y1), .val (.int z7), .unset] [(.int y1)])) (fun _ k => XS.iloadN X4.here hx rfl (hb hby at_27) rfl k) ?_
  refine OGo.callS X4 hx hZ (y := (⟨"com/example/okstream/okstream/tap/YamlText", "isWordCharacter", "(C)Z"⟩ : MethodName)) hown (hw _ (List.mem_of_getElem? (i := 0) rfl)) (hw _ (List.mem_of_getElem? (i := 1) rfl)) (hw _ (List.mem_of_getElem? (i := 2) rfl)) (hw _ (List.mem_of_getElem? (i := 3) rfl)) (by decide) (g := (mkF m 28 #[.val (.int x0), .val (.int x1), .val (.int (x0.toUInt32.toUInt16.toUInt32.toInt32)), .val (.int y1), .val (.int z7), .unset] [(.int y1)])) (argsL := [(.int y1)]) (rest := []) e4 (rm_isw l Z a0 hw y1 h0) rfl (by rw [hml]; rfl) (lenOf pd_0 rfl) rfl (W := 0) (by show 2 * 0 + _ ≤ _; exact Nat.le_of_eq rfl) (hb hby at_28) (by decide) (by decide) (by decide) (by decide) ?_
  rintro _ T9 _ X9 ⟨rfl, e9, rfl⟩
  rw [List.append_nil] at X9
  refine OGo.nm (fun (y10 : Int32) => T9.setTop (mkF m 31 #[.val (.int x0), .val (.int x1), .val (.int (x0.toUInt32.toUInt16.toUInt32.toInt32)), .val (.int y1), .val (.int z7), .unset] [(.int y10)])) (x := (F_isw y1)) (fun y10 hy10 => ?_)
  refine OGo.go (U' := T9.setTop (mkF m 32 #[.val (.int x0), .val (.int x1), .val (.int (x0.toUInt32.toUInt16.toUInt32.toInt32)), .val (.int y1), .val (.int z7), .unset] [(.int y1), (.int y10)])) (fun _ k => XS.iloadN X9.here hx rfl (hb hby at_31) rfl k) ?_
  refine OGo.callS X9 hx hZ (y := (⟨"com/example/okstream/okstream/tap/YamlTextIsWordCharacterPinLaw", "expected", "(C)Z"⟩ : MethodName)) hown (hw _ (List.mem_of_getElem? (i := 7) rfl)) (hw _ (List.mem_of_getElem? (i := 8) rfl)) (hw _ (List.mem_of_getElem? (i := 9) rfl)) (hw _ (List.mem_of_getElem? (i := 10) rfl)) (by decide) (g := (mkF m 32 #[.val (.int x0), .val (.int x1), .val (.int (x0.toUInt32.toUInt16.toUInt32.toInt32)), .val (.int y1), .val (.int z7), .unset] [(.int y1), (.int y10)])) (argsL := [(.int y1)]) (rest := [(.int y10)]) e9 (rm_ex l Z a0 hw y1 h0) rfl (by rw [hml]; rfl) (lenOf pd_0 rfl) rfl (W := 1) (by show 2 * 0 + _ ≤ _; exact Nat.le_of_eq rfl) (hb hby at_32) (by decide) (by decide) (by decide) (by decide) ?_
  rintro _ T11 _ X11 ⟨rfl, e11, rfl⟩
  rw [List.append_nil] at X11
  refine OGo.nm (fun (y12 : Int32) => T11.setTop (mkF m 35 #[.val (.int x0), .val (.int x1), .val (.int (x0.toUInt32.toUInt16.toUInt32.toInt32)), .val (.int y1), .val (.int z7), .unset] [(.int y12), (.int y10)])) (x := (F_ex y1)) (fun y12 hy12 => ?_)
  refine OGo.ite1 (P := y10 = y12) (fun (z14 : Int32) => T11.setTop (mkF m 43 #[.val (.int x0), .val (.int x1), .val (.int (x0.toUInt32.toUInt16.toUInt32.toInt32)), .val (.int y1), .val (.int z7), .unset] [(.int z14)])) (x := (1 : Int32)) (y := (0 : Int32)) (fun hc13 k15 => ?_) (fun hc13 k15 => ?_) ?_
  · skip
    refine OGo.go (U' := T11.setTop (mkF m 38 #[.val (.int x0), .val (.int x1), .val (.int (x0.toUInt32.toUInt16.toUInt32.toInt32)), .val (.int y1), .val (.int z7), .unset] [])) (fun _ k => XS.icmpNo X11.here hx rfl (hb hby at_35) rfl (teq hc13).2 k) ?_
    refine OGo.go (U' := T11.setTop (mkF m 39 #[.val (.int x0), .val (.int x1), .val (.int (x0.toUInt32.toUInt16.toUInt32.toInt32)), .val (.int y1), .val (.int z7), .unset] [(.int (1 : Int32))])) (fun _ k => XS.iconst X11.here hx rfl (hb hby at_38) k) ?_
    refine OGo.go (U' := T11.setTop (mkF m 43 #[.val (.int x0), .val (.int x1), .val (.int (x0.toUInt32.toUInt16.toUInt32.toInt32)), .val (.int y1), .val (.int z7), .unset] [(.int (1 : Int32))])) (fun _ k => XS.goto X11.here hx rfl (pc0 := 39) (pc' := 43) rfl (hb hby at_39) (by decide) (by decide) k) ?_
    exact k15
  · skip
    refine OGo.go (U' := T11.setTop (mkF m 42 #[.val (.int x0), .val (.int x1), .val (.int (x0.toUInt32.toUInt16.toUInt32.toInt32)), .val (.int y1), .val (.int z7), .unset] [])) (fun _ k => XS.icmpYes X11.here hx rfl (pc0 := 35) (pc' := 42) rfl (hb hby at_35) rfl (feq hc13).2 (by decide) (by decide) k) ?_
    refine OGo.go (U' := T11.setTop (mkF m 43 #[.val (.int x0), .val (.int x1), .val (.int (x0.toUInt32.toUInt16.toUInt32.toInt32)), .val (.int y1), .val (.int z7), .unset] [(.int (0 : Int32))])) (fun _ k => XS.iconst X11.here hx rfl (hb hby at_42) k) ?_
    exact k15
  intro z14 hz14
  refine OGo.go (U' := T11.setTop (mkF m 45 #[.val (.int x0), .val (.int x1), .val (.int (x0.toUInt32.toUInt16.toUInt32.toInt32)), .val (.int y1), .val (.int z7), .val (.int z14)] [])) (fun _ k => XS.istore X11.here hx rfl (hb hby at_43) rfl (l' := #[.val (.int x0), .val (.int x1), .val (.int (x0.toUInt32.toUInt16.toUInt32.toInt32)), .val (.int y1), .val (.int z7), .val (.int z14)]) rfl k) ?_
  refine OGo.go (U' := T11.setTop (mkF m 47 #[.val (.int x0), .val (.int x1), .val (.int (x0.toUInt32.toUInt16.toUInt32.toInt32)), .val (.int y1), .val (.int z7), .val (.int z14)] [(.int z7)])) (fun _ k => XS.iload X11.here hx rfl (hb hby at_45) rfl k) ?_
  refine OGo.ite1 (P := z7 = (0 : Int32)) (fun (z17 : Int32) => T11.setTop (mkF m 60 #[.val (.int x0), .val (.int x1), .val (.int (x0.toUInt32.toUInt16.toUInt32.toInt32)), .val (.int y1), .val (.int z7), .val (.int z14)] [(.int z17)])) (x := (0 : Int32)) (y := (if z14 = (0 : Int32) then (0 : Int32) else (1 : Int32))) (fun hc16 k18 => ?_) (fun hc16 k18 => ?_) ?_
  · skip
    refine OGo.go (U' := T11.setTop (mkF m 59 #[.val (.int x0), .val (.int x1), .val (.int (x0.toUInt32.toUInt16.toUInt32.toInt32)), .val (.int y1), .val (.int z7), .val (.int z14)] [])) (fun _ k => XS.ifYes X11.here hx rfl (pc0 := 47) (pc' := 59) rfl (hb hby at_47) rfl ((if0 _ _).trans (teq hc16).1) (by decide) (by decide) k) ?_
    refine OGo.go (U' := T11.setTop (mkF m 60 #[.val (.int x0), .val (.int x1), .val (.int (x0.toUInt32.toUInt16.toUInt32.toInt32)), .val (.int y1), .val (.int z7), .val (.int z14)] [(.int (0 : Int32))])) (fun _ k => XS.iconst X11.here hx rfl (hb hby at_59) k) ?_
    exact k18
  · skip
    refine OGo.go (U' := T11.setTop (mkF m 50 #[.val (.int x0), .val (.int x1), .val (.int (x0.toUInt32.toUInt16.toUInt32.toInt32)), .val (.int y1), .val (.int z7), .val (.int z14)] [])) (fun _ k => XS.ifNo X11.here hx rfl (hb hby at_47) rfl ((if0 _ _).trans (feq hc16).1) k) ?_
    refine OGo.go (U' := T11.setTop (mkF m 52 #[.val (.int x0), .val (.int x1), .val (.int (x0.toUInt32.toUInt16.toUInt32.toInt32)), .val (.int y1), .val (.int z7), .val (.int z14)] [(.int z14)])) (fun _ k => XS.iload X11.here hx rfl (hb hby at_50) rfl k) ?_
    refine OGo.ite1 (P := z14 = (0 : Int32)) (fun (z20 : Int32) => T11.setTop (mkF m 60 #[.val (.int x0), .val (.int x1), .val (.int (x0.toUInt32.toUInt16.toUInt32.toInt32)), .val (.int y1), .val (.int z7), .val (.int z14)] [(.int z20)])) (x := (0 : Int32)) (y := (1 : Int32)) (fun hc19 k21 => ?_) (fun hc19 k21 => ?_) (fun z20 hz20 => by subst hz20; exact k18)
    · skip
      refine OGo.go (U' := T11.setTop (mkF m 59 #[.val (.int x0), .val (.int x1), .val (.int (x0.toUInt32.toUInt16.toUInt32.toInt32)), .val (.int y1), .val (.int z7), .val (.int z14)] [])) (fun _ k => XS.ifYes X11.here hx rfl (pc0 := 52) (pc' := 59) rfl (hb hby at_52) rfl ((if0 _ _).trans (teq hc19).1) (by decide) (by decide) k) ?_
      refine OGo.go (U' := T11.setTop (mkF m 60 #[.val (.int x0), .val (.int x1), .val (.int (x0.toUInt32.toUInt16.toUInt32.toInt32)), .val (.int y1), .val (.int z7), .val (.int z14)] [(.int (0 : Int32))])) (fun _ k => XS.iconst X11.here hx rfl (hb hby at_59) k) ?_
      exact k21
    · skip
      refine OGo.go (U' := T11.setTop (mkF m 55 #[.val (.int x0), .val (.int x1), .val (.int (x0.toUInt32.toUInt16.toUInt32.toInt32)), .val (.int y1), .val (.int z7), .val (.int z14)] [])) (fun _ k => XS.ifNo X11.here hx rfl (hb hby at_52) rfl ((if0 _ _).trans (feq hc19).1) k) ?_
      refine OGo.go (U' := T11.setTop (mkF m 56 #[.val (.int x0), .val (.int x1), .val (.int (x0.toUInt32.toUInt16.toUInt32.toInt32)), .val (.int y1), .val (.int z7), .val (.int z14)] [(.int (1 : Int32))])) (fun _ k => XS.iconst X11.here hx rfl (hb hby at_55) k) ?_
      refine OGo.go (U' := T11.setTop (mkF m 60 #[.val (.int x0), .val (.int x1), .val (.int (x0.toUInt32.toUInt16.toUInt32.toInt32)), .val (.int y1), .val (.int z7), .val (.int z14)] [(.int (1 : Int32))])) (fun _ k => XS.goto X11.here hx rfl (pc0 := 56) (pc' := 60) rfl (hb hby at_56) (by decide) (by decide) k) ?_
      exact k21
  intro z17 hz17
  refine OGo.retN X11 hx (t := .boolean) hret hlk (by simp) (hb hby at_60) ?_ (by decide) (by decide)
  exact ⟨own_ret_0 hy1 hy3 hy5 hz7 hy10 hy12 hz14 hz17, Fr.nil _⟩
set_option maxRecDepth 65536 in
set_option maxHeartbeats 40000000 in
theorem comes_1 {Post : Tables → Env → Array Value → State → Outcome → State → Prop} (hpost : ∀ tb e args s v u, (limb_1_1.after args s (.returned v) u = true ∧ limb_1_2.after args s (.returned v) u = true ∧ True) → FrameEnd s (.returned v) u (Jvm.fieldLocs frame_1_writes args s ++ Jvm.arrayLocs frame_1_arrays args s ++ Jvm.staticLocs frame_1_statics s) 0 0 → Post tb e args s (.returned v) u) :
    ArmFor flags0 classFile x code maxLocals ret World_1 tables_1 room_1 Calls_1 rest_1 Pre_1 Post := by
  intro l hfl _ _ p e ha hc hk s m args below hf hA hF happ hP
  obtain ⟨hcalls, hrest, hpre⟩ := hP
  obtain ⟨-, -, -, hnamed, -, -, -, hat⟩ := (Spec.applies_iff hf).mp happ
  obtain ⟨hg, hn⟩ := and_e (Cond.before_iff.mp (show (Jvm.Cond.and given_1 narrow_1).before args s = true from hpre))
  obtain ⟨g0, g1⟩ := and_e hg
  obtain ⟨w0, w1, rfl⟩ : ∃ w0 w1 : Value, args = #[w0, w1] := by
    have hs : args.size = 2 := by simpa [Cond.value, given_1] using g0
    obtain ⟨L⟩ := args
    match L, hs with
    | [w0, w1], _ => exact ⟨w0, w1, rfl⟩
  have hw := fun d (hd : d ∈ tables_1) => atoms_spec (ws := Jvm.Cond.code x code maxLocals ret :: tables_1) hat d (List.mem_cons_of_mem _ hd)
  have hfit : Fit s := fun {y c} hc i hi => by
    obtain ⟨ha, rfl⟩ := Array.getElem?_eq_some_iff.mp hc
    have q := List.all_eq_true.mp ((Array.all_eq_true_iff_forall_mem.mp hF) _ (Array.getElem_mem ha)) i (List.mem_range.mpr hi)
    simpa [Array.getElem?_eq_getElem hi] using q
  obtain ⟨v0, g2⟩ := and_e g1
  obtain ⟨i0, q0⟩ := is_v v0
  obtain rfl : w0 = (.int i0) := Option.some.inj q0
  obtain ⟨i1, q1⟩ := is_v g2
  obtain rfl : w1 = (.int i1) := Option.some.inj q1
  obtain ⟨n, o, h1, h2, h3, _, L, rfl, ⟨rfl, N⟩, hq⟩ := rm_law l s _ hw i0 i1 s.heap.size s.heap p e ha hc hk s m _ below hf ((Spec.applies_iff_loose hf).mp happ).1 ⟨rfl, State.Warmed39.refl s, rfl⟩ trivial
  refine ⟨n, _, h1, h2, h3, hpost _ _ _ _ _ _ ⟨Cond.after_iff.mpr rfl, Cond.after_iff.mpr (eq_i res_at (Term.int_eval (1)) rfl), trivial⟩ ⟨hq.1, hq.2.1, (hq.2.2.sift fun y hy => Or.inr (N y hy)).mono (by decide) (by decide)⟩⟩
theorem main_1_1 : Claimed_1_1 := comes_1 fun _ _ _ _ _ _ h hF => ⟨h.1, hF⟩
theorem main_1_2 : Claimed_1_2 := comes_1 fun _ _ _ _ _ _ h hF => ⟨h.2.1, hF⟩
end Jvm.Pilot.@@N@@
namespace Jvm.Pilot.@@N@@
open Jvm Jvm.ClassFile Sem Op Lib Jvm.Free Jvm.Stand Jvm.Pilot.@@N@@.Jvm.D
/-! MADE BY PROGRAM (witnessworld.py) out of the Statement's table words and the real class files: 9 classes; the members and pool entries that the words name. The judged class is class 1, her method 2. -/
namespace start1
open Jvm.ClassFile
def u (s : String) : CpInfo := .utf8 (stringToUtf16 s)
/-- a pool by its gaps: so many unusable entries, then the entry; so many at the end -/
def gap : Nat → List CpInfo → List CpInfo
  | 0, r => r
  | n + 1, r => .unusable :: gap n r
def poolList (es : List (Nat × CpInfo)) (last : Nat) : List CpInfo := es.foldr (fun e r => gap e.1 (e.2 :: r)) (gap last [])
def pool (es : List (Nat × CpInfo)) (last : Nat) : Array CpInfo := ⟨poolList es last⟩
def fileOf (pool : Array CpInfo) (this : Nat) (attrs : Array Attribute := #[]) (ms : Array MethodInfo := #[]) (fl : Nat := 33) (sup : Nat := 0) (ifs : Array Nat := #[]) (fds : Array FieldInfo := #[]) : ClassFile where
  minorVersion := 0
  majorVersion := 65
  constantPool := pool
  accessFlags := fl
  thisClass := this
  superClass := sup
  interfaces := ifs
  fields := fds
  methods := ms
  attributes := attrs
def plain (name : String) (sup : Option ClassId) : Class where
  name := name
  kind := .ordinary
  loader := none
  accessFlags := 33
  super := sup
  interfaces := #[]
  cf := none
  fields := #[]
  methods := #[]
  instanceTypes := #[]
  staticTypes := #[]
  resolved := #[]
  callSites := []
  init := .initialized
  statics := none
  mirror := none

def pool0 : Array CpInfo := pool [(5, u "<init>"), (0, u "()V"), (1, .class_ 10), (1, u "java/lang/Object")] 113

def k0m0 : Method := { name := "<init>", desc := "()V", sig := { parameters := [], returnType := none }, accessFlags := 1, code := none }
/-- java/lang/Object -/
def k0 : Class := { plain "java/lang/Object" none with
  accessFlags := 33
  interfaces := #[]
  cf := some (fileOf pool0 8 #[] #[{ accessFlags := 1, nameIndex := 5, descriptorIndex := 6, attributes := #[] }] 33 0 #[] #[])
  fields := #[]
  methods := #[k0m0]
  instanceTypes := #[]
  staticTypes := #[]
  resolved := Array.replicate 124 none
  statics := none }

def pool1 : Array CpInfo := pool [(2, .class_ 4), (1, u "java/lang/Object"), (0, u "<init>"), (0, u "()V"), (0, .methodref 8 9), (0, .class_ 10), (0, .nameAndType 11 12), (0, u "com/example/okstream/okstream/tap/YamlText"), (0, u "isWordCharacter"), (0, u "(C)Z"), (0, .methodref 14 15), (0, .class_ 16), (0, .nameAndType 17 12), (0, u "com/example/okstream/okstream/tap/YamlTextIsWordCharacterPinLaw"), (0, u "expected"), (3, u "law"), (0, u "(II)Z")] 2

def k1m0 : Method := { name := "<init>", desc := "()V", sig := { parameters := [], returnType := none }, accessFlags := 2, code := none }
def k1c1 : Code := { maxStack := 2, maxLocals := 5, code := method_2_code, exceptionTable := #[], attributes := #[] }
def k1m1 : Method := { name := "expected", desc := "(C)Z", sig := { parameters := [.char], returnType := some .boolean }, accessFlags := 10, code := some k1c1 }
def k1c2 : Code := { maxStack := 2, maxLocals := 6, code := code, exceptionTable := #[], attributes := #[] }
def k1m2 : Method := { name := "law", desc := "(II)Z", sig := { parameters := [.int, .int], returnType := some .boolean }, accessFlags := 9, code := some k1c2 }
/-- com/example/okstream/okstream/tap/YamlTextIsWordCharacterPinLaw -/
def k1 : Class := { plain "com/example/okstream/okstream/tap/YamlTextIsWordCharacterPinLaw" (some 0) with
  accessFlags := 49
  interfaces := #[]
  cf := some (fileOf pool1 14 #[] #[{ accessFlags := 2, nameIndex := 5, descriptorIndex := 6, attributes := #[] }, { accessFlags := 10, nameIndex := 17, descriptorIndex := 12, attributes := #[] }, { accessFlags := 9, nameIndex := 21, descriptorIndex := 22, attributes := #[] }] 49 2 #[] #[])
  fields := #[]
  methods := #[k1m0, k1m1, k1m2]
  instanceTypes := #[]
  staticTypes := #[]
  resolved := Array.replicate 25 none
  statics := none }

def pool2 : Array CpInfo := pool [(2, .class_ 4), (1, u "java/lang/Object"), (0, u "<init>"), (0, u "()V"), (11, u "(C)Z"), (7, .class_ 27), (0, u "com/example/okstream/okstream/tap/YamlText"), (9, .methodref 26 38), (0, .nameAndType 39 18), (0, u "isLetter"), (3, u "isWordCharacter"), (2, u "TYPED_WORDS"), (0, u "Ljava/util/Set;"), (40, u "LONGEST_TYPED_WORD"), (0, u "I"), (2, u "DELETE"), (0, u "C"), (1, u "LAST_C1_CONTROL"), (1, u "LINE_SEPARATOR"), (1, u "PARAGRAPH_SEPARATOR"), (1, u "BYTE_ORDER_MARK"), (0, u "NONCHARACTERS")] 10

def k2m0 : Method := { name := "<init>", desc := "()V", sig := { parameters := [], returnType := none }, accessFlags := 2, code := none }
def k2c1 : Code := { maxStack := 2, maxLocals := 1, code := prog_23_method_4_code, exceptionTable := #[], attributes := #[] }
def k2m1 : Method := { name := "isWordCharacter", desc := "(C)Z", sig := { parameters := [.char], returnType := some .boolean }, accessFlags := 9, code := some k2c1 }
def k2c2 : Code := { maxStack := 2, maxLocals := 1, code := prog_23_method_5_code, exceptionTable := #[], attributes := #[] }
def k2m2 : Method := { name := "isLetter", desc := "(C)Z", sig := { parameters := [.char], returnType := some .boolean }, accessFlags := 10, code := some k2c2 }
/-- com/example/okstream/okstream/tap/YamlText -/
def k2 : Class := { plain "com/example/okstream/okstream/tap/YamlText" (some 0) with
  accessFlags := 33
  interfaces := #[]
  cf := some (fileOf pool2 26 #[] #[{ accessFlags := 2, nameIndex := 5, descriptorIndex := 6, attributes := #[] }, { accessFlags := 9, nameIndex := 43, descriptorIndex := 18, attributes := #[] }, { accessFlags := 10, nameIndex := 39, descriptorIndex := 18, attributes := #[] }] 33 2 #[] #[{ accessFlags := 26, nameIndex := 46, descriptorIndex := 47, attributes := #[] }, { accessFlags := 26, nameIndex := 88, descriptorIndex := 89, attributes := #[] }, { accessFlags := 26, nameIndex := 92, descriptorIndex := 93, attributes := #[] }, { accessFlags := 26, nameIndex := 95, descriptorIndex := 93, attributes := #[] }, { accessFlags := 26, nameIndex := 97, descriptorIndex := 93, attributes := #[] }, { accessFlags := 26, nameIndex := 99, descriptorIndex := 93, attributes := #[] }, { accessFlags := 26, nameIndex := 101, descriptorIndex := 93, attributes := #[] }, { accessFlags := 26, nameIndex := 102, descriptorIndex := 93, attributes := #[] }])
  fields := #[{ name := "TYPED_WORDS", type := (.object "java/util/Set"), accessFlags := 26, slot := 0, constantValue := 0 }, { name := "LONGEST_TYPED_WORD", type := .int, accessFlags := 26, slot := 1, constantValue := 0 }, { name := "DELETE", type := .char, accessFlags := 26, slot := 2, constantValue := 0 }, { name := "LAST_C1_CONTROL", type := .char, accessFlags := 26, slot := 3, constantValue := 0 }, { name := "LINE_SEPARATOR", type := .char, accessFlags := 26, slot := 4, constantValue := 0 }, { name := "PARAGRAPH_SEPARATOR", type := .char, accessFlags := 26, slot := 5, constantValue := 0 }, { name := "BYTE_ORDER_MARK", type := .char, accessFlags := 26, slot := 6, constantValue := 0 }, { name := "NONCHARACTERS", type := .char, accessFlags := 26, slot := 7, constantValue := 0 }]
  methods := #[k2m0, k2m1, k2m2]
  instanceTypes := #[]
  staticTypes := #[(.object "java/util/Set"), .int, .char, .char, .char, .char, .char, .char]
  resolved := Array.replicate 113 none
  statics := none }

def pool3 : Array CpInfo := pool [(1, u "java/lang/Cloneable"), (0, .class_ 1), (0, u "java/lang/Object"), (0, .class_ 3)] 3

/-- java/lang/Cloneable -/
def k3 : Class := { plain "java/lang/Cloneable" (some 0) with
  accessFlags := 1537
  interfaces := #[]
  cf := some (fileOf pool3 2 #[] #[] 1537 4 #[] #[])
  fields := #[]
  methods := #[]
  instanceTypes := #[]
  staticTypes := #[]
  resolved := Array.replicate 8 none
  statics := none }

def pool4 : Array CpInfo := pool [(1, u "java/io/Serializable"), (0, .class_ 1), (0, u "java/lang/Object"), (0, .class_ 3)] 3

/-- java/io/Serializable -/
def k4 : Class := { plain "java/io/Serializable" (some 0) with
  accessFlags := 1537
  interfaces := #[]
  cf := some (fileOf pool4 2 #[] #[] 1537 4 #[] #[])
  fields := #[]
  methods := #[]
  instanceTypes := #[]
  staticTypes := #[]
  resolved := Array.replicate 8 none
  statics := none }

/-- the primitive byte -/
def k5 : Class := { plain "byte" none with kind := .primitive 'B', accessFlags := 0x411 }
/-- [B -/
def k6 : Class := { plain "[B" (some 0) with kind := .array 5 .byte, interfaces := #[3, 4], accessFlags := 1041 }

/-- the primitive int -/
def k7 : Class := { plain "int" none with kind := .primitive 'I', accessFlags := 0x411 }
/-- [I -/
def k8 : Class := { plain "[I" (some 0) with kind := .array 7 .int, interfaces := #[3, 4], accessFlags := 1041 }

def heap : Heap := #[]
def classes : Array Class := #[k0, k1, k2, k3, k4, k5, k6, k7, k8]
def interned : List (Array UInt16 × Addr) := []
def slotsUsed : Nat := 0
def theMethod : MethodId := ⟨1, 2⟩
def args0 : Array Value := #[.int 5, .int 7]
def aboutOver (below : List Frame) : State where
  vm := { classes := classes, interned := interned.toArray }
  heap := heap
  slotsUsed := slotsUsed
  threads := #[{ frames := .invoking theMethod args0 :: below }]
def below0 : List Frame := [.native { method := ⟨0, 0⟩, args := #[] }]
def about1 : State := aboutOver below0
def p0 : Program := .bare "" "" ""
def e0 : Env := launch0.env 0 0 0
theorem w_frames : about1.frames = Frame.invoking theMethod args0 :: below0 := rfl
set_option maxRecDepth 65536 in
theorem w_args : argsFit about1.vm theMethod args0 = true := by decide +kernel
set_option maxRecDepth 65536 in
theorem w_heap : heapFits about1 = true := by decide +kernel
set_option maxRecDepth 65536 in
theorem w_runnable : about1.curStatus? = some .runnable := by decide +kernel
set_option maxRecDepth 65536 in
theorem w_alone : about1.alone = true := by decide +kernel
set_option maxRecDepth 65536 in
theorem w_named : about1.methodNamed? x = some theMethod := by decide +kernel
set_option maxRecDepth 65536 in
theorem w_hears : about1.hears theMethod below0 = true := by decide +kernel
set_option maxRecDepth 65536 in
theorem w_ripe : about1.ripe theMethod args0 below0 = true := by decide +kernel
theorem w_running : about1.status = .running := rfl
set_option maxRecDepth 65536 in
theorem w_room : about1.hasRoom e0.platform room_1 = true :=
  launch0.hasRoom_least _ room_1 (by decide +kernel) (by decide +kernel) (by decide +kernel) (by decide +kernel) (by decide +kernel) (by decide +kernel)
theorem allAtoms_all (ts : List Jvm.Cond) (a : Array Jvm.Value) (st : Jvm.State) : (allAtoms ts).before a st = ts.all (fun c => c.before a st) := by
  induction ts with
  | nil => rfl
  | cons c t ih =>
    show (Jvm.Cond.and c (allAtoms t)).before a st = _
    rw [Jvm.Cond.before_and, ih, List.all_cons]
def words1 : List Jvm.Cond := Jvm.Cond.code x code maxLocals ret :: tables_1
/-- a 'code' word, met by the world's own term for the bytes: nothing is compared byte by byte -/
theorem code_word {y : MethodName} {bytes : ByteArray} {mx : Nat} {rt : Option FieldType} {a : Array Value} {s : State} {m : MethodId} {meth : Method} {c : Code} (h1 : s.methodNamed? y = some m) (h2 : s.vm.method? m = some meth) (h3 : meth.code = some c) (h4 : c.code = bytes)
    (h5 : (c.maxLocals == mx && c.exceptionTable.isEmpty && decide (c.maxStack ≤ mostOperands) && decide (meth.sig.returnType = rt) && !meth.locks && decide (parseMethodDescriptor y.desc = some meth.sig)) = true) : (Jvm.Cond.code y bytes mx rt).before a s = true := by
  simp only [Bool.and_eq_true, beq_iff_eq, Bool.not_eq_true', decide_eq_true_eq] at h5
  obtain ⟨⟨⟨⟨⟨g1, g2⟩, g3⟩, g4⟩, g5⟩, g6⟩ := h5
  simp [Cond.before, Cond.holds, Cond.value, h1, h2, h3, h4, g1, g2, g3, g4, g5, g6]
def isCode : Jvm.Cond → Bool
  | .code _ _ _ _ => true
  | _ => false
theorem all_split {L : List Jvm.Cond} {P : Jvm.Cond → Bool} (h1 : L.all (fun c => isCode c || P c) = true) (h2 : ∀ c ∈ L.filter isCode, P c = true) : L.all P = true := by
  refine List.all_eq_true.mpr fun c hc => ?_
  have h := List.all_eq_true.mp h1 c hc
  rcases Bool.eq_false_or_eq_true (isCode c) with hi | hi
  · exact h2 c (List.mem_filter.mpr ⟨hc, hi⟩)
  · simpa [hi] using h
set_option maxRecDepth 65536 in
theorem w_c0 : (Jvm.Cond.code x code maxLocals ret).before args0 about1 = true := code_word (m := ⟨1, 2⟩) (meth := k1m2) (c := k1c2) (by decide +kernel) rfl rfl rfl (by decide +kernel)
set_option maxRecDepth 65536 in
theorem w_c1 : (Jvm.Cond.code ({ cls := "com/example/okstream/okstream/tap/YamlText", name := "isWordCharacter", desc := "(C)Z" } : Jvm.MethodName) prog_23_method_4_code (1 : Nat) (Option.some Jvm.ClassFile.FieldType.boolean)).before args0 about1 = true := code_word (m := ⟨2, 1⟩) (meth := k2m1) (c := k2c1) (by decide +kernel) rfl rfl rfl (by decide +kernel)
set_option maxRecDepth 65536 in
theorem w_c2 : (Jvm.Cond.code ({ cls := "com/example/okstream/okstream/tap/YamlText", name := "isLetter", desc := "(C)Z" } : Jvm.MethodName) prog_23_method_5_code (1 : Nat) (Option.some Jvm.ClassFile.FieldType.boolean)).before args0 about1 = true := code_word (m := ⟨2, 2⟩) (meth := k2m2) (c := k2c2) (by decide +kernel) rfl rfl rfl (by decide +kernel)
set_option maxRecDepth 65536 in
theorem w_c3 : (Jvm.Cond.code ({ cls := "com/example/okstream/okstream/tap/YamlTextIsWordCharacterPinLaw", name := "expected", desc := "(C)Z" } : Jvm.MethodName) method_2_code (5 : Nat) (Option.some Jvm.ClassFile.FieldType.boolean)).before args0 about1 = true := code_word (m := ⟨1, 1⟩) (meth := k1m1) (c := k1c1) (by decide +kernel) rfl rfl rfl (by decide +kernel)
def codes1 : List Jvm.Cond := [Jvm.Cond.code x code maxLocals ret, Jvm.Cond.code ({ cls := "com/example/okstream/okstream/tap/YamlText", name := "isWordCharacter", desc := "(C)Z" } : Jvm.MethodName) prog_23_method_4_code (1 : Nat) (Option.some Jvm.ClassFile.FieldType.boolean), Jvm.Cond.code ({ cls := "com/example/okstream/okstream/tap/YamlText", name := "isLetter", desc := "(C)Z" } : Jvm.MethodName) prog_23_method_5_code (1 : Nat) (Option.some Jvm.ClassFile.FieldType.boolean), Jvm.Cond.code ({ cls := "com/example/okstream/okstream/tap/YamlTextIsWordCharacterPinLaw", name := "expected", desc := "(C)Z" } : Jvm.MethodName) method_2_code (5 : Nat) (Option.some Jvm.ClassFile.FieldType.boolean)]
set_option maxRecDepth 65536 in
theorem codes_eq : words1.filter isCode = codes1 := rfl
theorem w_codes : ∀ c ∈ words1.filter isCode, c.before args0 about1 = true := by
  rw [codes_eq]
  intro c hc
  simp only [codes1, List.mem_cons, List.not_mem_nil, or_false] at hc
  rcases hc with rfl | rfl | rfl | rfl
  · exact w_c0
  · exact w_c1
  · exact w_c2
  · exact w_c3
set_option maxRecDepth 65536 in
theorem w_t1 : words1.all (fun c => isCode c || c.before args0 about1) = true := by decide +kernel
theorem w_tables : (allAtoms (Jvm.Cond.code x code maxLocals ret :: tables_1)).before args0 about1 = true := by
  rw [allAtoms_all]
  show words1.all (fun c => c.before args0 about1) = true
  refine all_split ?_ w_codes
  rw [w_t1]
set_option maxRecDepth 65536 in
theorem w_case : (Jvm.Cond.and given_1 narrow_1).before args0 about1 = true := by decide +kernel
theorem w_applies : (headSpec (Jvm.Cond.code x code maxLocals ret :: tables_1) room_1).applies x e0.platform about1 = true :=
  (Spec.applies_iff w_frames).mpr ⟨w_running, w_runnable, w_alone, w_named, w_hears, w_ripe, w_room, w_tables⟩
theorem atStart : AtStart classFile x code maxLocals ret World_1 tables_1 room_1 Calls_1 rest_1 Pre_1 launch0 p0 e0 about1 theMethod args0 below0 :=
  ⟨lists_1, trivial, launch0.admits_env _ _ _, launch0.least_env, fairChoices_fair.cas, fairChoices_fair.clock, w_frames, w_args, w_heap, w_applies, trivial, trivial, w_case⟩
end start1
theorem witness_1 : WitnessClaimed_1 := ⟨start1.p0, start1.e0, start1.about1, start1.theMethod, start1.args0, start1.below0, start1.atStart⟩
end Jvm.Pilot.@@N@@
