import JvmDerived
import JvmDerived.Pilot.@@N@@Statement
import JvmDerived.Pilot.@@N@@Code
set_option linter.unusedVariables false
set_option linter.unusedSimpArgs false
namespace Jvm.RoadKit
open Sem ClassFile Op Lib Jvm.Stand Jvm.Free Jvm.LawKit
section OwnGo
variable {p : Program} {l : Launch} {e : Env} {R : Room} {s : State} {m : MethodId} {args : Array Value} {below : List Frame} {meth : Method} {c : Code} {T : State} {locs : List Loc} {cells slots : Nat} {Z : State} {a0 : Array Value} {h : Heap} {kc ks : Nat} {Q : Option Value → Heap → List Loc → Prop} {G : Outcome → State → Prop} {U U' : State}
/-- from U the walk ends, and G says how -/
def OGo (p : Program) (e : Env) (below : List Frame) (G : Outcome → State → Prop) (U : State) : Prop :=
  ∃ s₂ o, Steps p.tables e below U s₂ ∧ s₂.status = .running ∧ Ended s₂ below o ∧ G o s₂
/-- it returned, Q says what, and the frame is kept -/
def OEnd (s : State) (kc ks : Nat) (Q : Option Value → Heap → List Loc → Prop) (o : Outcome) (t : State) : Prop := ∃ v L, o = .returned v ∧ Q v t.heap L ∧ FrameEnd s o t L kc ks
/-- the same where a String constant may have come to be interned -/
def OEndW (s : State) (kc ks : Nat) (Q : Option Value → Heap → List Loc → Prop) (o : Outcome) (t : State) : Prop := ∃ v L, o = .returned v ∧ Q v t.heap L ∧ ReturnedEndW s o t L kc ks
theorem OGo.go (f : ∀ t, Steps p.tables e below U' t → Steps p.tables e below U t) (k : OGo p e below G U') : OGo p e below G U := by
  obtain ⟨s₂, o, h1, h2⟩ := k
  exact ⟨s₂, o, f _ h1, h2⟩
theorem OGo.trans (f : Steps p.tables e below U U') (k : OGo p e below G U') : OGo p e below G U := OGo.go (fun _ r => f.trans r) k
/-- two roads that meet again, in a state that differs in one value -/
theorem OGo.ite1 {α : Type} {P : Prop} [Decidable P] (f : α → State) {x y : α} (h1 : P → OGo p e below G (f x) → OGo p e below G U) (h2 : ¬ P → OGo p e below G (f y) → OGo p e below G U) (k : ∀ z, z = (if P then x else y) → OGo p e below G (f z)) : OGo p e below G U := by
  by_cases q : P
  · exact h1 q (k _ (if_pos q).symm)
  · exact h2 q (k _ (if_neg q).symm)
theorem OGo.ite2 {α β : Type} {P : Prop} [Decidable P] (f : α → β → State) {x y : α} {x' y' : β} (h1 : P → OGo p e below G (f x x') → OGo p e below G U) (h2 : ¬ P → OGo p e below G (f y y') → OGo p e below G U) (k : ∀ z z', z = (if P then x else y) → z' = (if P then x' else y') → OGo p e below G (f z z')) : OGo p e below G U := by
  by_cases q : P
  · exact h1 q (k _ _ (if_pos q).symm (if_pos q).symm)
  · exact h2 q (k _ _ (if_neg q).symm (if_neg q).symm)
theorem OGo.cut {H : Prop} (V : State) (k1 : (H → OGo p e below G V) → OGo p e below G U) (k2 : H → OGo p e below G V) : OGo p e below G U := k1 k2
theorem OGo.cut2 {α : Type} {H : α → Prop} (V : α → State) (k1 : (∀ a, H a → OGo p e below G (V a)) → OGo p e below G U) (k2 : ∀ a, H a → OGo p e below G (V a)) : OGo p e below G U := k1 k2
theorem OGo.nm {α : Type} (f : α → State) {x : α} (k : ∀ z, z = x → OGo p e below G (f z)) : OGo p e below G (f x) := k x rfl
/-- the end of the walk -/
theorem OGo.ret (X : Stand p l e R s m args below meth c T locs cells slots) {v : Option Value} {g : JFrame} (hv : meth.sig.returnType = none → v = none) (hlk : meth.locks = false)
    (hs : ∀ fs, (∀ (f : JFrame) (acts : List Action), f.method = m → f.locked = none → f.entered = [] → (doReturn e (T.setTop f) acts v).1 = T.setFrames fs) → Steps p.tables e below (T.setTop g) (T.setFrames fs))
    (hQ : Q v T.heap locs) (hc : cells ≤ kc) (hl : slots ≤ ks) : OGo p e below (OEnd s kc ks Q) (T.setTop g) := by
  obtain ⟨fs, hr, hrun, hended, hW, hsame⟩ := X.leave (v := v) hv hlk
  exact ⟨_, _, hs fs hr, hrun, hended, v, locs, rfl, hQ, ⟨_, rfl⟩, hW, hsame.mono hc hl⟩
/-- return of a boolean, byte, char, short -/
theorem OGo.retN (X : Stand p l e R s m args below meth c T locs cells slots) (hx : p.tables.exec = Jvm.exec) {pc : Nat} {Ls : Array Slot} {z : Int32} {t : FieldType} {rest : List Value} (hret : meth.sig.returnType = some t) (hlk : meth.locks = false) (ht : t = .boolean ∨ t = .byte ∨ t = .char ∨ t = .short)
    (hd : decode c.code pc = .ok (.ireturn, 1)) (hQ : Q (some (.int (nar t z))) T.heap locs) (hc : cells ≤ kc) (hl : slots ≤ ks) : OGo p e below (OEnd s kc ks Q) (T.setTop (mkF m pc Ls (.int z :: rest))) :=
  OGo.ret X (fun q => by rw [hret] at q; cases q) hlk (fun fs hr => Jvm.RoadKit.retN X hx hret ht hd hr) hQ hc hl
/-- return of an int, a long, a double, a reference -/
theorem OGo.retV (X : Stand p l e R s m args below meth c T locs cells slots) (hx : p.tables.exec = Jvm.exec) {pc : Nat} {Ls : Array Slot} {w : Value} {t : FieldType} {i : Instr} {rest : List Value} (hret : meth.sig.returnType = some t) (hlk : meth.locks = false) (hn : narrow t w = w)
    (hi : (i = .ireturn ∧ (t = .int ∨ t = .boolean ∨ t = .byte ∨ t = .char ∨ t = .short) ∧ ∃ z, w = .int z) ∨ (i = .lreturn ∧ t = .long ∧ ∃ z, w = .long z) ∨ (i = .dreturn ∧ t = .double ∧ ∃ z, w = .double z) ∨ (i = .freturn ∧ t = .float ∧ ∃ z, w = .float z) ∨ (i = .areturn ∧ t.isReference = true ∧ w.isRef = true))
    (hd : decode c.code pc = .ok (i, 1)) (hQ : Q (some w) T.heap locs) (hc : cells ≤ kc) (hl : slots ≤ ks) : OGo p e below (OEnd s kc ks Q) (T.setTop (mkF m pc Ls (w :: rest))) :=
  OGo.ret X (fun q => by rw [hret] at q; cases q) hlk (fun fs hr => Jvm.RoadKit.retOut X hx hret hn hi hd hr) hQ hc hl
theorem OGo.retI (X : Stand p l e R s m args below meth c T locs cells slots) (hx : p.tables.exec = Jvm.exec) {pc : Nat} {Ls : Array Slot} {z : Int32} {rest : List Value} (hret : meth.sig.returnType = some .int) (hlk : meth.locks = false)
    (hd : decode c.code pc = .ok (.ireturn, 1)) (hQ : Q (some (.int z)) T.heap locs) (hc : cells ≤ kc) (hl : slots ≤ ks) : OGo p e below (OEnd s kc ks Q) (T.setTop (mkF m pc Ls (.int z :: rest))) :=
  OGo.retV X hx hret hlk rfl (Or.inl ⟨rfl, Or.inl rfl, z, rfl⟩) hd hQ hc hl
theorem OGo.retJ (X : Stand p l e R s m args below meth c T locs cells slots) (hx : p.tables.exec = Jvm.exec) {pc : Nat} {Ls : Array Slot} {z : Int64} {rest : List Value} (hret : meth.sig.returnType = some .long) (hlk : meth.locks = false)
    (hd : decode c.code pc = .ok (.lreturn, 1)) (hQ : Q (some (.long z)) T.heap locs) (hc : cells ≤ kc) (hl : slots ≤ ks) : OGo p e below (OEnd s kc ks Q) (T.setTop (mkF m pc Ls (.long z :: rest))) :=
  OGo.retV X hx hret hlk rfl (Or.inr (Or.inl ⟨rfl, rfl, z, rfl⟩)) hd hQ hc hl
theorem OGo.retD (X : Stand p l e R s m args below meth c T locs cells slots) (hx : p.tables.exec = Jvm.exec) {pc : Nat} {Ls : Array Slot} {z : UInt64} {rest : List Value} (hret : meth.sig.returnType = some .double) (hlk : meth.locks = false)
    (hd : decode c.code pc = .ok (.dreturn, 1)) (hQ : Q (some (.double z)) T.heap locs) (hc : cells ≤ kc) (hl : slots ≤ ks) : OGo p e below (OEnd s kc ks Q) (T.setTop (mkF m pc Ls (.double z :: rest))) :=
  OGo.retV X hx hret hlk rfl (Or.inr (Or.inr (Or.inl ⟨rfl, rfl, z, rfl⟩))) hd hQ hc hl
theorem OGo.retA (X : Stand p l e R s m args below meth c T locs cells slots) (hx : p.tables.exec = Jvm.exec) {pc : Nat} {Ls : Array Slot} {w : Value} {t : FieldType} {rest : List Value} (hret : meth.sig.returnType = some t) (hlk : meth.locks = false) (ht : t.isReference = true) (hw : w.isRef = true)
    (hd : decode c.code pc = .ok (.areturn, 1)) (hQ : Q (some w) T.heap locs) (hc : cells ≤ kc) (hl : slots ≤ ks) : OGo p e below (OEnd s kc ks Q) (T.setTop (mkF m pc Ls (w :: rest))) :=
  OGo.retV X hx hret hlk (by cases t <;> first | (cases ht; done) | (cases w <;> first | rfl | (cases hw; done))) (Or.inr (Or.inr (Or.inr (Or.inr ⟨rfl, ht, hw⟩)))) hd hQ hc hl
theorem OGo.ret0 (X : Stand p l e R s m args below meth c T locs cells slots) (hx : p.tables.exec = Jvm.exec) {pc : Nat} {Ls : Array Slot} (hret : meth.sig.returnType = none) (hlk : meth.locks = false)
    (hd : decode c.code pc = .ok (.return_, 1)) (hQ : Q none T.heap locs) (hc : cells ≤ kc) (hl : slots ≤ ks) : OGo p e below (OEnd s kc ks Q) (T.setTop (mkF m pc Ls [])) :=
  OGo.ret X (fun _ => rfl) hlk (fun fs hr => X.returnOut hx hret hd hr) hQ hc hl
/-- the end of the walk where a String constant may have come to be interned -/
theorem OGo.retW {vm₁ : Vm} {n : Nat} (X : Stand p l e R (s.setVm vm₁) m args below meth c T locs cells slots) (hS : s.Since vm₁ n) (hn : n ≤ T.heap.size) {v : Option Value} {g : JFrame} (hv : meth.sig.returnType = none → v = none) (hlk : meth.locks = false)
    (hs : ∀ fs, (∀ (f : JFrame) (acts : List Action), f.method = m → f.locked = none → f.entered = [] → (doReturn e (T.setTop f) acts v).1 = T.setFrames fs) → Steps p.tables e below (T.setTop g) (T.setFrames fs))
    (hQ : Q v T.heap locs) (hc : cells ≤ kc) (hl : slots ≤ ks) : OGo p e below (OEndW s kc ks Q) (T.setTop g) := by
  obtain ⟨fs, hr, hrun, hended, h1, h2, h3, h4⟩ := X.leaveW hS hn (v := v) hv hlk
  exact ⟨_, _, hs fs hr, hrun, hended, v, locs, rfl, hQ, h1, h2, h3, h4.mono hc hl⟩
theorem OGo.retNW {vm₁ : Vm} {n : Nat} (X : Stand p l e R (s.setVm vm₁) m args below meth c T locs cells slots) (hS : s.Since vm₁ n) (hn : n ≤ T.heap.size) (hx : p.tables.exec = Jvm.exec) {pc : Nat} {Ls : Array Slot} {z : Int32} {t : FieldType} {rest : List Value} (hret : meth.sig.returnType = some t) (hlk : meth.locks = false) (ht : t = .boolean ∨ t = .byte ∨ t = .char ∨ t = .short)
    (hd : decode c.code pc = .ok (.ireturn, 1)) (hQ : Q (some (.int (nar t z))) T.heap locs) (hc : cells ≤ kc) (hl : slots ≤ ks) : OGo p e below (OEndW s kc ks Q) (T.setTop (mkF m pc Ls (.int z :: rest))) :=
  OGo.retW X hS hn (fun q => by rw [hret] at q; cases q) hlk (fun fs hr => Jvm.RoadKit.retN X hx hret ht hd hr) hQ hc hl
/-- a body's contract: called with 'as' at a heap h0, it returns, and Q says what it left -/
def OMet (l : Launch) (Z : State) (y : MethodName) (bytes : ByteArray) (maxL : Nat) (ret : Option FieldType) (ws : List Jvm.Cond) (rm : Room) (as : Array Value) (h0 : Heap) (Q : Option Value → Heap → List Loc → Prop) : Prop :=
  MetFree l y (head1 (Jvm.Cond.code y bytes maxL ret :: ws) rm) (fun a U => a = as ∧ Z.Warmed39 U.vm ∧ U.heap = h0) (fun _ _ _ _ _ => True) (fun _ U o U' => ∃ v L, o = .returned v ∧ Q v U'.heap L ∧ FrameEnd U o U' L rm.cells rm.slots)
theorem OMet.of {y : MethodName} {bytes : ByteArray} {maxL : Nat} {ret : Option FieldType} {ws : List Jvm.Cond} {rm : Room} {as : Array Value} {h0 : Heap} (hpn : plainFor y = true)
    (H : ∀ (p : Program) (e : Env) (s : State) (m : MethodId) (below : List Frame) (meth : Method) (c : Code) (T0 : State), Stand p l e rm s m as below meth c T0 [] 0 0 → p.tables.exec = Jvm.exec → c.code = bytes → c.maxLocals = maxL → s.vm.findClass y.cls = some m.cls → meth.name = y.name → meth.sig.returnType = ret → meth.locks = false → Z.Warmed39 s.vm → T0.heap = h0 →
      OGo p e below (OEnd s rm.cells rm.slots Q) (T0.setTop (entryFrame m as maxL))) : OMet l Z y bytes maxL ret ws rm as h0 Q := by
  refine MetFree.of_bodySF hpn hisR ?_
  intro p e s m args below meth c s₁ Bd hml0 hP hK
  obtain ⟨rfl, hZ, hh⟩ := hP
  exact H p e s m below meth c s₁ (Stand.of_body Bd) Bd.exec Bd.bytes hml0 (findClass_of_methodNamed Bd.named) (name_of_methodNamed Bd.named Bd.method).1 Bd.returns Bd.notSynchronized hZ (by rw [← hh, Bd.state]; rfl)
def OMetW (l : Launch) (Z : State) (y : MethodName) (bytes : ByteArray) (maxL : Nat) (ret : Option FieldType) (ws : List Jvm.Cond) (rm : Room) (as : Array Value) (h0 : Heap) (Q : Option Value → Heap → List Loc → Prop) : Prop :=
  MetFree l y (head1 (Jvm.Cond.code y bytes maxL ret :: ws) rm) (fun a U => a = as ∧ Z.Warmed39 U.vm ∧ U.heap = h0) (fun _ _ _ _ _ => True) (fun _ U o U' => ∃ v L, o = .returned v ∧ Q v U'.heap L ∧ ReturnedEndW U o U' L rm.cells rm.slots)
theorem OMetW.of {y : MethodName} {bytes : ByteArray} {maxL : Nat} {ret : Option FieldType} {ws : List Jvm.Cond} {rm : Room} {as : Array Value} {h0 : Heap} (hpn : plainFor y = true)
    (H : ∀ (p : Program) (e : Env) (s : State) (m : MethodId) (below : List Frame) (meth : Method) (c : Code) (T0 : State), Stand p l e rm s m as below meth c T0 [] 0 0 → p.tables.exec = Jvm.exec → c.code = bytes → c.maxLocals = maxL → s.vm.findClass y.cls = some m.cls → meth.name = y.name → meth.sig.returnType = ret → meth.locks = false → Z.Warmed39 s.vm → T0.heap = h0 →
      OGo p e below (OEndW s rm.cells rm.slots Q) (T0.setTop (entryFrame m as maxL))) : OMetW l Z y bytes maxL ret ws rm as h0 Q := by
  refine MetFree.of_bodySF hpn hisR ?_
  intro p e s m args below meth c s₁ Bd hml0 hP hK
  obtain ⟨rfl, hZ, hh⟩ := hP
  exact H p e s m below meth c s₁ (Stand.of_body Bd) Bd.exec Bd.bytes hml0 (findClass_of_methodNamed Bd.named) (name_of_methodNamed Bd.named Bd.method).1 Bd.returns Bd.notSynchronized hZ (by rw [← hh, Bd.state]; rfl)
/-- a call of a static method -/
theorem OGo.callS (X : Stand p l e R s m args below meth c T locs cells slots) (hx : p.tables.exec = Jvm.exec) (hZ : Z.Warmed39 s.vm) {own : String} {index : Nat} {y : MethodName} {bytes : ByteArray} {maxL : Nat} {ret : Option FieldType}
    (hown : s.vm.findClass own = some m.cls) (w1 : (Jvm.Cond.methodLink own index y).before a0 Z = true) (w2 : (Jvm.Cond.static y).before a0 Z = true) (w3 : (Jvm.Cond.initialized y.cls).before a0 Z = true) (w4 : (Jvm.Cond.code y bytes maxL ret).before a0 Z = true)
    (hy : y.cls ≠ "java/lang/invoke/MethodHandle" ∧ y.cls ≠ "java/lang/invoke/VarHandle") {g : JFrame} {argsL rest : List Value} {rm : Room} {Q' : Option Value → Heap → List Loc → Prop} (eT : T.heap = h) (hM : OMet l Z y bytes maxL ret [] rm argsL.toArray h Q')
    (hg : g.method = m) (hsize : g.locals.size = c.maxLocals) (hlen : ∀ sig, parseMethodDescriptor y.desc = some sig → argsL.length = sig.parameters.length) (hstack : g.stack = argsL.reverse ++ rest) {W : Nat} (hW : 2 * g.monitorRoom + (rest.map fun v => v.category).sum ≤ W) (hd : decode c.code g.pc = .ok (.invokestatic index, 3))
    (hf : rm.frames + 1 ≤ R.frames) (hl : W + (maxL + 11) + rm.locals ≤ R.locals) (hc : cells + rm.cells ≤ R.cells) (hs : slots + rm.slots ≤ R.slots)
    (k : ∀ (v : Option Value) (T' : State) (L' : List Loc), Stand p l e R s m args below meth c T' (locs ++ L') (cells + rm.cells) (slots + rm.slots) → Q' v T'.heap L' → OGo p e below G (T'.setTop { g with pc := g.pc + 3, stack := v.toList ++ rest })) : OGo p e below G (T.setTop g) := by
  obtain ⟨v, vm₁, B, hW₁, X', ⟨L, hQ, e1, e2, e3⟩, st⟩ := Jvm.LawKit.callS X hx (y := y) hown (mvT hZ w1) (mvT hZ w2) (mvT hZ w3) (mvT hZ w4) hy (backOf (W := W) hM hZ w4 w3 hf hl) (g := g) hg hsize (argsL := argsL) (rest := rest) hlen hstack hW hd (fun _ _ => ⟨rfl, eT, hc, hs⟩)
  rw [e1, e2, e3] at X'
  exact OGo.go st (k v B.U L X' hQ)
/-- a call of a constructor -/
theorem OGo.callI (X : Stand p l e R s m args below meth c T locs cells slots) (hx : p.tables.exec = Jvm.exec) (hZ : Z.Warmed39 s.vm) {own : String} {index : Nat} {y : MethodName} {bytes : ByteArray} {maxL : Nat} (hy1 : y.name = "<init>")
    (hown : s.vm.findClass own = some m.cls) (w1 : (Jvm.Cond.methodLink own index y).before a0 Z = true) (w2 : (Jvm.Cond.instanceMethod y).before a0 Z = true) (w3 : (Jvm.Cond.initialized y.cls).before a0 Z = true) (w4 : (Jvm.Cond.code y bytes maxL none).before a0 Z = true)
    (hy : y.cls ≠ "java/lang/invoke/MethodHandle" ∧ y.cls ≠ "java/lang/invoke/VarHandle") {g : JFrame} {a : Addr} {argsL rest : List Value} {rm : Room} {Q' : Option Value → Heap → List Loc → Prop} (eT : T.heap = h) (hM : OMet l Z y bytes maxL none [] rm (.ref a :: argsL).toArray h Q')
    (hg : g.method = m) (hsize : g.locals.size = c.maxLocals) (hlen : ∀ sig, parseMethodDescriptor y.desc = some sig → argsL.length = sig.parameters.length) (hstack : g.stack = argsL.reverse ++ .ref a :: rest) {W : Nat} (hW : 2 * g.monitorRoom + (rest.map fun v => v.category).sum ≤ W) (hd : decode c.code g.pc = .ok (.invokespecial index, 3))
    (hf : rm.frames + 1 ≤ R.frames) (hl : W + (maxL + 11) + rm.locals ≤ R.locals) (hc : cells + rm.cells ≤ R.cells) (hs : slots + rm.slots ≤ R.slots)
    (k : ∀ (v : Option Value) (T' : State) (L' : List Loc), Stand p l e R s m args below meth c T' (locs ++ L') (cells + rm.cells) (slots + rm.slots) → Q' v T'.heap L' → OGo p e below G (T'.setTop { g with pc := g.pc + 3, stack := v.toList ++ rest })) : OGo p e below G (T.setTop g) := by
  obtain ⟨v, vm₁, B, hW₁, X', ⟨L, hQ, e1, e2, e3⟩, st⟩ := X.specialBack hx (y := y) hy1 hown (mvT hZ w1) (mvT hZ w2) (mvT hZ w4) hy (backOf (W := W) hM hZ w4 w3 hf hl) (g := g) hg hsize (Steps.refl _) (a := a) (argsL := argsL) (rest := rest) hlen hstack hW hd (fun _ _ => ⟨rfl, eT, hc, hs⟩)
  rw [e1, e2, e3] at X'
  exact OGo.trans st (k v B.U L X' hQ)
/-- a call of an instance method -/
theorem OGo.callV (X : Stand p l e R s m args below meth c T locs cells slots) (hx : p.tables.exec = Jvm.exec) (hZ : Z.Warmed39 s.vm) {own C : String} {index : Nat} {y : MethodName} {bytes : ByteArray} {maxL : Nat} {ret : Option FieldType}
    (hown : s.vm.findClass own = some m.cls) (w1 : (Jvm.Cond.methodLink own index y).before a0 Z = true) (w5 : (Jvm.Cond.declares y).before a0 Z = true) (w6 : (Jvm.Cond.selects C y y).before a0 Z = true) (w2 : (Jvm.Cond.instanceMethod y).before a0 Z = true) (w3 : (Jvm.Cond.initialized y.cls).before a0 Z = true) (w4 : (Jvm.Cond.code y bytes maxL ret).before a0 Z = true)
    (hy : y.cls ≠ "java/lang/invoke/MethodHandle" ∧ y.cls ≠ "java/lang/invoke/VarHandle") {g : JFrame} {a : Addr} {argsL rest : List Value} {rm : Room} {Q' : Option Value → Heap → List Loc → Prop} (eT : T.heap = h) (E : Exa Z h a C) (hM : OMet l Z y bytes maxL ret [] rm (.ref a :: argsL).toArray h Q')
    (hg : g.method = m) (hsize : g.locals.size = c.maxLocals) (hlen : ∀ sig, parseMethodDescriptor y.desc = some sig → argsL.length = sig.parameters.length) (hstack : g.stack = argsL.reverse ++ .ref a :: rest) {W : Nat} (hW : 2 * g.monitorRoom + (rest.map fun v => v.category).sum ≤ W) (hd : decode c.code g.pc = .ok (.invokevirtual index, 3))
    (hf : rm.frames + 1 ≤ R.frames) (hl : W + (maxL + 11) + rm.locals ≤ R.locals) (hc : cells + rm.cells ≤ R.cells) (hs : slots + rm.slots ≤ R.slots)
    (k : ∀ (v : Option Value) (T' : State) (L' : List Loc), Stand p l e R s m args below meth c T' (locs ++ L') (cells + rm.cells) (slots + rm.slots) → Q' v T'.heap L' → OGo p e below G (T'.setTop { g with pc := g.pc + 3, stack := v.toList ++ rest })) : OGo p e below G (T.setTop g) := by
  obtain ⟨cB, kB, q1, q2, q3⟩ := isOf hZ eT E
  obtain ⟨v, vm₁, B, hW₁, X', ⟨L, hQ, e1, e2, e3⟩, st⟩ := X.virtualBack hx (y := y) (z := y) hown (mvT hZ w1) (mvT hZ w5) (notFace_of_selects (args := #[]) (mvT hZ w6)) (mvT hZ w6) (mvT hZ w2) hy (backOf (W := W) hM hZ w4 w3 hf hl) q1 q3 (g := g) hg hsize (Steps.refl _) (argsL := argsL) (rest := rest) hlen hstack hW hd (fun _ _ => ⟨rfl, eT, hc, hs⟩)
  rw [e1, e2, e3] at X'
  exact OGo.trans st (k v B.U L X' hQ)
/-- what a contract says that leaves the heap as it was -/
def OPure (w : Option Value) (h0 : Heap) (v : Option Value) (h : Heap) (L : List Loc) : Prop := v = w ∧ h = h0 ∧ L = []
/-- a static that a sheet says to hold an object of just this class -/
theorem own_enum {s : State} {args : Array Value} {C n d K : String} (hx : (Jvm.Cond.exactly (.static C n d) K).value args s none s [] = some true) (w1 : (Jvm.Cond.initialized C).before args s = true) (w2 : (Jvm.Cond.laysStatic C n d).before args s = true) :
    ∃ a, (Term.static C n d).eval args s none [] s = some (.ref a) ∧ Sta s s.heap C n d (.ref a) ∧ Exa s s.heap a K := by
  obtain ⟨a, ev⟩ := exa_v hx
  exact ⟨a, ev, Sta.start ev (Or.inr ⟨w1, w2⟩), Exa.start ev hx⟩
theorem own_efld {s : State} {args : Array Value} {t : Term} {C n d : String} {a : Addr} {k : Int32} (ev : t.eval args s none [] s = some (.ref a)) (h : (Jvm.Cond.eq (.field t C n d) (.int k)).value args s none s [] = some true) : Fld s s.heap a C n d (.int k) := by
  obtain ⟨x, y, h1, h2, h3, h4⟩ := cmp_v (Or.inl h)
  have h2' : y = .int k := (Option.some.inj h2).symm
  subst h2'
  obtain ⟨z, rfl⟩ := h4
  have q : (Jvm.Cond.eq (.field t C n d) (.int k)).value args s none s [] = some (decide (z = k)) := by simp [Cond.value, h1, h2]
  have e := gotT q h
  subst e
  exact Fld.start ((fld_at ev).symm.trans h1)
theorem own_sta_keep {h' : Heap} {C n d : String} {v : Value} {ws : List Addr} (F : Sta Z h C n d v) (K : Keep h h' ws) (q : ∀ x ∈ ws, ∀ cell : Cell, h[x]? = some cell → cell.vm.isStatics = false) : Sta Z h' C n d v := by
  obtain ⟨cf, i, k, f, st, cell, h1, h2, h3, h4, h5, h6, h7⟩ := F
  exact ⟨cf, i, k, f, st, cell, h1, h2, h3, h4, K.2.1 _ _ h5 (fun r => by rw [q _ r _ h5] at h6; cases h6), h6, h7⟩
theorem own_plain {a : Addr} {C : String} (F : Exa Z h a C) : ∀ cell : Cell, h[a]? = some cell → cell.vm.isStatics = false := fun cell hc => by
  obtain ⟨c', k, h1, h2, h3, h4, h5⟩ := F
  cases h1.symm.trans hc
  exact h4
theorem nar_b0 : nar .boolean 0 = 0 := by decide
theorem nar_b1 : nar .boolean 1 = 1 := by decide
theorem nar_bite {P : Prop} [Decidable P] {x y : Int32} : nar .boolean (if P then x else y) = if P then nar .boolean x else nar .boolean y := by split <;> rfl
end OwnGo
end Jvm.RoadKit
namespace Jvm.RoadKit
open Sem ClassFile Op Lib Jvm.Stand Jvm.Free Jvm.LawKit
section OwnArr
variable {p : Program} {l : Launch} {e : Env} {R : Room} {s : State} {m : MethodId} {args : Array Value} {below : List Frame} {meth : Method} {c : Code} {T : State} {locs : List Loc} {cells slots : Nat} {Z : State} {h h' : Heap} {a b : Addr} {n : Nat} {f f' : Int32 → Int32} {j x : Int32}
/-- an array of n ints that holds f -/
def OI (Z : State) (h : Heap) (a : Addr) (n : Nat) (f : Int32 → Int32) : Prop := ∃ c : Cell, Arr Z h a c .int ∧ c.slots.size = n ∧ ∀ j : Int32, 0 ≤ j.toInt → j.toInt < (n : Int) → c.slots[j.toNatClampNeg]? = some (.int (f j))
theorem OI.lt (F : OI Z h a n f) : a < h.size := by obtain ⟨c, A, -⟩ := F; exact A.lt
theorem OI.ext (F : OI Z h a n f) (E : Ext h h') : OI Z h' a n f := by obtain ⟨c, A, r⟩ := F; exact ⟨c, A.ext E, r⟩
theorem OI.other {sl : Nat} {v : Value} (F : OI Z h b n f) (W : Wr h h' a sl v) (q : b ≠ a) : OI Z h' b n f := by obtain ⟨c, A, r⟩ := F; exact ⟨c, A.other W q, r⟩
theorem OI.keep {ws : List Addr} (F : OI Z h a n f) (K : Keep h h' ws) (q : a ∉ ws) : OI Z h' a n f := by obtain ⟨c, A, r⟩ := F; exact ⟨c, ⟨K.2.1 a c A.1 q, A.2⟩, r⟩
theorem OI.congr (F : OI Z h a n f) (q : ∀ j : Int32, 0 ≤ j.toInt → j.toInt < (n : Int) → f j = f' j) : OI Z h a n f' := by obtain ⟨c, A, S, H⟩ := F; exact ⟨c, A, S, fun j h0 h1 => by rw [H j h0 h1, q j h0 h1]⟩
theorem oi_nn (h0 : 0 ≤ j.toInt) : ¬ j < 0 := by rw [Int32.lt_iff_toInt_lt, Int32.toInt_zero]; omega
theorem oi_in (h0 : 0 ≤ j.toInt) (h1 : j.toInt < (n : Int)) : ¬ (j < 0 ∨ n ≤ j.toNatClampNeg) := by
  have q := oi_nn h0
  have r := nat_of q
  rintro (u | u)
  · exact q u
  · omega
theorem OI.new {k : ClassId} {z : Int32} (A : Arr Z h a (newA k .int z) .int) (q : z.toNatClampNeg = n) : OI Z h a n (fun _ => 0) :=
  ⟨_, A, by rw [sz_new]; exact q, fun j h0 h1 => get_new (by rw [q]; exact oi_in h0 h1)⟩
theorem OI.set (F : OI Z h a n f) (W : Wr h h' a j.toNatClampNeg (.int x)) (h0 : 0 ≤ j.toInt) (h1 : j.toInt < (n : Int)) : OI Z h' a n (fun i => if i = j then x else f i) := by
  obtain ⟨c, A, S, H⟩ := F
  refine ⟨_, A.same W, by rw [sz_set]; exact S, fun i i0 i1 => ?_⟩
  show _ = some (Value.int (if i = j then x else f i))
  by_cases q : i = j
  · rw [if_pos q]; exact get_hit (by rw [S]; exact oi_in h0 h1) q
  · rw [if_neg q, get_miss (oi_nn h0) (oi_nn i0) q]; exact H i i0 i1
theorem OI.ld (X : Stand p l e R s m args below meth c T locs cells slots) (hx : p.tables.exec = Jvm.exec) (hZ : Z.Warmed39 s.vm) (eT : T.heap = h) (F : OI Z h a n f) (h0 : 0 ≤ j.toInt) (h1 : j.toInt < (n : Int))
    {g : JFrame} (hg : g.method = m) {rest : List Value} (hs : g.stack = .int j :: .ref a :: rest) (hd : decode c.code g.pc = .ok (.iaload, 1)) :
    ∀ target, Steps p.tables e below (T.setTop { g with pc := g.pc + 1, stack := .int (f j) :: rest }) target → Steps p.tables e below (T.setTop g) target := by
  obtain ⟨cl, A, S, H⟩ := F
  exact X.iaload hx (j := j) (v := .int (f j)) (by rw [eT]; exact A.1) (State.isArrayOf_alike hZ.alike A.2.1) A.2.2 (by rw [S]; exact oi_in h0 h1) (H j h0 h1) (g := g) hg hs hd
theorem OI.st (X : Stand p l e R s m args below meth c T locs cells slots) (hx : p.tables.exec = Jvm.exec) (hZ : Z.Warmed39 s.vm) (eT : T.heap = h) (F : OI Z h a n f) (h0 : 0 ≤ j.toInt) (h1 : j.toInt < (n : Int))
    {g : JFrame} (hg : g.method = m) {rest : List Value} (hs : g.stack = .int x :: .int j :: .ref a :: rest) (hd : decode c.code g.pc = .ok (.iastore, 1)) :
    ∃ T' h', Stand p l e R s m args below meth c T' (locs ++ [⟨a, j.toNatClampNeg⟩]) cells slots ∧ T'.heap = h' ∧ Wr h h' a j.toNatClampNeg (.int x) ∧ OI Z h' a n (fun i => if i = j then x else f i) ∧ ∀ target, Steps p.tables e below (T'.setTop { g with pc := g.pc + 1, stack := rest }) target → Steps p.tables e below (T.setTop g) target := by
  obtain ⟨cl, A, S, H⟩ := F
  obtain ⟨T', h', X', e', W, st⟩ := stI X hx hZ eT A (j := j) (x := x) (by rw [S]; exact oi_in h0 h1) (g := g) hg hs hd
  exact ⟨T', h', X', e', W, OI.set ⟨cl, A, S, H⟩ W h0 h1, st⟩
theorem OI.len (X : Stand p l e R s m args below meth c T locs cells slots) (hx : p.tables.exec = Jvm.exec) (hZ : Z.Warmed39 s.vm) (eT : T.heap = h) (F : OI Z h a n f)
    {g : JFrame} (hg : g.method = m) {rest : List Value} (hs : g.stack = .ref a :: rest) (hd : decode c.code g.pc = .ok (.arraylength, 1)) :
    ∀ target, Steps p.tables e below (T.setTop { g with pc := g.pc + 1, stack := .int n.toInt32 :: rest }) target → Steps p.tables e below (T.setTop g) target := by
  obtain ⟨cl, A, S, H⟩ := F
  have r := X.arraylength hx (by rw [eT]; exact A.1) (State.isArrayOf_alike hZ.alike A.2.1) (g := g) hg hs hd
  rw [S] at r
  exact r
end OwnArr
end Jvm.RoadKit
namespace Jvm.RoadKit
open Sem ClassFile Op Lib Jvm.Stand Jvm.Free Jvm.LawKit
section OwnNat
variable {p : Program} {l : Launch} {e : Env} {R : Room} {s : State} {m : MethodId} {args : Array Value} {below : List Frame} {meth : Method} {c : Code} {T : State} {locs : List Loc} {cells slots : Nat} {Z : State} {h h' : Heap} {a b : Addr} {fn : Nat → Nat} {j v : Nat}
/-- a small natural number as an int -/
abbrev N (k : Nat) : Int32 := Int32.ofNat k
theorem N_toInt (hj : j < 5) : (N j).toInt = j := Int32.toInt_ofNat_of_lt (by omega)
theorem N_inj {i j : Nat} (hi : i < 5) (hj : j < 5) (q : N i = N j) : i = j := by
  have r := congrArg Int32.toInt q
  rw [N_toInt hi, N_toInt hj] at r
  omega
theorem N_clamp (hj : j < 5) : (N j).toNatClampNeg = j := by
  have q := nat_of (oi_nn (j := N j) (by rw [N_toInt hj]; omega))
  rw [N_toInt hj] at q
  omega
/-- f with one place turned -/
def upd (f : Nat → Nat) (i v : Nat) : Nat → Nat := fun k => if k = i then v else f k
def R5 (f : Nat → Nat) : Prop := ∀ k, k < 5 → f k < 5
def zero5 : Nat → Nat := fun _ => 0
theorem R5.zero : R5 zero5 := fun _ _ => Nat.zero_lt_succ 4
theorem R5.upd {f : Nat → Nat} {i v : Nat} (F : R5 f) (hv : v < 5) : R5 (upd f i v) := fun k hk => by
  show (if k = i then v else f k) < 5
  split
  · exact hv
  · exact F k hk
/-- an array of five ints that holds fn -/
def ON (Z : State) (h : Heap) (a : Addr) (fn : Nat → Nat) : Prop := OI Z h a 5 (fun j => N (fn j.toNatClampNeg))
theorem ON.lt (F : ON Z h a fn) : a < h.size := OI.lt F
theorem ON.ext (F : ON Z h a fn) (E : Ext h h') : ON Z h' a fn := OI.ext F E
theorem ON.other {sl : Nat} {v : Value} (F : ON Z h b fn) (W : Wr h h' a sl v) (q : b ≠ a) : ON Z h' b fn := OI.other F W q
theorem ON.keep {ws : List Addr} (F : ON Z h a fn) (K : Keep h h' ws) (q : a ∉ ws) : ON Z h' a fn := OI.keep F K q
theorem ON.new {k : ClassId} {z : Int32} (A : Arr Z h a (newA k .int z) .int) (q : z.toNatClampNeg = 5) : ON Z h a zero5 := OI.new A q
theorem ON.ld (X : Stand p l e R s m args below meth c T locs cells slots) (hx : p.tables.exec = Jvm.exec) (hZ : Z.Warmed39 s.vm) (eT : T.heap = h) (F : ON Z h a fn) (hj : j < 5)
    {g : JFrame} (hg : g.method = m) {rest : List Value} (hs : g.stack = .int (N j) :: .ref a :: rest) (hd : decode c.code g.pc = .ok (.iaload, 1)) :
    ∀ target, Steps p.tables e below (T.setTop { g with pc := g.pc + 1, stack := .int (N (fn j)) :: rest }) target → Steps p.tables e below (T.setTop g) target := by
  have r := OI.ld X hx hZ eT F (j := N j) (by rw [N_toInt hj]; omega) (by rw [N_toInt hj]; omega) (g := g) hg hs hd
  rw [N_clamp hj] at r
  exact r
theorem ON.st (X : Stand p l e R s m args below meth c T locs cells slots) (hx : p.tables.exec = Jvm.exec) (hZ : Z.Warmed39 s.vm) (eT : T.heap = h) (F : ON Z h a fn) (hj : j < 5)
    {g : JFrame} (hg : g.method = m) {rest : List Value} (hs : g.stack = .int (N v) :: .int (N j) :: .ref a :: rest) (hd : decode c.code g.pc = .ok (.iastore, 1)) :
    ∃ T' h', Stand p l e R s m args below meth c T' (locs ++ [⟨a, (N j).toNatClampNeg⟩]) cells slots ∧ T'.heap = h' ∧ Wr h h' a (N j).toNatClampNeg (.int (N v)) ∧ ON Z h' a (upd fn j v) ∧ ∀ target, Steps p.tables e below (T'.setTop { g with pc := g.pc + 1, stack := rest }) target → Steps p.tables e below (T.setTop g) target := by
  obtain ⟨T', h', X', e', W, A, st⟩ := OI.st X hx hZ eT F (j := N j) (x := N v) (by rw [N_toInt hj]; omega) (by rw [N_toInt hj]; omega) (g := g) hg hs hd
  refine ⟨T', h', X', e', W, A.congr fun i i0 i1 => ?_, st⟩
  have hi : i.toNatClampNeg < 5 := by have q := nat_of (oi_nn i0); omega
  have ei : N i.toNatClampNeg = i := by
    apply Int32.toInt_inj.mp
    rw [N_toInt hi]; exact (nat_of (oi_nn i0)).symm
  show (if i = N j then N v else N (fn i.toNatClampNeg)) = N (if i.toNatClampNeg = j then v else fn i.toNatClampNeg)
  by_cases q : i.toNatClampNeg = j
  · rw [if_pos q, if_pos (by rw [← q, ei])]
  · rw [if_neg q, if_neg (fun r => q (by rw [r, N_clamp hj]))]
theorem own_rem5 {y z : Int32} (h : 0 ≤ y.toInt) (hz : z = y % (N 5)) : ∃ k, k < 5 ∧ z = N k := by
  have r := (c_irem y (N 5) 5 (by decide)).1 h
  refine ⟨(y.toInt % 5).toNat, by omega, ?_⟩
  apply Int32.toInt_inj.mp
  rw [hz, r, N_toInt (by omega)]
  omega
end OwnNat
end Jvm.RoadKit
namespace Jvm.Pilot.@@N@@
open Jvm Jvm.ClassFile Sem Op Lib Jvm.Free Jvm.Stand Jvm.LawKit Jvm.RoadKit Bundle Jvm.Pilot.@@N@@.Jvm.D
theorem pd_0 : parseMethodDescriptor "([II)I" = some ⟨[(.array .int), .int], some .int⟩ := by decide +kernel
theorem pd_1 : parseMethodDescriptor "([II)Z" = some ⟨[(.array .int), .int], some .boolean⟩ := by decide +kernel
theorem pd_2 : parseMethodDescriptor "([III)Z" = some ⟨[(.array .int), .int, .int], some .boolean⟩ := by decide +kernel
theorem pd_3 : parseMethodDescriptor "([I)Z" = some ⟨[(.array .int)], some .boolean⟩ := by decide +kernel
theorem pd_4 : parseMethodDescriptor "([I[III)Z" = some ⟨[(.array .int), (.array .int), .int, .int], some .boolean⟩ := by decide +kernel
theorem d_root_0 : decode method_2_code 0 = .ok (.aload_n 0, 1) := by decide +kernel
theorem d_root_1 : decode method_2_code 1 = .ok (.aload_n 0, 1) := by decide +kernel
theorem d_root_2 : decode method_2_code 2 = .ok (.aload_n 0, 1) := by decide +kernel
theorem d_root_3 : decode method_2_code 3 = .ok (.aload_n 0, 1) := by decide +kernel
theorem d_root_4 : decode method_2_code 4 = .ok (.iload_n 1, 1) := by decide +kernel
theorem d_root_5 : decode method_2_code 5 = .ok (.iaload, 1) := by decide +kernel
theorem d_root_6 : decode method_2_code 6 = .ok (.iaload, 1) := by decide +kernel
theorem d_root_7 : decode method_2_code 7 = .ok (.iaload, 1) := by decide +kernel
theorem d_root_8 : decode method_2_code 8 = .ok (.iaload, 1) := by decide +kernel
theorem d_root_9 : decode method_2_code 9 = .ok (.ireturn, 1) := by decide +kernel
theorem ef_root (m : MethodId) (a1 : Addr) (x : Nat) : entryFrame m #[(.ref a1), (.int (N x))] 2 = mkF m 0 #[.val (.ref a1), .val (.int (N x))] [] := by first | (simp [entryFrame, mkF, argsToLocals, Value.category]; done) | rfl
theorem pn_root : plainFor (⟨"com/example/sieveplan/sieveplan/plan/JoinOrderNamedPinLaw", "root", "([II)I"⟩ : MethodName) = true := by first | exact plainFor_of_name (by first | (simp [plainName, overriddenIn]; done) | decide +kernel) | decide +kernel
set_option maxRecDepth 65536 in
set_option maxHeartbeats 40000000 in
theorem rm_root (l : Launch) (Z : State) (a0 : Array Value) (hw : ∀ d ∈ tables_1, d.before a0 Z = true) (a1 : Addr) (x : Nat) (fn : Nat → Nat) (h0 : Heap) (A1 : ON Z h0 a1 fn) (hr : R5 fn) (hx5 : x < 5) :
    OMet l Z (⟨"com/example/sieveplan/sieveplan/plan/JoinOrderNamedPinLaw", "root", "([II)I"⟩ : MethodName) method_2_code 2 (some .int) [] ({ frames := 0, cells := 0, slots := 0, locals := 0 } : Room) #[(.ref a1), (.int (N x))] h0 (OPure (some (.int (N (fn (fn (fn (fn x))))))) h0) := by
  refine OMet.of pn_root ?_
  intro p e s m below meth c T0 X0 hx hby hml hown0 hnm hret hlk hZ e0
  have hown : s.vm.findClass "com/example/sieveplan/sieveplan/plan/JoinOrderNamedPinLaw" = some m.cls := hown0
  refine OGo.go (fun t k => castTop (ef_root m a1 x) k) ?_
  refine OGo.go (U' := T0.setTop (mkF m 1 #[.val (.ref a1), .val (.int (N x))] [(.ref a1)])) (fun _ k => XS.aloadN X0.here hx rfl (hb hby d_root_0) rfl rfl k) ?_
  refine OGo.go (U' := T0.setTop (mkF m 2 #[.val (.ref a1), .val (.int (N x))] [(.ref a1), (.ref a1)])) (fun _ k => XS.aloadN X0.here hx rfl (hb hby d_root_1) rfl rfl k) ?_
  refine OGo.go (U' := T0.setTop (mkF m 3 #[.val (.ref a1), .val (.int (N x))] [(.ref a1), (.ref a1), (.ref a1)])) (fun _ k => XS.aloadN X0.here hx rfl (hb hby d_root_2) rfl rfl k) ?_
  refine OGo.go (U' := T0.setTop (mkF m 4 #[.val (.ref a1), .val (.int (N x))] [(.ref a1), (.ref a1), (.ref a1), (.ref a1)])) (fun _ k => XS.aloadN X0.here hx rfl (hb hby d_root_3) rfl rfl k) ?_
  refine OGo.go (U' := T0.setTop (mkF m 5 #[.val (.ref a1), .val (.int (N x))] [(.int (N x)), (.ref a1), (.ref a1), (.ref a1), (.ref a1)])) (fun _ k => XS.iloadN X0.here hx rfl (hb hby d_root_4) rfl k) ?_
  refine OGo.go (U' := T0.setTop (mkF m 6 #[.val (.ref a1), .val (.int (N x))] [(.int (N (fn x))), (.ref a1), (.ref a1), (.ref a1)])) (fun _ k => ON.ld X0 hx hZ e0 A1 (j := x) hx5 (g := (mkF m 5 #[.val (.ref a1), .val (.int (N x))] [(.int (N x)), (.ref a1), (.ref a1), (.ref a1), (.ref a1)])) rfl rfl (hb hby d_root_5) _ k) ?_
  refine OGo.go (U' := T0.setTop (mkF m 7 #[.val (.ref a1), .val (.int (N x))] [(.int (N (fn (fn x)))), (.ref a1), (.ref a1)])) (fun _ k => ON.ld X0 hx hZ e0 A1 (j := (fn x)) (hr _ hx5) (g := (mkF m 6 #[.val (.ref a1), .val (.int (N x))] [(.int (N (fn x))), (.ref a1), (.ref a1), (.ref a1)])) rfl rfl (hb hby d_root_6) _ k) ?_
  refine OGo.go (U' := T0.setTop (mkF m 8 #[.val (.ref a1), .val (.int (N x))] [(.int (N (fn (fn (fn x))))), (.ref a1)])) (fun _ k => ON.ld X0 hx hZ e0 A1 (j := (fn (fn x))) (hr _ (hr _ hx5)) (g := (mkF m 7 #[.val (.ref a1), .val (.int (N x))] [(.int (N (fn (fn x)))), (.ref a1), (.ref a1)])) rfl rfl (hb hby d_root_7) _ k) ?_
  refine OGo.go (U' := T0.setTop (mkF m 9 #[.val (.ref a1), .val (.int (N x))] [(.int (N (fn (fn (fn (fn x))))))])) (fun _ k => ON.ld X0 hx hZ e0 A1 (j := (fn (fn (fn x)))) (hr _ (hr _ (hr _ hx5))) (g := (mkF m 8 #[.val (.ref a1), .val (.int (N x))] [(.int (N (fn (fn (fn x))))), (.ref a1)])) rfl rfl (hb hby d_root_8) _ k) ?_
  refine OGo.retI X0 hx hret hlk (hb hby d_root_9) ?_ (by decide) (by decide)
  refine ⟨?_, e0, rfl⟩
  rfl
def F_isr (fn : Nat → Nat) (x : Nat) : Int32 := (nar .boolean (if (fn (fn (fn (fn (fn x))))) = (fn (fn (fn (fn x)))) then (N 1) else (N 0)))
theorem d_isr_0 : decode method_3_code 0 = .ok (.aload_n 0, 1) := by decide +kernel
theorem d_isr_1 : decode method_3_code 1 = .ok (.iload_n 1, 1) := by decide +kernel
theorem d_isr_2 : decode method_3_code 2 = .ok (.invokestatic 7, 3) := by decide +kernel
theorem d_isr_5 : decode method_3_code 5 = .ok (.istore_n 2, 1) := by decide +kernel
theorem d_isr_6 : decode method_3_code 6 = .ok (.aload_n 0, 1) := by decide +kernel
theorem d_isr_7 : decode method_3_code 7 = .ok (.iload_n 2, 1) := by decide +kernel
theorem d_isr_8 : decode method_3_code 8 = .ok (.iaload, 1) := by decide +kernel
theorem d_isr_9 : decode method_3_code 9 = .ok (.iload_n 2, 1) := by decide +kernel
theorem d_isr_10 : decode method_3_code 10 = .ok (.if_icmp .ne 7, 3) := by decide +kernel
theorem d_isr_13 : decode method_3_code 13 = .ok (.iconst 1, 1) := by decide +kernel
theorem d_isr_14 : decode method_3_code 14 = .ok (.goto 4, 3) := by decide +kernel
theorem d_isr_17 : decode method_3_code 17 = .ok (.iconst 0, 1) := by decide +kernel
theorem d_isr_18 : decode method_3_code 18 = .ok (.ireturn, 1) := by decide +kernel
theorem ef_isr (m : MethodId) (a1 : Addr) (x : Nat) : entryFrame m #[(.ref a1), (.int (N x))] 3 = mkF m 0 #[.val (.ref a1), .val (.int (N x)), .unset] [] := by first | (simp [entryFrame, mkF, argsToLocals, Value.category]; done) | rfl
theorem pn_isr : plainFor (⟨"com/example/sieveplan/sieveplan/plan/JoinOrderNamedPinLaw", "isRoot", "([II)Z"⟩ : MethodName) = true := by first | exact plainFor_of_name (by first | (simp [plainName, overriddenIn]; done) | decide +kernel) | decide +kernel
set_option maxRecDepth 65536 in
set_option maxHeartbeats 40000000 in
theorem rm_isr (l : Launch) (Z : State) (a0 : Array Value) (hw : ∀ d ∈ tables_1, d.before a0 Z = true) (a1 : Addr) (x : Nat) (fn : Nat → Nat) (h0 : Heap) (A1 : ON Z h0 a1 fn) (hr : R5 fn) (bx : x < 5) :
    OMet l Z (⟨"com/example/sieveplan/sieveplan/plan/JoinOrderNamedPinLaw", "isRoot", "([II)Z"⟩ : MethodName) method_3_code 3 (some .boolean) [] ({ frames := 1, cells := 0, slots := 0, locals := 13 } : Room) #[(.ref a1), (.int (N x))] h0 (OPure (some (.int (F_isr fn x))) h0) := by
  refine OMet.of pn_isr ?_
  intro p e s m below meth c T0 X0 hx hby hml hown0 hnm hret hlk hZ e0
  have hown : s.vm.findClass "com/example/sieveplan/sieveplan/plan/JoinOrderNamedPinLaw" = some m.cls := hown0
  refine OGo.go (fun t k => castTop (ef_isr m a1 x) k) ?_
  refine OGo.go (U' := T0.setTop (mkF m 1 #[.val (.ref a1), .val (.int (N x)), .unset] [(.ref a1)])) (fun _ k => XS.aloadN X0.here hx rfl (hb hby d_isr_0) rfl rfl k) ?_
  refine OGo.go (U' := T0.setTop (mkF m 2 #[.val (.ref a1), .val (.int (N x)), .unset] [(.int (N x)), (.ref a1)])) (fun _ k => XS.iloadN X0.here hx rfl (hb hby d_isr_1) rfl k) ?_
  refine OGo.callS X0 hx hZ (y := (⟨"com/example/sieveplan/sieveplan/plan/JoinOrderNamedPinLaw", "root", "([II)I"⟩ : MethodName)) hown (hw _ (List.mem_of_getElem? (i := 9) rfl)) (hw _ (List.mem_of_getElem? (i := 10) rfl)) (hw _ (List.mem_of_getElem? (i := 4) rfl)) (hw _ (List.mem_of_getElem? (i := 11) rfl)) (by decide) (g := (mkF m 2 #[.val (.ref a1), .val (.int (N x)), .unset] [(.int (N x)), (.ref a1)])) (argsL := [(.ref a1), (.int (N x))]) (rest := []) e0 (rm_root l Z a0 hw a1 x fn h0 A1 hr bx) rfl (by rw [hml]; rfl) (lenOf pd_0 rfl) rfl (W := 0) (by show 2 * 0 + _ ≤ _; exact Nat.le_of_eq rfl) (hb hby d_isr_2) (by decide) (by decide) (by decide) (by decide) ?_
  rintro _ T1 _ X1 ⟨rfl, e1, rfl⟩
  rw [List.append_nil] at X1
  refine OGo.go (U' := T1.setTop (mkF m 6 #[.val (.ref a1), .val (.int (N x)), .val (.int (N (fn (fn (fn (fn x))))))] [])) (fun _ k => XS.istoreN X1.here hx rfl (hb hby d_isr_5) rfl (l' := #[.val (.ref a1), .val (.int (N x)), .val (.int (N (fn (fn (fn (fn x))))))]) rfl k) ?_
  refine OGo.go (U' := T1.setTop (mkF m 7 #[.val (.ref a1), .val (.int (N x)), .val (.int (N (fn (fn (fn (fn x))))))] [(.ref a1)])) (fun _ k => XS.aloadN X1.here hx rfl (hb hby d_isr_6) rfl rfl k) ?_
  refine OGo.go (U' := T1.setTop (mkF m 8 #[.val (.ref a1), .val (.int (N x)), .val (.int (N (fn (fn (fn (fn x))))))] [(.int (N (fn (fn (fn (fn x)))))), (.ref a1)])) (fun _ k => XS.iloadN X1.here hx rfl (hb hby d_isr_7) rfl k) ?_
  refine OGo.go (U' := T1.setTop (mkF m 9 #[.val (.ref a1), .val (.int (N x)), .val (.int (N (fn (fn (fn (fn x))))))] [(.int (N (fn (fn (fn (fn (fn x)))))))])) (fun _ k => ON.ld X1 hx hZ e1 A1 (j := (fn (fn (fn (fn x))))) (hr _ (hr _ (hr _ (hr _ bx)))) (g := (mkF m 8 #[.val (.ref a1), .val (.int (N x)), .val (.int (N (fn (fn (fn (fn x))))))] [(.int (N (fn (fn (fn (fn x)))))), (.ref a1)])) rfl rfl (hb hby d_isr_8) _ k) ?_
  refine OGo.go (U' := T1.setTop (mkF m 10 #[.val (.ref a1), .val (.int (N x)), .val (.int (N (fn (fn (fn (fn x))))))] [(.int (N (fn (fn (fn (fn x)))))), (.int (N (fn (fn (fn (fn (fn x)))))))])) (fun _ k => XS.iloadN X1.here hx rfl (hb hby d_isr_9) rfl k) ?_
  refine OGo.ite1 (P := (fn (fn (fn (fn (fn x))))) = (fn (fn (fn (fn x))))) (fun (z4 : Int32) => T1.setTop (mkF m 18 #[.val (.ref a1), .val (.int (N x)), .val (.int (N (fn (fn (fn (fn x))))))] [(.int z4)])) (x := (N 1)) (y := (N 0)) (fun hc3 k5 => ?_) (fun hc3 k5 => ?_) ?_
  · skip
    refine OGo.go (U' := T1.setTop (mkF m 13 #[.val (.ref a1), .val (.int (N x)), .val (.int (N (fn (fn (fn (fn x))))))] [])) (fun _ k => XS.icmpNo X1.here hx rfl (hb hby d_isr_10) rfl (teq (congrArg N hc3)).2 k) ?_
    refine OGo.go (U' := T1.setTop (mkF m 14 #[.val (.ref a1), .val (.int (N x)), .val (.int (N (fn (fn (fn (fn x))))))] [(.int (N 1))])) (fun _ k => XS.iconst X1.here hx rfl (hb hby d_isr_13) k) ?_
    refine OGo.go (U' := T1.setTop (mkF m 18 #[.val (.ref a1), .val (.int (N x)), .val (.int (N (fn (fn (fn (fn x))))))] [(.int (N 1))])) (fun _ k => XS.goto X1.here hx rfl (pc0 := 14) (pc' := 18) rfl (hb hby d_isr_14) (by decide) (by decide) k) ?_
    exact k5
  · skip
    refine OGo.go (U' := T1.setTop (mkF m 17 #[.val (.ref a1), .val (.int (N x)), .val (.int (N (fn (fn (fn (fn x))))))] [])) (fun _ k => XS.icmpYes X1.here hx rfl (pc0 := 10) (pc' := 17) rfl (hb hby d_isr_10) rfl (feq (fun q => hc3 (N_inj (hr _ (hr _ (hr _ (hr _ (hr _ bx))))) (hr _ (hr _ (hr _ (hr _ bx)))) q))).2 (by decide) (by decide) k) ?_
    refine OGo.go (U' := T1.setTop (mkF m 18 #[.val (.ref a1), .val (.int (N x)), .val (.int (N (fn (fn (fn (fn x))))))] [(.int (N 0))])) (fun _ k => XS.iconst X1.here hx rfl (hb hby d_isr_17) k) ?_
    exact k5
  intro z4 hz4
  refine OGo.retN X1 hx (t := .boolean) hret hlk (by simp) (hb hby d_isr_18) ?_ (by decide) (by decide)
  refine ⟨?_, e1, rfl⟩
  subst hz4
  rfl
def F_forest (fn : Nat → Nat) : Int32 := (if (F_isr fn 0) = (0 : Int32) then (nar .boolean (N 0)) else (if (F_isr fn 1) = (0 : Int32) then (nar .boolean (N 0)) else (if (F_isr fn 2) = (0 : Int32) then (nar .boolean (N 0)) else (if (F_isr fn 3) = (0 : Int32) then (nar .boolean (N 0)) else (nar .boolean (if (F_isr fn 4) = (0 : Int32) then (N 0) else (N 1)))))))
theorem d_forest_0 : decode method_4_code 0 = .ok (.aload_n 0, 1) := by decide +kernel
theorem d_forest_1 : decode method_4_code 1 = .ok (.iconst 0, 1) := by decide +kernel
theorem d_forest_2 : decode method_4_code 2 = .ok (.invokestatic 13, 3) := by decide +kernel
theorem d_forest_5 : decode method_4_code 5 = .ok (.ifCond .eq 39, 3) := by decide +kernel
theorem d_forest_8 : decode method_4_code 8 = .ok (.aload_n 0, 1) := by decide +kernel
theorem d_forest_9 : decode method_4_code 9 = .ok (.iconst 1, 1) := by decide +kernel
theorem d_forest_10 : decode method_4_code 10 = .ok (.invokestatic 13, 3) := by decide +kernel
theorem d_forest_13 : decode method_4_code 13 = .ok (.ifCond .eq 31, 3) := by decide +kernel
theorem d_forest_16 : decode method_4_code 16 = .ok (.aload_n 0, 1) := by decide +kernel
theorem d_forest_17 : decode method_4_code 17 = .ok (.iconst 2, 1) := by decide +kernel
theorem d_forest_18 : decode method_4_code 18 = .ok (.invokestatic 13, 3) := by decide +kernel
theorem d_forest_21 : decode method_4_code 21 = .ok (.ifCond .eq 23, 3) := by decide +kernel
theorem d_forest_24 : decode method_4_code 24 = .ok (.aload_n 0, 1) := by decide +kernel
theorem d_forest_25 : decode method_4_code 25 = .ok (.iconst 3, 1) := by decide +kernel
theorem d_forest_26 : decode method_4_code 26 = .ok (.invokestatic 13, 3) := by decide +kernel
theorem d_forest_29 : decode method_4_code 29 = .ok (.ifCond .eq 15, 3) := by decide +kernel
theorem d_forest_32 : decode method_4_code 32 = .ok (.aload_n 0, 1) := by decide +kernel
theorem d_forest_33 : decode method_4_code 33 = .ok (.iconst 4, 1) := by decide +kernel
theorem d_forest_34 : decode method_4_code 34 = .ok (.invokestatic 13, 3) := by decide +kernel
theorem d_forest_37 : decode method_4_code 37 = .ok (.ifCond .eq 7, 3) := by decide +kernel
theorem d_forest_40 : decode method_4_code 40 = .ok (.iconst 1, 1) := by decide +kernel
theorem d_forest_41 : decode method_4_code 41 = .ok (.goto 4, 3) := by decide +kernel
theorem d_forest_44 : decode method_4_code 44 = .ok (.iconst 0, 1) := by decide +kernel
theorem d_forest_45 : decode method_4_code 45 = .ok (.ireturn, 1) := by decide +kernel
theorem ef_forest (m : MethodId) (a1 : Addr) : entryFrame m #[(.ref a1)] 1 = mkF m 0 #[.val (.ref a1)] [] := by first | (simp [entryFrame, mkF, argsToLocals, Value.category]; done) | rfl
theorem pn_forest : plainFor (⟨"com/example/sieveplan/sieveplan/plan/JoinOrderNamedPinLaw", "forest", "([I)Z"⟩ : MethodName) = true := by first | exact plainFor_of_name (by first | (simp [plainName, overriddenIn]; done) | decide +kernel) | decide +kernel
set_option maxRecDepth 65536 in
set_option maxHeartbeats 40000000 in
theorem rm_forest (l : Launch) (Z : State) (a0 : Array Value) (hw : ∀ d ∈ tables_1, d.before a0 Z = true) (a1 : Addr) (fn : Nat → Nat) (h0 : Heap) (A1 : ON Z h0 a1 fn) (hr : R5 fn) :
    OMet l Z (⟨"com/example/sieveplan/sieveplan/plan/JoinOrderNamedPinLaw", "forest", "([I)Z"⟩ : MethodName) method_4_code 1 (some .boolean) [] ({ frames := 2, cells := 0, slots := 0, locals := 27 } : Room) #[(.ref a1)] h0 (OPure (some (.int (F_forest fn ))) h0) := by
  refine OMet.of pn_forest ?_
  intro p e s m below meth c T0 X0 hx hby hml hown0 hnm hret hlk hZ e0
  have hown : s.vm.findClass "com/example/sieveplan/sieveplan/plan/JoinOrderNamedPinLaw" = some m.cls := hown0
  refine OGo.go (fun t k => castTop (ef_forest m a1) k) ?_
  refine OGo.go (U' := T0.setTop (mkF m 1 #[.val (.ref a1)] [(.ref a1)])) (fun _ k => XS.aloadN X0.here hx rfl (hb hby d_forest_0) rfl rfl k) ?_
  refine OGo.go (U' := T0.setTop (mkF m 2 #[.val (.ref a1)] [(.int (N 0)), (.ref a1)])) (fun _ k => XS.iconst X0.here hx rfl (hb hby d_forest_1) k) ?_
  refine OGo.callS X0 hx hZ (y := (⟨"com/example/sieveplan/sieveplan/plan/JoinOrderNamedPinLaw", "isRoot", "([II)Z"⟩ : MethodName)) hown (hw _ (List.mem_of_getElem? (i := 6) rfl)) (hw _ (List.mem_of_getElem? (i := 7) rfl)) (hw _ (List.mem_of_getElem? (i := 4) rfl)) (hw _ (List.mem_of_getElem? (i := 8) rfl)) (by decide) (g := (mkF m 2 #[.val (.ref a1)] [(.int (N 0)), (.ref a1)])) (argsL := [(.ref a1), (.int (N 0))]) (rest := []) e0 (rm_isr l Z a0 hw a1 0 fn h0 A1 hr (by decide)) rfl (by rw [hml]; rfl) (lenOf pd_1 rfl) rfl (W := 0) (by show 2 * 0 + _ ≤ _; exact Nat.le_of_eq rfl) (hb hby d_forest_2) (by decide) (by decide) (by decide) (by decide) ?_
  rintro _ T1 _ X1 ⟨rfl, e1, rfl⟩
  rw [List.append_nil] at X1
  refine OGo.nm (fun (y2 : Int32) => T1.setTop (mkF m 5 #[.val (.ref a1)] [(.int y2)])) (x := (F_isr fn 0)) (fun y2 hy2 => ?_)
  by_cases hc3 : y2 = (0 : Int32)
  · skip
    refine OGo.go (U' := T1.setTop (mkF m 44 #[.val (.ref a1)] [])) (fun _ k => XS.ifYes X1.here hx rfl (pc0 := 5) (pc' := 44) rfl (hb hby d_forest_5) rfl ((if0 _ _).trans (teq hc3).1) (by decide) (by decide) k) ?_
    refine OGo.go (U' := T1.setTop (mkF m 45 #[.val (.ref a1)] [(.int (N 0))])) (fun _ k => XS.iconst X1.here hx rfl (hb hby d_forest_44) k) ?_
    refine OGo.retN X1 hx (t := .boolean) hret hlk (by simp) (hb hby d_forest_45) ?_ (by decide) (by decide)
    refine ⟨?_, e1, rfl⟩
    subst hy2
    rw [F_forest]
    rw [if_pos hc3]
  · skip
    refine OGo.go (U' := T1.setTop (mkF m 8 #[.val (.ref a1)] [])) (fun _ k => XS.ifNo X1.here hx rfl (hb hby d_forest_5) rfl ((if0 _ _).trans (feq hc3).1) k) ?_
    refine OGo.go (U' := T1.setTop (mkF m 9 #[.val (.ref a1)] [(.ref a1)])) (fun _ k => XS.aloadN X1.here hx rfl (hb hby d_forest_8) rfl rfl k) ?_
    refine OGo.go (U' := T1.setTop (mkF m 10 #[.val (.ref a1)] [(.int (N 1)), (.ref a1)])) (fun _ k => XS.iconst X1.here hx rfl (hb hby d_forest_9) k) ?_
    refine OGo.callS X1 hx hZ (y := (⟨"com/example/sieveplan/sieveplan/plan/JoinOrderNamedPinLaw", "isRoot", "([II)Z"⟩ : MethodName)) hown (hw _ (List.mem_of_getElem? (i := 6) rfl)) (hw _ (List.mem_of_getElem? (i := 7) rfl)) (hw _ (List.mem_of_getElem? (i := 4) rfl)) (hw _ (List.mem_of_getElem? (i := 8) rfl)) (by decide) (g := (mkF m 10 #[.val (.ref a1)] [(.int (N 1)), (.ref a1)])) (argsL := [(.ref a1), (.int (N 1))]) (rest := []) e1 (rm_isr l Z a0 hw a1 1 fn h0 A1 hr (by decide)) rfl (by rw [hml]; rfl) (lenOf pd_1 rfl) rfl (W := 0) (by show 2 * 0 + _ ≤ _; exact Nat.le_of_eq rfl) (hb hby d_forest_10) (by decide) (by decide) (by decide) (by decide) ?_
    rintro _ T4 _ X4 ⟨rfl, e4, rfl⟩
    rw [List.append_nil] at X4
    refine OGo.nm (fun (y5 : Int32) => T4.setTop (mkF m 13 #[.val (.ref a1)] [(.int y5)])) (x := (F_isr fn 1)) (fun y5 hy5 => ?_)
    by_cases hc6 : y5 = (0 : Int32)
    · skip
      refine OGo.go (U' := T4.setTop (mkF m 44 #[.val (.ref a1)] [])) (fun _ k => XS.ifYes X4.here hx rfl (pc0 := 13) (pc' := 44) rfl (hb hby d_forest_13) rfl ((if0 _ _).trans (teq hc6).1) (by decide) (by decide) k) ?_
      refine OGo.go (U' := T4.setTop (mkF m 45 #[.val (.ref a1)] [(.int (N 0))])) (fun _ k => XS.iconst X4.here hx rfl (hb hby d_forest_44) k) ?_
      refine OGo.retN X4 hx (t := .boolean) hret hlk (by simp) (hb hby d_forest_45) ?_ (by decide) (by decide)
      refine ⟨?_, e4, rfl⟩
      subst hy2
      subst hy5
      rw [F_forest]
      rw [if_neg hc3]
      rw [if_pos hc6]
    · skip
      refine OGo.go (U' := T4.setTop (mkF m 16 #[.val (.ref a1)] [])) (fun _ k => XS.ifNo X4.here hx rfl (hb hby d_forest_13) rfl ((if0 _ _).trans (feq hc6).1) k) ?_
      refine OGo.go (U' := T4.setTop (mkF m 17 #[.val (.ref a1)] [(.ref a1)])) (fun _ k => XS.aloadN X4.here hx rfl (hb hby d_forest_16) rfl rfl k) ?_
      refine OGo.go (U' := T4.setTop (mkF m 18 #[.val (.ref a1)] [(.int (N 2)), (.ref a1)])) (fun _ k => XS.iconst X4.here hx rfl (hb hby d_forest_17) k) ?_
      refine OGo.callS X4 hx hZ (y := (⟨"com/example/sieveplan/sieveplan/plan/JoinOrderNamedPinLaw", "isRoot", "([II)Z"⟩ : MethodName)) hown (hw _ (List.mem_of_getElem? (i := 6) rfl)) (hw _ (List.mem_of_getElem? (i := 7) rfl)) (hw _ (List.mem_of_getElem? (i := 4) rfl)) (hw _ (List.mem_of_getElem? (i := 8) rfl)) (by decide) (g := (mkF m 18 #[.val (.ref a1)] [(.int (N 2)), (.ref a1)])) (argsL := [(.ref a1), (.int (N 2))]) (rest := []) e4 (rm_isr l Z a0 hw a1 2 fn h0 A1 hr (by decide)) rfl (by rw [hml]; rfl) (lenOf pd_1 rfl) rfl (W := 0) (by show 2 * 0 + _ ≤ _; exact Nat.le_of_eq rfl) (hb hby d_forest_18) (by decide) (by decide) (by decide) (by decide) ?_
      rintro _ T7 _ X7 ⟨rfl, e7, rfl⟩
      rw [List.append_nil] at X7
      refine OGo.nm (fun (y8 : Int32) => T7.setTop (mkF m 21 #[.val (.ref a1)] [(.int y8)])) (x := (F_isr fn 2)) (fun y8 hy8 => ?_)
      by_cases hc9 : y8 = (0 : Int32)
      · skip
        refine OGo.go (U' := T7.setTop (mkF m 44 #[.val (.ref a1)] [])) (fun _ k => XS.ifYes X7.here hx rfl (pc0 := 21) (pc' := 44) rfl (hb hby d_forest_21) rfl ((if0 _ _).trans (teq hc9).1) (by decide) (by decide) k) ?_
        refine OGo.go (U' := T7.setTop (mkF m 45 #[.val (.ref a1)] [(.int (N 0))])) (fun _ k => XS.iconst X7.here hx rfl (hb hby d_forest_44) k) ?_
        refine OGo.retN X7 hx (t := .boolean) hret hlk (by simp) (hb hby d_forest_45) ?_ (by decide) (by decide)
        refine ⟨?_, e7, rfl⟩
        subst hy2
        subst hy5
        subst hy8
        rw [F_forest]
        rw [if_neg hc3]
        rw [if_neg hc6]
        rw [if_pos hc9]
      · skip
        refine OGo.go (U' := T7.setTop (mkF m 24 #[.val (.ref a1)] [])) (fun _ k => XS.ifNo X7.here hx rfl (hb hby d_forest_21) rfl ((if0 _ _).trans (feq hc9).1) k) ?_
        refine OGo.go (U' := T7.setTop (mkF m 25 #[.val (.ref a1)] [(.ref a1)])) (fun _ k => XS.aloadN X7.here hx rfl (hb hby d_forest_24) rfl rfl k) ?_
        refine OGo.go (U' := T7.setTop (mkF m 26 #[.val (.ref a1)] [(.int (N 3)), (.ref a1)])) (fun _ k => XS.iconst X7.here hx rfl (hb hby d_forest_25) k) ?_
        refine OGo.callS X7 hx hZ (y := (⟨"com/example/sieveplan/sieveplan/plan/JoinOrderNamedPinLaw", "isRoot", "([II)Z"⟩ : MethodName)) hown (hw _ (List.mem_of_getElem? (i := 6) rfl)) (hw _ (List.mem_of_getElem? (i := 7) rfl)) (hw _ (List.mem_of_getElem? (i := 4) rfl)) (hw _ (List.mem_of_getElem? (i := 8) rfl)) (by decide) (g := (mkF m 26 #[.val (.ref a1)] [(.int (N 3)), (.ref a1)])) (argsL := [(.ref a1), (.int (N 3))]) (rest := []) e7 (rm_isr l Z a0 hw a1 3 fn h0 A1 hr (by decide)) rfl (by rw [hml]; rfl) (lenOf pd_1 rfl) rfl (W := 0) (by show 2 * 0 + _ ≤ _; exact Nat.le_of_eq rfl) (hb hby d_forest_26) (by decide) (by decide) (by decide) (by decide) ?_
        rintro _ T10 _ X10 ⟨rfl, e10, rfl⟩
        rw [List.append_nil] at X10
        refine OGo.nm (fun (y11 : Int32) => T10.setTop (mkF m 29 #[.val (.ref a1)] [(.int y11)])) (x := (F_isr fn 3)) (fun y11 hy11 => ?_)
        by_cases hc12 : y11 = (0 : Int32)
        · skip
          refine OGo.go (U' := T10.setTop (mkF m 44 #[.val (.ref a1)] [])) (fun _ k => XS.ifYes X10.here hx rfl (pc0 := 29) (pc' := 44) rfl (hb hby d_forest_29) rfl ((if0 _ _).trans (teq hc12).1) (by decide) (by decide) k) ?_
          refine OGo.go (U' := T10.setTop (mkF m 45 #[.val (.ref a1)] [(.int (N 0))])) (fun _ k => XS.iconst X10.here hx rfl (hb hby d_forest_44) k) ?_
          refine OGo.retN X10 hx (t := .boolean) hret hlk (by simp) (hb hby d_forest_45) ?_ (by decide) (by decide)
          refine ⟨?_, e10, rfl⟩
          subst hy2
          subst hy5
          subst hy8
          subst hy11
          rw [F_forest]
          rw [if_neg hc3]
          rw [if_neg hc6]
          rw [if_neg hc9]
          rw [if_pos hc12]
        · skip
          refine OGo.go (U' := T10.setTop (mkF m 32 #[.val (.ref a1)] [])) (fun _ k => XS.ifNo X10.here hx rfl (hb hby d_forest_29) rfl ((if0 _ _).trans (feq hc12).1) k) ?_
          refine OGo.go (U' := T10.setTop (mkF m 33 #[.val (.ref a1)] [(.ref a1)])) (fun _ k => XS.aloadN X10.here hx rfl (hb hby d_forest_32) rfl rfl k) ?_
          refine OGo.go (U' := T10.setTop (mkF m 34 #[.val (.ref a1)] [(.int (N 4)), (.ref a1)])) (fun _ k => XS.iconst X10.here hx rfl (hb hby d_forest_33) k) ?_
          refine OGo.callS X10 hx hZ (y := (⟨"com/example/sieveplan/sieveplan/plan/JoinOrderNamedPinLaw", "isRoot", "([II)Z"⟩ : MethodName)) hown (hw _ (List.mem_of_getElem? (i := 6) rfl)) (hw _ (List.mem_of_getElem? (i := 7) rfl)) (hw _ (List.mem_of_getElem? (i := 4) rfl)) (hw _ (List.mem_of_getElem? (i := 8) rfl)) (by decide) (g := (mkF m 34 #[.val (.ref a1)] [(.int (N 4)), (.ref a1)])) (argsL := [(.ref a1), (.int (N 4))]) (rest := []) e10 (rm_isr l Z a0 hw a1 4 fn h0 A1 hr (by decide)) rfl (by rw [hml]; rfl) (lenOf pd_1 rfl) rfl (W := 0) (by show 2 * 0 + _ ≤ _; exact Nat.le_of_eq rfl) (hb hby d_forest_34) (by decide) (by decide) (by decide) (by decide) ?_
          rintro _ T13 _ X13 ⟨rfl, e13, rfl⟩
          rw [List.append_nil] at X13
          refine OGo.nm (fun (y14 : Int32) => T13.setTop (mkF m 37 #[.val (.ref a1)] [(.int y14)])) (x := (F_isr fn 4)) (fun y14 hy14 => ?_)
          refine OGo.ite1 (P := y14 = (0 : Int32)) (fun (z16 : Int32) => T13.setTop (mkF m 45 #[.val (.ref a1)] [(.int z16)])) (x := (N 0)) (y := (N 1)) (fun hc15 k17 => ?_) (fun hc15 k17 => ?_) ?_
          · skip
            refine OGo.go (U' := T13.setTop (mkF m 44 #[.val (.ref a1)] [])) (fun _ k => XS.ifYes X13.here hx rfl (pc0 := 37) (pc' := 44) rfl (hb hby d_forest_37) rfl ((if0 _ _).trans (teq hc15).1) (by decide) (by decide) k) ?_
            refine OGo.go (U' := T13.setTop (mkF m 45 #[.val (.ref a1)] [(.int (N 0))])) (fun _ k => XS.iconst X13.here hx rfl (hb hby d_forest_44) k) ?_
            exact k17
          · skip
            refine OGo.go (U' := T13.setTop (mkF m 40 #[.val (.ref a1)] [])) (fun _ k => XS.ifNo X13.here hx rfl (hb hby d_forest_37) rfl ((if0 _ _).trans (feq hc15).1) k) ?_
            refine OGo.go (U' := T13.setTop (mkF m 41 #[.val (.ref a1)] [(.int (N 1))])) (fun _ k => XS.iconst X13.here hx rfl (hb hby d_forest_40) k) ?_
            refine OGo.go (U' := T13.setTop (mkF m 45 #[.val (.ref a1)] [(.int (N 1))])) (fun _ k => XS.goto X13.here hx rfl (pc0 := 41) (pc' := 45) rfl (hb hby d_forest_41) (by decide) (by decide) k) ?_
            exact k17
          intro z16 hz16
          refine OGo.retN X13 hx (t := .boolean) hret hlk (by simp) (hb hby d_forest_45) ?_ (by decide) (by decide)
          refine ⟨?_, e13, rfl⟩
          subst hy2
          subst hy5
          subst hy8
          subst hy11
          subst hy14
          subst hz16
          rw [F_forest]
          rw [if_neg hc3]
          rw [if_neg hc6]
          rw [if_neg hc9]
          rw [if_neg hc12]
def F_depth (fn : Nat → Nat) (x : Nat) : Int32 := (if (fn x) = x then (if (fn x) = x then (if (fn x) = x then (if (fn x) = x then (N 0) else ((N 0) + (1 : Int32))) else (if (fn (fn x)) = (fn x) then ((N 0) + (1 : Int32)) else (((N 0) + (1 : Int32)) + (1 : Int32)))) else (if (fn (fn x)) = (fn x) then (if (fn (fn x)) = (fn x) then ((N 0) + (1 : Int32)) else (((N 0) + (1 : Int32)) + (1 : Int32))) else (if (fn (fn (fn x))) = (fn (fn x)) then (((N 0) + (1 : Int32)) + (1 : Int32)) else ((((N 0) + (1 : Int32)) + (1 : Int32)) + (1 : Int32))))) else (if (fn (fn x)) = (fn x) then (if (fn (fn x)) = (fn x) then (if (fn (fn x)) = (fn x) then ((N 0) + (1 : Int32)) else (((N 0) + (1 : Int32)) + (1 : Int32))) else (if (fn (fn (fn x))) = (fn (fn x)) then (((N 0) + (1 : Int32)) + (1 : Int32)) else ((((N 0) + (1 : Int32)) + (1 : Int32)) + (1 : Int32)))) else (if (fn (fn (fn x))) = (fn (fn x)) then (if (fn (fn (fn x))) = (fn (fn x)) then (((N 0) + (1 : Int32)) + (1 : Int32)) else ((((N 0) + (1 : Int32)) + (1 : Int32)) + (1 : Int32))) else (if (fn (fn (fn (fn x)))) = (fn (fn (fn x))) then ((((N 0) + (1 : Int32)) + (1 : Int32)) + (1 : Int32)) else (((((N 0) + (1 : Int32)) + (1 : Int32)) + (1 : Int32)) + (1 : Int32))))))
theorem d_depth_0 : decode method_6_code 0 = .ok (.iconst 0, 1) := by decide +kernel
theorem d_depth_1 : decode method_6_code 1 = .ok (.istore_n 2, 1) := by decide +kernel
theorem d_depth_2 : decode method_6_code 2 = .ok (.iload_n 1, 1) := by decide +kernel
theorem d_depth_3 : decode method_6_code 3 = .ok (.istore_n 3, 1) := by decide +kernel
theorem d_depth_4 : decode method_6_code 4 = .ok (.aload_n 0, 1) := by decide +kernel
theorem d_depth_5 : decode method_6_code 5 = .ok (.iload_n 3, 1) := by decide +kernel
theorem d_depth_6 : decode method_6_code 6 = .ok (.iaload, 1) := by decide +kernel
theorem d_depth_7 : decode method_6_code 7 = .ok (.iload_n 3, 1) := by decide +kernel
theorem d_depth_8 : decode method_6_code 8 = .ok (.if_icmp .eq 10, 3) := by decide +kernel
theorem d_depth_11 : decode method_6_code 11 = .ok (.iinc 2 1, 3) := by decide +kernel
theorem d_depth_14 : decode method_6_code 14 = .ok (.aload_n 0, 1) := by decide +kernel
theorem d_depth_15 : decode method_6_code 15 = .ok (.iload_n 3, 1) := by decide +kernel
theorem d_depth_16 : decode method_6_code 16 = .ok (.iaload, 1) := by decide +kernel
theorem d_depth_17 : decode method_6_code 17 = .ok (.istore_n 3, 1) := by decide +kernel
theorem d_depth_18 : decode method_6_code 18 = .ok (.aload_n 0, 1) := by decide +kernel
theorem d_depth_19 : decode method_6_code 19 = .ok (.iload_n 3, 1) := by decide +kernel
theorem d_depth_20 : decode method_6_code 20 = .ok (.iaload, 1) := by decide +kernel
theorem d_depth_21 : decode method_6_code 21 = .ok (.iload_n 3, 1) := by decide +kernel
theorem d_depth_22 : decode method_6_code 22 = .ok (.if_icmp .eq 10, 3) := by decide +kernel
theorem d_depth_25 : decode method_6_code 25 = .ok (.iinc 2 1, 3) := by decide +kernel
theorem d_depth_28 : decode method_6_code 28 = .ok (.aload_n 0, 1) := by decide +kernel
theorem d_depth_29 : decode method_6_code 29 = .ok (.iload_n 3, 1) := by decide +kernel
theorem d_depth_30 : decode method_6_code 30 = .ok (.iaload, 1) := by decide +kernel
theorem d_depth_31 : decode method_6_code 31 = .ok (.istore_n 3, 1) := by decide +kernel
theorem d_depth_32 : decode method_6_code 32 = .ok (.aload_n 0, 1) := by decide +kernel
theorem d_depth_33 : decode method_6_code 33 = .ok (.iload_n 3, 1) := by decide +kernel
theorem d_depth_34 : decode method_6_code 34 = .ok (.iaload, 1) := by decide +kernel
theorem d_depth_35 : decode method_6_code 35 = .ok (.iload_n 3, 1) := by decide +kernel
theorem d_depth_36 : decode method_6_code 36 = .ok (.if_icmp .eq 10, 3) := by decide +kernel
theorem d_depth_39 : decode method_6_code 39 = .ok (.iinc 2 1, 3) := by decide +kernel
theorem d_depth_42 : decode method_6_code 42 = .ok (.aload_n 0, 1) := by decide +kernel
theorem d_depth_43 : decode method_6_code 43 = .ok (.iload_n 3, 1) := by decide +kernel
theorem d_depth_44 : decode method_6_code 44 = .ok (.iaload, 1) := by decide +kernel
theorem d_depth_45 : decode method_6_code 45 = .ok (.istore_n 3, 1) := by decide +kernel
theorem d_depth_46 : decode method_6_code 46 = .ok (.aload_n 0, 1) := by decide +kernel
theorem d_depth_47 : decode method_6_code 47 = .ok (.iload_n 3, 1) := by decide +kernel
theorem d_depth_48 : decode method_6_code 48 = .ok (.iaload, 1) := by decide +kernel
theorem d_depth_49 : decode method_6_code 49 = .ok (.iload_n 3, 1) := by decide +kernel
theorem d_depth_50 : decode method_6_code 50 = .ok (.if_icmp .eq 10, 3) := by decide +kernel
theorem d_depth_53 : decode method_6_code 53 = .ok (.iinc 2 1, 3) := by decide +kernel
theorem d_depth_56 : decode method_6_code 56 = .ok (.aload_n 0, 1) := by decide +kernel
theorem d_depth_57 : decode method_6_code 57 = .ok (.iload_n 3, 1) := by decide +kernel
theorem d_depth_58 : decode method_6_code 58 = .ok (.iaload, 1) := by decide +kernel
theorem d_depth_59 : decode method_6_code 59 = .ok (.istore_n 3, 1) := by decide +kernel
theorem d_depth_60 : decode method_6_code 60 = .ok (.iload_n 2, 1) := by decide +kernel
theorem d_depth_61 : decode method_6_code 61 = .ok (.ireturn, 1) := by decide +kernel
theorem ef_depth (m : MethodId) (a1 : Addr) (x : Nat) : entryFrame m #[(.ref a1), (.int (N x))] 4 = mkF m 0 #[.val (.ref a1), .val (.int (N x)), .unset, .unset] [] := by first | (simp [entryFrame, mkF, argsToLocals, Value.category]; done) | rfl
theorem pn_depth : plainFor (⟨"com/example/sieveplan/sieveplan/plan/JoinOrderNamedPinLaw", "depth", "([II)I"⟩ : MethodName) = true := by first | exact plainFor_of_name (by first | (simp [plainName, overriddenIn]; done) | decide +kernel) | decide +kernel
set_option maxRecDepth 65536 in
set_option maxHeartbeats 40000000 in
theorem rm_depth (l : Launch) (Z : State) (a0 : Array Value) (hw : ∀ d ∈ tables_1, d.before a0 Z = true) (a1 : Addr) (x : Nat) (fn : Nat → Nat) (h0 : Heap) (A1 : ON Z h0 a1 fn) (hr : R5 fn) (bx : x < 5) :
    OMet l Z (⟨"com/example/sieveplan/sieveplan/plan/JoinOrderNamedPinLaw", "depth", "([II)I"⟩ : MethodName) method_6_code 4 (some .int) [] ({ frames := 0, cells := 0, slots := 0, locals := 0 } : Room) #[(.ref a1), (.int (N x))] h0 (OPure (some (.int (F_depth fn x))) h0) := by
  refine OMet.of pn_depth ?_
  intro p e s m below meth c T0 X0 hx hby hml hown0 hnm hret hlk hZ e0
  have hown : s.vm.findClass "com/example/sieveplan/sieveplan/plan/JoinOrderNamedPinLaw" = some m.cls := hown0
  refine OGo.go (fun t k => castTop (ef_depth m a1 x) k) ?_
  refine OGo.go (U' := T0.setTop (mkF m 1 #[.val (.ref a1), .val (.int (N x)), .unset, .unset] [(.int (N 0))])) (fun _ k => XS.iconst X0.here hx rfl (hb hby d_depth_0) k) ?_
  refine OGo.go (U' := T0.setTop (mkF m 2 #[.val (.ref a1), .val (.int (N x)), .val (.int (N 0)), .unset] [])) (fun _ k => XS.istoreN X0.here hx rfl (hb hby d_depth_1) rfl (l' := #[.val (.ref a1), .val (.int (N x)), .val (.int (N 0)), .unset]) rfl k) ?_
  refine OGo.go (U' := T0.setTop (mkF m 3 #[.val (.ref a1), .val (.int (N x)), .val (.int (N 0)), .unset] [(.int (N x))])) (fun _ k => XS.iloadN X0.here hx rfl (hb hby d_depth_2) rfl k) ?_
  refine OGo.go (U' := T0.setTop (mkF m 4 #[.val (.ref a1), .val (.int (N x)), .val (.int (N 0)), .val (.int (N x))] [])) (fun _ k => XS.istoreN X0.here hx rfl (hb hby d_depth_3) rfl (l' := #[.val (.ref a1), .val (.int (N x)), .val (.int (N 0)), .val (.int (N x))]) rfl k) ?_
  refine OGo.go (U' := T0.setTop (mkF m 5 #[.val (.ref a1), .val (.int (N x)), .val (.int (N 0)), .val (.int (N x))] [(.ref a1)])) (fun _ k => XS.aloadN X0.here hx rfl (hb hby d_depth_4) rfl rfl k) ?_
  refine OGo.go (U' := T0.setTop (mkF m 6 #[.val (.ref a1), .val (.int (N x)), .val (.int (N 0)), .val (.int (N x))] [(.int (N x)), (.ref a1)])) (fun _ k => XS.iloadN X0.here hx rfl (hb hby d_depth_5) rfl k) ?_
  refine OGo.go (U' := T0.setTop (mkF m 7 #[.val (.ref a1), .val (.int (N x)), .val (.int (N 0)), .val (.int (N x))] [(.int (N (fn x)))])) (fun _ k => ON.ld X0 hx hZ e0 A1 (j := x) bx (g := (mkF m 6 #[.val (.ref a1), .val (.int (N x)), .val (.int (N 0)), .val (.int (N x))] [(.int (N x)), (.ref a1)])) rfl rfl (hb hby d_depth_6) _ k) ?_
  refine OGo.go (U' := T0.setTop (mkF m 8 #[.val (.ref a1), .val (.int (N x)), .val (.int (N 0)), .val (.int (N x))] [(.int (N x)), (.int (N (fn x)))])) (fun _ k => XS.iloadN X0.here hx rfl (hb hby d_depth_7) rfl k) ?_
  by_cases hc2 : (fn x) = x
  · skip
    refine OGo.go (U' := T0.setTop (mkF m 18 #[.val (.ref a1), .val (.int (N x)), .val (.int (N 0)), .val (.int (N x))] [])) (fun _ k => XS.icmpYes X0.here hx rfl (pc0 := 8) (pc' := 18) rfl (hb hby d_depth_8) rfl (teq (congrArg N hc2)).1 (by decide) (by decide) k) ?_
    refine OGo.go (U' := T0.setTop (mkF m 19 #[.val (.ref a1), .val (.int (N x)), .val (.int (N 0)), .val (.int (N x))] [(.ref a1)])) (fun _ k => XS.aloadN X0.here hx rfl (hb hby d_depth_18) rfl rfl k) ?_
    refine OGo.go (U' := T0.setTop (mkF m 20 #[.val (.ref a1), .val (.int (N x)), .val (.int (N 0)), .val (.int (N x))] [(.int (N x)), (.ref a1)])) (fun _ k => XS.iloadN X0.here hx rfl (hb hby d_depth_19) rfl k) ?_
    refine OGo.go (U' := T0.setTop (mkF m 21 #[.val (.ref a1), .val (.int (N x)), .val (.int (N 0)), .val (.int (N x))] [(.int (N (fn x)))])) (fun _ k => ON.ld X0 hx hZ e0 A1 (j := x) bx (g := (mkF m 20 #[.val (.ref a1), .val (.int (N x)), .val (.int (N 0)), .val (.int (N x))] [(.int (N x)), (.ref a1)])) rfl rfl (hb hby d_depth_20) _ k) ?_
    refine OGo.go (U' := T0.setTop (mkF m 22 #[.val (.ref a1), .val (.int (N x)), .val (.int (N 0)), .val (.int (N x))] [(.int (N x)), (.int (N (fn x)))])) (fun _ k => XS.iloadN X0.here hx rfl (hb hby d_depth_21) rfl k) ?_
    by_cases hc4 : (fn x) = x
    · skip
      refine OGo.go (U' := T0.setTop (mkF m 32 #[.val (.ref a1), .val (.int (N x)), .val (.int (N 0)), .val (.int (N x))] [])) (fun _ k => XS.icmpYes X0.here hx rfl (pc0 := 22) (pc' := 32) rfl (hb hby d_depth_22) rfl (teq (congrArg N hc4)).1 (by decide) (by decide) k) ?_
      refine OGo.go (U' := T0.setTop (mkF m 33 #[.val (.ref a1), .val (.int (N x)), .val (.int (N 0)), .val (.int (N x))] [(.ref a1)])) (fun _ k => XS.aloadN X0.here hx rfl (hb hby d_depth_32) rfl rfl k) ?_
      refine OGo.go (U' := T0.setTop (mkF m 34 #[.val (.ref a1), .val (.int (N x)), .val (.int (N 0)), .val (.int (N x))] [(.int (N x)), (.ref a1)])) (fun _ k => XS.iloadN X0.here hx rfl (hb hby d_depth_33) rfl k) ?_
      refine OGo.go (U' := T0.setTop (mkF m 35 #[.val (.ref a1), .val (.int (N x)), .val (.int (N 0)), .val (.int (N x))] [(.int (N (fn x)))])) (fun _ k => ON.ld X0 hx hZ e0 A1 (j := x) bx (g := (mkF m 34 #[.val (.ref a1), .val (.int (N x)), .val (.int (N 0)), .val (.int (N x))] [(.int (N x)), (.ref a1)])) rfl rfl (hb hby d_depth_34) _ k) ?_
      refine OGo.go (U' := T0.setTop (mkF m 36 #[.val (.ref a1), .val (.int (N x)), .val (.int (N 0)), .val (.int (N x))] [(.int (N x)), (.int (N (fn x)))])) (fun _ k => XS.iloadN X0.here hx rfl (hb hby d_depth_35) rfl k) ?_
      by_cases hc6 : (fn x) = x
      · skip
        refine OGo.go (U' := T0.setTop (mkF m 46 #[.val (.ref a1), .val (.int (N x)), .val (.int (N 0)), .val (.int (N x))] [])) (fun _ k => XS.icmpYes X0.here hx rfl (pc0 := 36) (pc' := 46) rfl (hb hby d_depth_36) rfl (teq (congrArg N hc6)).1 (by decide) (by decide) k) ?_
        refine OGo.go (U' := T0.setTop (mkF m 47 #[.val (.ref a1), .val (.int (N x)), .val (.int (N 0)), .val (.int (N x))] [(.ref a1)])) (fun _ k => XS.aloadN X0.here hx rfl (hb hby d_depth_46) rfl rfl k) ?_
        refine OGo.go (U' := T0.setTop (mkF m 48 #[.val (.ref a1), .val (.int (N x)), .val (.int (N 0)), .val (.int (N x))] [(.int (N x)), (.ref a1)])) (fun _ k => XS.iloadN X0.here hx rfl (hb hby d_depth_47) rfl k) ?_
        refine OGo.go (U' := T0.setTop (mkF m 49 #[.val (.ref a1), .val (.int (N x)), .val (.int (N 0)), .val (.int (N x))] [(.int (N (fn x)))])) (fun _ k => ON.ld X0 hx hZ e0 A1 (j := x) bx (g := (mkF m 48 #[.val (.ref a1), .val (.int (N x)), .val (.int (N 0)), .val (.int (N x))] [(.int (N x)), (.ref a1)])) rfl rfl (hb hby d_depth_48) _ k) ?_
        refine OGo.go (U' := T0.setTop (mkF m 50 #[.val (.ref a1), .val (.int (N x)), .val (.int (N 0)), .val (.int (N x))] [(.int (N x)), (.int (N (fn x)))])) (fun _ k => XS.iloadN X0.here hx rfl (hb hby d_depth_49) rfl k) ?_
        by_cases hc8 : (fn x) = x
        · skip
          refine OGo.go (U' := T0.setTop (mkF m 60 #[.val (.ref a1), .val (.int (N x)), .val (.int (N 0)), .val (.int (N x))] [])) (fun _ k => XS.icmpYes X0.here hx rfl (pc0 := 50) (pc' := 60) rfl (hb hby d_depth_50) rfl (teq (congrArg N hc8)).1 (by decide) (by decide) k) ?_
          refine OGo.go (U' := T0.setTop (mkF m 61 #[.val (.ref a1), .val (.int (N x)), .val (.int (N 0)), .val (.int (N x))] [(.int (N 0))])) (fun _ k => XS.iloadN X0.here hx rfl (hb hby d_depth_60) rfl k) ?_
          refine OGo.retI X0 hx hret hlk (hb hby d_depth_61) ?_ (by decide) (by decide)
          refine ⟨?_, e0, rfl⟩
          rw [F_depth]
          rw [if_pos hc2]
          rw [if_pos hc4]
          rw [if_pos hc6]
          rw [if_pos hc8]
        · skip
          refine OGo.go (U' := T0.setTop (mkF m 53 #[.val (.ref a1), .val (.int (N x)), .val (.int (N 0)), .val (.int (N x))] [])) (fun _ k => XS.icmpNo X0.here hx rfl (hb hby d_depth_50) rfl (feq (fun q => hc8 (N_inj (hr _ bx) bx q))).1 k) ?_
          refine OGo.go (U' := T0.setTop (mkF m 56 #[.val (.ref a1), .val (.int (N x)), .val (.int ((N 0) + (1 : Int32))), .val (.int (N x))] [])) (fun _ k => XS.iinc X0.here hx rfl (hb hby d_depth_53) rfl (l' := #[.val (.ref a1), .val (.int (N x)), .val (.int ((N 0) + (1 : Int32))), .val (.int (N x))]) rfl k) ?_
          refine OGo.go (U' := T0.setTop (mkF m 57 #[.val (.ref a1), .val (.int (N x)), .val (.int ((N 0) + (1 : Int32))), .val (.int (N x))] [(.ref a1)])) (fun _ k => XS.aloadN X0.here hx rfl (hb hby d_depth_56) rfl rfl k) ?_
          refine OGo.go (U' := T0.setTop (mkF m 58 #[.val (.ref a1), .val (.int (N x)), .val (.int ((N 0) + (1 : Int32))), .val (.int (N x))] [(.int (N x)), (.ref a1)])) (fun _ k => XS.iloadN X0.here hx rfl (hb hby d_depth_57) rfl k) ?_
          refine OGo.go (U' := T0.setTop (mkF m 59 #[.val (.ref a1), .val (.int (N x)), .val (.int ((N 0) + (1 : Int32))), .val (.int (N x))] [(.int (N (fn x)))])) (fun _ k => ON.ld X0 hx hZ e0 A1 (j := x) bx (g := (mkF m 58 #[.val (.ref a1), .val (.int (N x)), .val (.int ((N 0) + (1 : Int32))), .val (.int (N x))] [(.int (N x)), (.ref a1)])) rfl rfl (hb hby d_depth_58) _ k) ?_
          refine OGo.go (U' := T0.setTop (mkF m 60 #[.val (.ref a1), .val (.int (N x)), .val (.int ((N 0) + (1 : Int32))), .val (.int (N (fn x)))] [])) (fun _ k => XS.istoreN X0.here hx rfl (hb hby d_depth_59) rfl (l' := #[.val (.ref a1), .val (.int (N x)), .val (.int ((N 0) + (1 : Int32))), .val (.int (N (fn x)))]) rfl k) ?_
          refine OGo.go (U' := T0.setTop (mkF m 61 #[.val (.ref a1), .val (.int (N x)), .val (.int ((N 0) + (1 : Int32))), .val (.int (N (fn x)))] [(.int ((N 0) + (1 : Int32)))])) (fun _ k => XS.iloadN X0.here hx rfl (hb hby d_depth_60) rfl k) ?_
          refine OGo.retI X0 hx hret hlk (hb hby d_depth_61) ?_ (by decide) (by decide)
          refine ⟨?_, e0, rfl⟩
          rw [F_depth]
          rw [if_pos hc2]
          rw [if_pos hc4]
          rw [if_pos hc6]
          rw [if_neg hc8]
      · skip
        refine OGo.go (U' := T0.setTop (mkF m 39 #[.val (.ref a1), .val (.int (N x)), .val (.int (N 0)), .val (.int (N x))] [])) (fun _ k => XS.icmpNo X0.here hx rfl (hb hby d_depth_36) rfl (feq (fun q => hc6 (N_inj (hr _ bx) bx q))).1 k) ?_
        refine OGo.go (U' := T0.setTop (mkF m 42 #[.val (.ref a1), .val (.int (N x)), .val (.int ((N 0) + (1 : Int32))), .val (.int (N x))] [])) (fun _ k => XS.iinc X0.here hx rfl (hb hby d_depth_39) rfl (l' := #[.val (.ref a1), .val (.int (N x)), .val (.int ((N 0) + (1 : Int32))), .val (.int (N x))]) rfl k) ?_
        refine OGo.go (U' := T0.setTop (mkF m 43 #[.val (.ref a1), .val (.int (N x)), .val (.int ((N 0) + (1 : Int32))), .val (.int (N x))] [(.ref a1)])) (fun _ k => XS.aloadN X0.here hx rfl (hb hby d_depth_42) rfl rfl k) ?_
        refine OGo.go (U' := T0.setTop (mkF m 44 #[.val (.ref a1), .val (.int (N x)), .val (.int ((N 0) + (1 : Int32))), .val (.int (N x))] [(.int (N x)), (.ref a1)])) (fun _ k => XS.iloadN X0.here hx rfl (hb hby d_depth_43) rfl k) ?_
        refine OGo.go (U' := T0.setTop (mkF m 45 #[.val (.ref a1), .val (.int (N x)), .val (.int ((N 0) + (1 : Int32))), .val (.int (N x))] [(.int (N (fn x)))])) (fun _ k => ON.ld X0 hx hZ e0 A1 (j := x) bx (g := (mkF m 44 #[.val (.ref a1), .val (.int (N x)), .val (.int ((N 0) + (1 : Int32))), .val (.int (N x))] [(.int (N x)), (.ref a1)])) rfl rfl (hb hby d_depth_44) _ k) ?_
        refine OGo.go (U' := T0.setTop (mkF m 46 #[.val (.ref a1), .val (.int (N x)), .val (.int ((N 0) + (1 : Int32))), .val (.int (N (fn x)))] [])) (fun _ k => XS.istoreN X0.here hx rfl (hb hby d_depth_45) rfl (l' := #[.val (.ref a1), .val (.int (N x)), .val (.int ((N 0) + (1 : Int32))), .val (.int (N (fn x)))]) rfl k) ?_
        refine OGo.go (U' := T0.setTop (mkF m 47 #[.val (.ref a1), .val (.int (N x)), .val (.int ((N 0) + (1 : Int32))), .val (.int (N (fn x)))] [(.ref a1)])) (fun _ k => XS.aloadN X0.here hx rfl (hb hby d_depth_46) rfl rfl k) ?_
        refine OGo.go (U' := T0.setTop (mkF m 48 #[.val (.ref a1), .val (.int (N x)), .val (.int ((N 0) + (1 : Int32))), .val (.int (N (fn x)))] [(.int (N (fn x))), (.ref a1)])) (fun _ k => XS.iloadN X0.here hx rfl (hb hby d_depth_47) rfl k) ?_
        refine OGo.go (U' := T0.setTop (mkF m 49 #[.val (.ref a1), .val (.int (N x)), .val (.int ((N 0) + (1 : Int32))), .val (.int (N (fn x)))] [(.int (N (fn (fn x))))])) (fun _ k => ON.ld X0 hx hZ e0 A1 (j := (fn x)) (hr _ bx) (g := (mkF m 48 #[.val (.ref a1), .val (.int (N x)), .val (.int ((N 0) + (1 : Int32))), .val (.int (N (fn x)))] [(.int (N (fn x))), (.ref a1)])) rfl rfl (hb hby d_depth_48) _ k) ?_
        refine OGo.go (U' := T0.setTop (mkF m 50 #[.val (.ref a1), .val (.int (N x)), .val (.int ((N 0) + (1 : Int32))), .val (.int (N (fn x)))] [(.int (N (fn x))), (.int (N (fn (fn x))))])) (fun _ k => XS.iloadN X0.here hx rfl (hb hby d_depth_49) rfl k) ?_
        by_cases hc12 : (fn (fn x)) = (fn x)
        · skip
          refine OGo.go (U' := T0.setTop (mkF m 60 #[.val (.ref a1), .val (.int (N x)), .val (.int ((N 0) + (1 : Int32))), .val (.int (N (fn x)))] [])) (fun _ k => XS.icmpYes X0.here hx rfl (pc0 := 50) (pc' := 60) rfl (hb hby d_depth_50) rfl (teq (congrArg N hc12)).1 (by decide) (by decide) k) ?_
          refine OGo.go (U' := T0.setTop (mkF m 61 #[.val (.ref a1), .val (.int (N x)), .val (.int ((N 0) + (1 : Int32))), .val (.int (N (fn x)))] [(.int ((N 0) + (1 : Int32)))])) (fun _ k => XS.iloadN X0.here hx rfl (hb hby d_depth_60) rfl k) ?_
          refine OGo.retI X0 hx hret hlk (hb hby d_depth_61) ?_ (by decide) (by decide)
          refine ⟨?_, e0, rfl⟩
          rw [F_depth]
          rw [if_pos hc2]
          rw [if_pos hc4]
          rw [if_neg hc6]
          rw [if_pos hc12]
        · skip
          refine OGo.go (U' := T0.setTop (mkF m 53 #[.val (.ref a1), .val (.int (N x)), .val (.int ((N 0) + (1 : Int32))), .val (.int (N (fn x)))] [])) (fun _ k => XS.icmpNo X0.here hx rfl (hb hby d_depth_50) rfl (feq (fun q => hc12 (N_inj (hr _ (hr _ bx)) (hr _ bx) q))).1 k) ?_
          refine OGo.go (U' := T0.setTop (mkF m 56 #[.val (.ref a1), .val (.int (N x)), .val (.int (((N 0) + (1 : Int32)) + (1 : Int32))), .val (.int (N (fn x)))] [])) (fun _ k => XS.iinc X0.here hx rfl (hb hby d_depth_53) rfl (l' := #[.val (.ref a1), .val (.int (N x)), .val (.int (((N 0) + (1 : Int32)) + (1 : Int32))), .val (.int (N (fn x)))]) rfl k) ?_
          refine OGo.go (U' := T0.setTop (mkF m 57 #[.val (.ref a1), .val (.int (N x)), .val (.int (((N 0) + (1 : Int32)) + (1 : Int32))), .val (.int (N (fn x)))] [(.ref a1)])) (fun _ k => XS.aloadN X0.here hx rfl (hb hby d_depth_56) rfl rfl k) ?_
          refine OGo.go (U' := T0.setTop (mkF m 58 #[.val (.ref a1), .val (.int (N x)), .val (.int (((N 0) + (1 : Int32)) + (1 : Int32))), .val (.int (N (fn x)))] [(.int (N (fn x))), (.ref a1)])) (fun _ k => XS.iloadN X0.here hx rfl (hb hby d_depth_57) rfl k) ?_
          refine OGo.go (U' := T0.setTop (mkF m 59 #[.val (.ref a1), .val (.int (N x)), .val (.int (((N 0) + (1 : Int32)) + (1 : Int32))), .val (.int (N (fn x)))] [(.int (N (fn (fn x))))])) (fun _ k => ON.ld X0 hx hZ e0 A1 (j := (fn x)) (hr _ bx) (g := (mkF m 58 #[.val (.ref a1), .val (.int (N x)), .val (.int (((N 0) + (1 : Int32)) + (1 : Int32))), .val (.int (N (fn x)))] [(.int (N (fn x))), (.ref a1)])) rfl rfl (hb hby d_depth_58) _ k) ?_
          refine OGo.go (U' := T0.setTop (mkF m 60 #[.val (.ref a1), .val (.int (N x)), .val (.int (((N 0) + (1 : Int32)) + (1 : Int32))), .val (.int (N (fn (fn x))))] [])) (fun _ k => XS.istoreN X0.here hx rfl (hb hby d_depth_59) rfl (l' := #[.val (.ref a1), .val (.int (N x)), .val (.int (((N 0) + (1 : Int32)) + (1 : Int32))), .val (.int (N (fn (fn x))))]) rfl k) ?_
          refine OGo.go (U' := T0.setTop (mkF m 61 #[.val (.ref a1), .val (.int (N x)), .val (.int (((N 0) + (1 : Int32)) + (1 : Int32))), .val (.int (N (fn (fn x))))] [(.int (((N 0) + (1 : Int32)) + (1 : Int32)))])) (fun _ k => XS.iloadN X0.here hx rfl (hb hby d_depth_60) rfl k) ?_
          refine OGo.retI X0 hx hret hlk (hb hby d_depth_61) ?_ (by decide) (by decide)
          refine ⟨?_, e0, rfl⟩
          rw [F_depth]
          rw [if_pos hc2]
          rw [if_pos hc4]
          rw [if_neg hc6]
          rw [if_neg hc12]
    · skip
      refine OGo.go (U' := T0.setTop (mkF m 25 #[.val (.ref a1), .val (.int (N x)), .val (.int (N 0)), .val (.int (N x))] [])) (fun _ k => XS.icmpNo X0.here hx rfl (hb hby d_depth_22) rfl (feq (fun q => hc4 (N_inj (hr _ bx) bx q))).1 k) ?_
      refine OGo.go (U' := T0.setTop (mkF m 28 #[.val (.ref a1), .val (.int (N x)), .val (.int ((N 0) + (1 : Int32))), .val (.int (N x))] [])) (fun _ k => XS.iinc X0.here hx rfl (hb hby d_depth_25) rfl (l' := #[.val (.ref a1), .val (.int (N x)), .val (.int ((N 0) + (1 : Int32))), .val (.int (N x))]) rfl k) ?_
      refine OGo.go (U' := T0.setTop (mkF m 29 #[.val (.ref a1), .val (.int (N x)), .val (.int ((N 0) + (1 : Int32))), .val (.int (N x))] [(.ref a1)])) (fun _ k => XS.aloadN X0.here hx rfl (hb hby d_depth_28) rfl rfl k) ?_
      refine OGo.go (U' := T0.setTop (mkF m 30 #[.val (.ref a1), .val (.int (N x)), .val (.int ((N 0) + (1 : Int32))), .val (.int (N x))] [(.int (N x)), (.ref a1)])) (fun _ k => XS.iloadN X0.here hx rfl (hb hby d_depth_29) rfl k) ?_
      refine OGo.go (U' := T0.setTop (mkF m 31 #[.val (.ref a1), .val (.int (N x)), .val (.int ((N 0) + (1 : Int32))), .val (.int (N x))] [(.int (N (fn x)))])) (fun _ k => ON.ld X0 hx hZ e0 A1 (j := x) bx (g := (mkF m 30 #[.val (.ref a1), .val (.int (N x)), .val (.int ((N 0) + (1 : Int32))), .val (.int (N x))] [(.int (N x)), (.ref a1)])) rfl rfl (hb hby d_depth_30) _ k) ?_
      refine OGo.go (U' := T0.setTop (mkF m 32 #[.val (.ref a1), .val (.int (N x)), .val (.int ((N 0) + (1 : Int32))), .val (.int (N (fn x)))] [])) (fun _ k => XS.istoreN X0.here hx rfl (hb hby d_depth_31) rfl (l' := #[.val (.ref a1), .val (.int (N x)), .val (.int ((N 0) + (1 : Int32))), .val (.int (N (fn x)))]) rfl k) ?_
      refine OGo.go (U' := T0.setTop (mkF m 33 #[.val (.ref a1), .val (.int (N x)), .val (.int ((N 0) + (1 : Int32))), .val (.int (N (fn x)))] [(.ref a1)])) (fun _ k => XS.aloadN X0.here hx rfl (hb hby d_depth_32) rfl rfl k) ?_
      refine OGo.go (U' := T0.setTop (mkF m 34 #[.val (.ref a1), .val (.int (N x)), .val (.int ((N 0) + (1 : Int32))), .val (.int (N (fn x)))] [(.int (N (fn x))), (.ref a1)])) (fun _ k => XS.iloadN X0.here hx rfl (hb hby d_depth_33) rfl k) ?_
      refine OGo.go (U' := T0.setTop (mkF m 35 #[.val (.ref a1), .val (.int (N x)), .val (.int ((N 0) + (1 : Int32))), .val (.int (N (fn x)))] [(.int (N (fn (fn x))))])) (fun _ k => ON.ld X0 hx hZ e0 A1 (j := (fn x)) (hr _ bx) (g := (mkF m 34 #[.val (.ref a1), .val (.int (N x)), .val (.int ((N 0) + (1 : Int32))), .val (.int (N (fn x)))] [(.int (N (fn x))), (.ref a1)])) rfl rfl (hb hby d_depth_34) _ k) ?_
      refine OGo.go (U' := T0.setTop (mkF m 36 #[.val (.ref a1), .val (.int (N x)), .val (.int ((N 0) + (1 : Int32))), .val (.int (N (fn x)))] [(.int (N (fn x))), (.int (N (fn (fn x))))])) (fun _ k => XS.iloadN X0.here hx rfl (hb hby d_depth_35) rfl k) ?_
      by_cases hc16 : (fn (fn x)) = (fn x)
      · skip
        refine OGo.go (U' := T0.setTop (mkF m 46 #[.val (.ref a1), .val (.int (N x)), .val (.int ((N 0) + (1 : Int32))), .val (.int (N (fn x)))] [])) (fun _ k => XS.icmpYes X0.here hx rfl (pc0 := 36) (pc' := 46) rfl (hb hby d_depth_36) rfl (teq (congrArg N hc16)).1 (by decide) (by decide) k) ?_
        refine OGo.go (U' := T0.setTop (mkF m 47 #[.val (.ref a1), .val (.int (N x)), .val (.int ((N 0) + (1 : Int32))), .val (.int (N (fn x)))] [(.ref a1)])) (fun _ k => XS.aloadN X0.here hx rfl (hb hby d_depth_46) rfl rfl k) ?_
        refine OGo.go (U' := T0.setTop (mkF m 48 #[.val (.ref a1), .val (.int (N x)), .val (.int ((N 0) + (1 : Int32))), .val (.int (N (fn x)))] [(.int (N (fn x))), (.ref a1)])) (fun _ k => XS.iloadN X0.here hx rfl (hb hby d_depth_47) rfl k) ?_
        refine OGo.go (U' := T0.setTop (mkF m 49 #[.val (.ref a1), .val (.int (N x)), .val (.int ((N 0) + (1 : Int32))), .val (.int (N (fn x)))] [(.int (N (fn (fn x))))])) (fun _ k => ON.ld X0 hx hZ e0 A1 (j := (fn x)) (hr _ bx) (g := (mkF m 48 #[.val (.ref a1), .val (.int (N x)), .val (.int ((N 0) + (1 : Int32))), .val (.int (N (fn x)))] [(.int (N (fn x))), (.ref a1)])) rfl rfl (hb hby d_depth_48) _ k) ?_
        refine OGo.go (U' := T0.setTop (mkF m 50 #[.val (.ref a1), .val (.int (N x)), .val (.int ((N 0) + (1 : Int32))), .val (.int (N (fn x)))] [(.int (N (fn x))), (.int (N (fn (fn x))))])) (fun _ k => XS.iloadN X0.here hx rfl (hb hby d_depth_49) rfl k) ?_
        by_cases hc18 : (fn (fn x)) = (fn x)
        · skip
          refine OGo.go (U' := T0.setTop (mkF m 60 #[.val (.ref a1), .val (.int (N x)), .val (.int ((N 0) + (1 : Int32))), .val (.int (N (fn x)))] [])) (fun _ k => XS.icmpYes X0.here hx rfl (pc0 := 50) (pc' := 60) rfl (hb hby d_depth_50) rfl (teq (congrArg N hc18)).1 (by decide) (by decide) k) ?_
          refine OGo.go (U' := T0.setTop (mkF m 61 #[.val (.ref a1), .val (.int (N x)), .val (.int ((N 0) + (1 : Int32))), .val (.int (N (fn x)))] [(.int ((N 0) + (1 : Int32)))])) (fun _ k => XS.iloadN X0.here hx rfl (hb hby d_depth_60) rfl k) ?_
          refine OGo.retI X0 hx hret hlk (hb hby d_depth_61) ?_ (by decide) (by decide)
          refine ⟨?_, e0, rfl⟩
          rw [F_depth]
          rw [if_pos hc2]
          rw [if_neg hc4]
          rw [if_pos hc16]
          rw [if_pos hc18]
        · skip
          refine OGo.go (U' := T0.setTop (mkF m 53 #[.val (.ref a1), .val (.int (N x)), .val (.int ((N 0) + (1 : Int32))), .val (.int (N (fn x)))] [])) (fun _ k => XS.icmpNo X0.here hx rfl (hb hby d_depth_50) rfl (feq (fun q => hc18 (N_inj (hr _ (hr _ bx)) (hr _ bx) q))).1 k) ?_
          refine OGo.go (U' := T0.setTop (mkF m 56 #[.val (.ref a1), .val (.int (N x)), .val (.int (((N 0) + (1 : Int32)) + (1 : Int32))), .val (.int (N (fn x)))] [])) (fun _ k => XS.iinc X0.here hx rfl (hb hby d_depth_53) rfl (l' := #[.val (.ref a1), .val (.int (N x)), .val (.int (((N 0) + (1 : Int32)) + (1 : Int32))), .val (.int (N (fn x)))]) rfl k) ?_
          refine OGo.go (U' := T0.setTop (mkF m 57 #[.val (.ref a1), .val (.int (N x)), .val (.int (((N 0) + (1 : Int32)) + (1 : Int32))), .val (.int (N (fn x)))] [(.ref a1)])) (fun _ k => XS.aloadN X0.here hx rfl (hb hby d_depth_56) rfl rfl k) ?_
          refine OGo.go (U' := T0.setTop (mkF m 58 #[.val (.ref a1), .val (.int (N x)), .val (.int (((N 0) + (1 : Int32)) + (1 : Int32))), .val (.int (N (fn x)))] [(.int (N (fn x))), (.ref a1)])) (fun _ k => XS.iloadN X0.here hx rfl (hb hby d_depth_57) rfl k) ?_
          refine OGo.go (U' := T0.setTop (mkF m 59 #[.val (.ref a1), .val (.int (N x)), .val (.int (((N 0) + (1 : Int32)) + (1 : Int32))), .val (.int (N (fn x)))] [(.int (N (fn (fn x))))])) (fun _ k => ON.ld X0 hx hZ e0 A1 (j := (fn x)) (hr _ bx) (g := (mkF m 58 #[.val (.ref a1), .val (.int (N x)), .val (.int (((N 0) + (1 : Int32)) + (1 : Int32))), .val (.int (N (fn x)))] [(.int (N (fn x))), (.ref a1)])) rfl rfl (hb hby d_depth_58) _ k) ?_
          refine OGo.go (U' := T0.setTop (mkF m 60 #[.val (.ref a1), .val (.int (N x)), .val (.int (((N 0) + (1 : Int32)) + (1 : Int32))), .val (.int (N (fn (fn x))))] [])) (fun _ k => XS.istoreN X0.here hx rfl (hb hby d_depth_59) rfl (l' := #[.val (.ref a1), .val (.int (N x)), .val (.int (((N 0) + (1 : Int32)) + (1 : Int32))), .val (.int (N (fn (fn x))))]) rfl k) ?_
          refine OGo.go (U' := T0.setTop (mkF m 61 #[.val (.ref a1), .val (.int (N x)), .val (.int (((N 0) + (1 : Int32)) + (1 : Int32))), .val (.int (N (fn (fn x))))] [(.int (((N 0) + (1 : Int32)) + (1 : Int32)))])) (fun _ k => XS.iloadN X0.here hx rfl (hb hby d_depth_60) rfl k) ?_
          refine OGo.retI X0 hx hret hlk (hb hby d_depth_61) ?_ (by decide) (by decide)
          refine ⟨?_, e0, rfl⟩
          rw [F_depth]
          rw [if_pos hc2]
          rw [if_neg hc4]
          rw [if_pos hc16]
          rw [if_neg hc18]
      · skip
        refine OGo.go (U' := T0.setTop (mkF m 39 #[.val (.ref a1), .val (.int (N x)), .val (.int ((N 0) + (1 : Int32))), .val (.int (N (fn x)))] [])) (fun _ k => XS.icmpNo X0.here hx rfl (hb hby d_depth_36) rfl (feq (fun q => hc16 (N_inj (hr _ (hr _ bx)) (hr _ bx) q))).1 k) ?_
        refine OGo.go (U' := T0.setTop (mkF m 42 #[.val (.ref a1), .val (.int (N x)), .val (.int (((N 0) + (1 : Int32)) + (1 : Int32))), .val (.int (N (fn x)))] [])) (fun _ k => XS.iinc X0.here hx rfl (hb hby d_depth_39) rfl (l' := #[.val (.ref a1), .val (.int (N x)), .val (.int (((N 0) + (1 : Int32)) + (1 : Int32))), .val (.int (N (fn x)))]) rfl k) ?_
        refine OGo.go (U' := T0.setTop (mkF m 43 #[.val (.ref a1), .val (.int (N x)), .val (.int (((N 0) + (1 : Int32)) + (1 : Int32))), .val (.int (N (fn x)))] [(.ref a1)])) (fun _ k => XS.aloadN X0.here hx rfl (hb hby d_depth_42) rfl rfl k) ?_
        refine OGo.go (U' := T0.setTop (mkF m 44 #[.val (.ref a1), .val (.int (N x)), .val (.int (((N 0) + (1 : Int32)) + (1 : Int32))), .val (.int (N (fn x)))] [(.int (N (fn x))), (.ref a1)])) (fun _ k => XS.iloadN X0.here hx rfl (hb hby d_depth_43) rfl k) ?_
        refine OGo.go (U' := T0.setTop (mkF m 45 #[.val (.ref a1), .val (.int (N x)), .val (.int (((N 0) + (1 : Int32)) + (1 : Int32))), .val (.int (N (fn x)))] [(.int (N (fn (fn x))))])) (fun _ k => ON.ld X0 hx hZ e0 A1 (j := (fn x)) (hr _ bx) (g := (mkF m 44 #[.val (.ref a1), .val (.int (N x)), .val (.int (((N 0) + (1 : Int32)) + (1 : Int32))), .val (.int (N (fn x)))] [(.int (N (fn x))), (.ref a1)])) rfl rfl (hb hby d_depth_44) _ k) ?_
        refine OGo.go (U' := T0.setTop (mkF m 46 #[.val (.ref a1), .val (.int (N x)), .val (.int (((N 0) + (1 : Int32)) + (1 : Int32))), .val (.int (N (fn (fn x))))] [])) (fun _ k => XS.istoreN X0.here hx rfl (hb hby d_depth_45) rfl (l' := #[.val (.ref a1), .val (.int (N x)), .val (.int (((N 0) + (1 : Int32)) + (1 : Int32))), .val (.int (N (fn (fn x))))]) rfl k) ?_
        refine OGo.go (U' := T0.setTop (mkF m 47 #[.val (.ref a1), .val (.int (N x)), .val (.int (((N 0) + (1 : Int32)) + (1 : Int32))), .val (.int (N (fn (fn x))))] [(.ref a1)])) (fun _ k => XS.aloadN X0.here hx rfl (hb hby d_depth_46) rfl rfl k) ?_
        refine OGo.go (U' := T0.setTop (mkF m 48 #[.val (.ref a1), .val (.int (N x)), .val (.int (((N 0) + (1 : Int32)) + (1 : Int32))), .val (.int (N (fn (fn x))))] [(.int (N (fn (fn x)))), (.ref a1)])) (fun _ k => XS.iloadN X0.here hx rfl (hb hby d_depth_47) rfl k) ?_
        refine OGo.go (U' := T0.setTop (mkF m 49 #[.val (.ref a1), .val (.int (N x)), .val (.int (((N 0) + (1 : Int32)) + (1 : Int32))), .val (.int (N (fn (fn x))))] [(.int (N (fn (fn (fn x)))))])) (fun _ k => ON.ld X0 hx hZ e0 A1 (j := (fn (fn x))) (hr _ (hr _ bx)) (g := (mkF m 48 #[.val (.ref a1), .val (.int (N x)), .val (.int (((N 0) + (1 : Int32)) + (1 : Int32))), .val (.int (N (fn (fn x))))] [(.int (N (fn (fn x)))), (.ref a1)])) rfl rfl (hb hby d_depth_48) _ k) ?_
        refine OGo.go (U' := T0.setTop (mkF m 50 #[.val (.ref a1), .val (.int (N x)), .val (.int (((N 0) + (1 : Int32)) + (1 : Int32))), .val (.int (N (fn (fn x))))] [(.int (N (fn (fn x)))), (.int (N (fn (fn (fn x)))))])) (fun _ k => XS.iloadN X0.here hx rfl (hb hby d_depth_49) rfl k) ?_
        by_cases hc22 : (fn (fn (fn x))) = (fn (fn x))
        · skip
          refine OGo.go (U' := T0.setTop (mkF m 60 #[.val (.ref a1), .val (.int (N x)), .val (.int (((N 0) + (1 : Int32)) + (1 : Int32))), .val (.int (N (fn (fn x))))] [])) (fun _ k => XS.icmpYes X0.here hx rfl (pc0 := 50) (pc' := 60) rfl (hb hby d_depth_50) rfl (teq (congrArg N hc22)).1 (by decide) (by decide) k) ?_
          refine OGo.go (U' := T0.setTop (mkF m 61 #[.val (.ref a1), .val (.int (N x)), .val (.int (((N 0) + (1 : Int32)) + (1 : Int32))), .val (.int (N (fn (fn x))))] [(.int (((N 0) + (1 : Int32)) + (1 : Int32)))])) (fun _ k => XS.iloadN X0.here hx rfl (hb hby d_depth_60) rfl k) ?_
          refine OGo.retI X0 hx hret hlk (hb hby d_depth_61) ?_ (by decide) (by decide)
          refine ⟨?_, e0, rfl⟩
          rw [F_depth]
          rw [if_pos hc2]
          rw [if_neg hc4]
          rw [if_neg hc16]
          rw [if_pos hc22]
        · skip
          refine OGo.go (U' := T0.setTop (mkF m 53 #[.val (.ref a1), .val (.int (N x)), .val (.int (((N 0) + (1 : Int32)) + (1 : Int32))), .val (.int (N (fn (fn x))))] [])) (fun _ k => XS.icmpNo X0.here hx rfl (hb hby d_depth_50) rfl (feq (fun q => hc22 (N_inj (hr _ (hr _ (hr _ bx))) (hr _ (hr _ bx)) q))).1 k) ?_
          refine OGo.go (U' := T0.setTop (mkF m 56 #[.val (.ref a1), .val (.int (N x)), .val (.int ((((N 0) + (1 : Int32)) + (1 : Int32)) + (1 : Int32))), .val (.int (N (fn (fn x))))] [])) (fun _ k => XS.iinc X0.here hx rfl (hb hby d_depth_53) rfl (l' := #[.val (.ref a1), .val (.int (N x)), .val (.int ((((N 0) + (1 : Int32)) + (1 : Int32)) + (1 : Int32))), .val (.int (N (fn (fn x))))]) rfl k) ?_
          refine OGo.go (U' := T0.setTop (mkF m 57 #[.val (.ref a1), .val (.int (N x)), .val (.int ((((N 0) + (1 : Int32)) + (1 : Int32)) + (1 : Int32))), .val (.int (N (fn (fn x))))] [(.ref a1)])) (fun _ k => XS.aloadN X0.here hx rfl (hb hby d_depth_56) rfl rfl k) ?_
          refine OGo.go (U' := T0.setTop (mkF m 58 #[.val (.ref a1), .val (.int (N x)), .val (.int ((((N 0) + (1 : Int32)) + (1 : Int32)) + (1 : Int32))), .val (.int (N (fn (fn x))))] [(.int (N (fn (fn x)))), (.ref a1)])) (fun _ k => XS.iloadN X0.here hx rfl (hb hby d_depth_57) rfl k) ?_
          refine OGo.go (U' := T0.setTop (mkF m 59 #[.val (.ref a1), .val (.int (N x)), .val (.int ((((N 0) + (1 : Int32)) + (1 : Int32)) + (1 : Int32))), .val (.int (N (fn (fn x))))] [(.int (N (fn (fn (fn x)))))])) (fun _ k => ON.ld X0 hx hZ e0 A1 (j := (fn (fn x))) (hr _ (hr _ bx)) (g := (mkF m 58 #[.val (.ref a1), .val (.int (N x)), .val (.int ((((N 0) + (1 : Int32)) + (1 : Int32)) + (1 : Int32))), .val (.int (N (fn (fn x))))] [(.int (N (fn (fn x)))), (.ref a1)])) rfl rfl (hb hby d_depth_58) _ k) ?_
          refine OGo.go (U' := T0.setTop (mkF m 60 #[.val (.ref a1), .val (.int (N x)), .val (.int ((((N 0) + (1 : Int32)) + (1 : Int32)) + (1 : Int32))), .val (.int (N (fn (fn (fn x)))))] [])) (fun _ k => XS.istoreN X0.here hx rfl (hb hby d_depth_59) rfl (l' := #[.val (.ref a1), .val (.int (N x)), .val (.int ((((N 0) + (1 : Int32)) + (1 : Int32)) + (1 : Int32))), .val (.int (N (fn (fn (fn x)))))]) rfl k) ?_
          refine OGo.go (U' := T0.setTop (mkF m 61 #[.val (.ref a1), .val (.int (N x)), .val (.int ((((N 0) + (1 : Int32)) + (1 : Int32)) + (1 : Int32))), .val (.int (N (fn (fn (fn x)))))] [(.int ((((N 0) + (1 : Int32)) + (1 : Int32)) + (1 : Int32)))])) (fun _ k => XS.iloadN X0.here hx rfl (hb hby d_depth_60) rfl k) ?_
          refine OGo.retI X0 hx hret hlk (hb hby d_depth_61) ?_ (by decide) (by decide)
          refine ⟨?_, e0, rfl⟩
          rw [F_depth]
          rw [if_pos hc2]
          rw [if_neg hc4]
          rw [if_neg hc16]
          rw [if_neg hc22]
  · skip
    refine OGo.go (U' := T0.setTop (mkF m 11 #[.val (.ref a1), .val (.int (N x)), .val (.int (N 0)), .val (.int (N x))] [])) (fun _ k => XS.icmpNo X0.here hx rfl (hb hby d_depth_8) rfl (feq (fun q => hc2 (N_inj (hr _ bx) bx q))).1 k) ?_
    refine OGo.go (U' := T0.setTop (mkF m 14 #[.val (.ref a1), .val (.int (N x)), .val (.int ((N 0) + (1 : Int32))), .val (.int (N x))] [])) (fun _ k => XS.iinc X0.here hx rfl (hb hby d_depth_11) rfl (l' := #[.val (.ref a1), .val (.int (N x)), .val (.int ((N 0) + (1 : Int32))), .val (.int (N x))]) rfl k) ?_
    refine OGo.go (U' := T0.setTop (mkF m 15 #[.val (.ref a1), .val (.int (N x)), .val (.int ((N 0) + (1 : Int32))), .val (.int (N x))] [(.ref a1)])) (fun _ k => XS.aloadN X0.here hx rfl (hb hby d_depth_14) rfl rfl k) ?_
    refine OGo.go (U' := T0.setTop (mkF m 16 #[.val (.ref a1), .val (.int (N x)), .val (.int ((N 0) + (1 : Int32))), .val (.int (N x))] [(.int (N x)), (.ref a1)])) (fun _ k => XS.iloadN X0.here hx rfl (hb hby d_depth_15) rfl k) ?_
    refine OGo.go (U' := T0.setTop (mkF m 17 #[.val (.ref a1), .val (.int (N x)), .val (.int ((N 0) + (1 : Int32))), .val (.int (N x))] [(.int (N (fn x)))])) (fun _ k => ON.ld X0 hx hZ e0 A1 (j := x) bx (g := (mkF m 16 #[.val (.ref a1), .val (.int (N x)), .val (.int ((N 0) + (1 : Int32))), .val (.int (N x))] [(.int (N x)), (.ref a1)])) rfl rfl (hb hby d_depth_16) _ k) ?_
    refine OGo.go (U' := T0.setTop (mkF m 18 #[.val (.ref a1), .val (.int (N x)), .val (.int ((N 0) + (1 : Int32))), .val (.int (N (fn x)))] [])) (fun _ k => XS.istoreN X0.here hx rfl (hb hby d_depth_17) rfl (l' := #[.val (.ref a1), .val (.int (N x)), .val (.int ((N 0) + (1 : Int32))), .val (.int (N (fn x)))]) rfl k) ?_
    refine OGo.go (U' := T0.setTop (mkF m 19 #[.val (.ref a1), .val (.int (N x)), .val (.int ((N 0) + (1 : Int32))), .val (.int (N (fn x)))] [(.ref a1)])) (fun _ k => XS.aloadN X0.here hx rfl (hb hby d_depth_18) rfl rfl k) ?_
    refine OGo.go (U' := T0.setTop (mkF m 20 #[.val (.ref a1), .val (.int (N x)), .val (.int ((N 0) + (1 : Int32))), .val (.int (N (fn x)))] [(.int (N (fn x))), (.ref a1)])) (fun _ k => XS.iloadN X0.here hx rfl (hb hby d_depth_19) rfl k) ?_
    refine OGo.go (U' := T0.setTop (mkF m 21 #[.val (.ref a1), .val (.int (N x)), .val (.int ((N 0) + (1 : Int32))), .val (.int (N (fn x)))] [(.int (N (fn (fn x))))])) (fun _ k => ON.ld X0 hx hZ e0 A1 (j := (fn x)) (hr _ bx) (g := (mkF m 20 #[.val (.ref a1), .val (.int (N x)), .val (.int ((N 0) + (1 : Int32))), .val (.int (N (fn x)))] [(.int (N (fn x))), (.ref a1)])) rfl rfl (hb hby d_depth_20) _ k) ?_
    refine OGo.go (U' := T0.setTop (mkF m 22 #[.val (.ref a1), .val (.int (N x)), .val (.int ((N 0) + (1 : Int32))), .val (.int (N (fn x)))] [(.int (N (fn x))), (.int (N (fn (fn x))))])) (fun _ k => XS.iloadN X0.here hx rfl (hb hby d_depth_21) rfl k) ?_
    by_cases hc26 : (fn (fn x)) = (fn x)
    · skip
      refine OGo.go (U' := T0.setTop (mkF m 32 #[.val (.ref a1), .val (.int (N x)), .val (.int ((N 0) + (1 : Int32))), .val (.int (N (fn x)))] [])) (fun _ k => XS.icmpYes X0.here hx rfl (pc0 := 22) (pc' := 32) rfl (hb hby d_depth_22) rfl (teq (congrArg N hc26)).1 (by decide) (by decide) k) ?_
      refine OGo.go (U' := T0.setTop (mkF m 33 #[.val (.ref a1), .val (.int (N x)), .val (.int ((N 0) + (1 : Int32))), .val (.int (N (fn x)))] [(.ref a1)])) (fun _ k => XS.aloadN X0.here hx rfl (hb hby d_depth_32) rfl rfl k) ?_
      refine OGo.go (U' := T0.setTop (mkF m 34 #[.val (.ref a1), .val (.int (N x)), .val (.int ((N 0) + (1 : Int32))), .val (.int (N (fn x)))] [(.int (N (fn x))), (.ref a1)])) (fun _ k => XS.iloadN X0.here hx rfl (hb hby d_depth_33) rfl k) ?_
      refine OGo.go (U' := T0.setTop (mkF m 35 #[.val (.ref a1), .val (.int (N x)), .val (.int ((N 0) + (1 : Int32))), .val (.int (N (fn x)))] [(.int (N (fn (fn x))))])) (fun _ k => ON.ld X0 hx hZ e0 A1 (j := (fn x)) (hr _ bx) (g := (mkF m 34 #[.val (.ref a1), .val (.int (N x)), .val (.int ((N 0) + (1 : Int32))), .val (.int (N (fn x)))] [(.int (N (fn x))), (.ref a1)])) rfl rfl (hb hby d_depth_34) _ k) ?_
      refine OGo.go (U' := T0.setTop (mkF m 36 #[.val (.ref a1), .val (.int (N x)), .val (.int ((N 0) + (1 : Int32))), .val (.int (N (fn x)))] [(.int (N (fn x))), (.int (N (fn (fn x))))])) (fun _ k => XS.iloadN X0.here hx rfl (hb hby d_depth_35) rfl k) ?_
      by_cases hc28 : (fn (fn x)) = (fn x)
      · skip
        refine OGo.go (U' := T0.setTop (mkF m 46 #[.val (.ref a1), .val (.int (N x)), .val (.int ((N 0) + (1 : Int32))), .val (.int (N (fn x)))] [])) (fun _ k => XS.icmpYes X0.here hx rfl (pc0 := 36) (pc' := 46) rfl (hb hby d_depth_36) rfl (teq (congrArg N hc28)).1 (by decide) (by decide) k) ?_
        refine OGo.go (U' := T0.setTop (mkF m 47 #[.val (.ref a1), .val (.int (N x)), .val (.int ((N 0) + (1 : Int32))), .val (.int (N (fn x)))] [(.ref a1)])) (fun _ k => XS.aloadN X0.here hx rfl (hb hby d_depth_46) rfl rfl k) ?_
        refine OGo.go (U' := T0.setTop (mkF m 48 #[.val (.ref a1), .val (.int (N x)), .val (.int ((N 0) + (1 : Int32))), .val (.int (N (fn x)))] [(.int (N (fn x))), (.ref a1)])) (fun _ k => XS.iloadN X0.here hx rfl (hb hby d_depth_47) rfl k) ?_
        refine OGo.go (U' := T0.setTop (mkF m 49 #[.val (.ref a1), .val (.int (N x)), .val (.int ((N 0) + (1 : Int32))), .val (.int (N (fn x)))] [(.int (N (fn (fn x))))])) (fun _ k => ON.ld X0 hx hZ e0 A1 (j := (fn x)) (hr _ bx) (g := (mkF m 48 #[.val (.ref a1), .val (.int (N x)), .val (.int ((N 0) + (1 : Int32))), .val (.int (N (fn x)))] [(.int (N (fn x))), (.ref a1)])) rfl rfl (hb hby d_depth_48) _ k) ?_
        refine OGo.go (U' := T0.setTop (mkF m 50 #[.val (.ref a1), .val (.int (N x)), .val (.int ((N 0) + (1 : Int32))), .val (.int (N (fn x)))] [(.int (N (fn x))), (.int (N (fn (fn x))))])) (fun _ k => XS.iloadN X0.here hx rfl (hb hby d_depth_49) rfl k) ?_
        by_cases hc30 : (fn (fn x)) = (fn x)
        · skip
          refine OGo.go (U' := T0.setTop (mkF m 60 #[.val (.ref a1), .val (.int (N x)), .val (.int ((N 0) + (1 : Int32))), .val (.int (N (fn x)))] [])) (fun _ k => XS.icmpYes X0.here hx rfl (pc0 := 50) (pc' := 60) rfl (hb hby d_depth_50) rfl (teq (congrArg N hc30)).1 (by decide) (by decide) k) ?_
          refine OGo.go (U' := T0.setTop (mkF m 61 #[.val (.ref a1), .val (.int (N x)), .val (.int ((N 0) + (1 : Int32))), .val (.int (N (fn x)))] [(.int ((N 0) + (1 : Int32)))])) (fun _ k => XS.iloadN X0.here hx rfl (hb hby d_depth_60) rfl k) ?_
          refine OGo.retI X0 hx hret hlk (hb hby d_depth_61) ?_ (by decide) (by decide)
          refine ⟨?_, e0, rfl⟩
          rw [F_depth]
          rw [if_neg hc2]
          rw [if_pos hc26]
          rw [if_pos hc28]
          rw [if_pos hc30]
        · skip
          refine OGo.go (U' := T0.setTop (mkF m 53 #[.val (.ref a1), .val (.int (N x)), .val (.int ((N 0) + (1 : Int32))), .val (.int (N (fn x)))] [])) (fun _ k => XS.icmpNo X0.here hx rfl (hb hby d_depth_50) rfl (feq (fun q => hc30 (N_inj (hr _ (hr _ bx)) (hr _ bx) q))).1 k) ?_
          refine OGo.go (U' := T0.setTop (mkF m 56 #[.val (.ref a1), .val (.int (N x)), .val (.int (((N 0) + (1 : Int32)) + (1 : Int32))), .val (.int (N (fn x)))] [])) (fun _ k => XS.iinc X0.here hx rfl (hb hby d_depth_53) rfl (l' := #[.val (.ref a1), .val (.int (N x)), .val (.int (((N 0) + (1 : Int32)) + (1 : Int32))), .val (.int (N (fn x)))]) rfl k) ?_
          refine OGo.go (U' := T0.setTop (mkF m 57 #[.val (.ref a1), .val (.int (N x)), .val (.int (((N 0) + (1 : Int32)) + (1 : Int32))), .val (.int (N (fn x)))] [(.ref a1)])) (fun _ k => XS.aloadN X0.here hx rfl (hb hby d_depth_56) rfl rfl k) ?_
          refine OGo.go (U' := T0.setTop (mkF m 58 #[.val (.ref a1), .val (.int (N x)), .val (.int (((N 0) + (1 : Int32)) + (1 : Int32))), .val (.int (N (fn x)))] [(.int (N (fn x))), (.ref a1)])) (fun _ k => XS.iloadN X0.here hx rfl (hb hby d_depth_57) rfl k) ?_
          refine OGo.go (U' := T0.setTop (mkF m 59 #[.val (.ref a1), .val (.int (N x)), .val (.int (((N 0) + (1 : Int32)) + (1 : Int32))), .val (.int (N (fn x)))] [(.int (N (fn (fn x))))])) (fun _ k => ON.ld X0 hx hZ e0 A1 (j := (fn x)) (hr _ bx) (g := (mkF m 58 #[.val (.ref a1), .val (.int (N x)), .val (.int (((N 0) + (1 : Int32)) + (1 : Int32))), .val (.int (N (fn x)))] [(.int (N (fn x))), (.ref a1)])) rfl rfl (hb hby d_depth_58) _ k) ?_
          refine OGo.go (U' := T0.setTop (mkF m 60 #[.val (.ref a1), .val (.int (N x)), .val (.int (((N 0) + (1 : Int32)) + (1 : Int32))), .val (.int (N (fn (fn x))))] [])) (fun _ k => XS.istoreN X0.here hx rfl (hb hby d_depth_59) rfl (l' := #[.val (.ref a1), .val (.int (N x)), .val (.int (((N 0) + (1 : Int32)) + (1 : Int32))), .val (.int (N (fn (fn x))))]) rfl k) ?_
          refine OGo.go (U' := T0.setTop (mkF m 61 #[.val (.ref a1), .val (.int (N x)), .val (.int (((N 0) + (1 : Int32)) + (1 : Int32))), .val (.int (N (fn (fn x))))] [(.int (((N 0) + (1 : Int32)) + (1 : Int32)))])) (fun _ k => XS.iloadN X0.here hx rfl (hb hby d_depth_60) rfl k) ?_
          refine OGo.retI X0 hx hret hlk (hb hby d_depth_61) ?_ (by decide) (by decide)
          refine ⟨?_, e0, rfl⟩
          rw [F_depth]
          rw [if_neg hc2]
          rw [if_pos hc26]
          rw [if_pos hc28]
          rw [if_neg hc30]
      · skip
        refine OGo.go (U' := T0.setTop (mkF m 39 #[.val (.ref a1), .val (.int (N x)), .val (.int ((N 0) + (1 : Int32))), .val (.int (N (fn x)))] [])) (fun _ k => XS.icmpNo X0.here hx rfl (hb hby d_depth_36) rfl (feq (fun q => hc28 (N_inj (hr _ (hr _ bx)) (hr _ bx) q))).1 k) ?_
        refine OGo.go (U' := T0.setTop (mkF m 42 #[.val (.ref a1), .val (.int (N x)), .val (.int (((N 0) + (1 : Int32)) + (1 : Int32))), .val (.int (N (fn x)))] [])) (fun _ k => XS.iinc X0.here hx rfl (hb hby d_depth_39) rfl (l' := #[.val (.ref a1), .val (.int (N x)), .val (.int (((N 0) + (1 : Int32)) + (1 : Int32))), .val (.int (N (fn x)))]) rfl k) ?_
        refine OGo.go (U' := T0.setTop (mkF m 43 #[.val (.ref a1), .val (.int (N x)), .val (.int (((N 0) + (1 : Int32)) + (1 : Int32))), .val (.int (N (fn x)))] [(.ref a1)])) (fun _ k => XS.aloadN X0.here hx rfl (hb hby d_depth_42) rfl rfl k) ?_
        refine OGo.go (U' := T0.setTop (mkF m 44 #[.val (.ref a1), .val (.int (N x)), .val (.int (((N 0) + (1 : Int32)) + (1 : Int32))), .val (.int (N (fn x)))] [(.int (N (fn x))), (.ref a1)])) (fun _ k => XS.iloadN X0.here hx rfl (hb hby d_depth_43) rfl k) ?_
        refine OGo.go (U' := T0.setTop (mkF m 45 #[.val (.ref a1), .val (.int (N x)), .val (.int (((N 0) + (1 : Int32)) + (1 : Int32))), .val (.int (N (fn x)))] [(.int (N (fn (fn x))))])) (fun _ k => ON.ld X0 hx hZ e0 A1 (j := (fn x)) (hr _ bx) (g := (mkF m 44 #[.val (.ref a1), .val (.int (N x)), .val (.int (((N 0) + (1 : Int32)) + (1 : Int32))), .val (.int (N (fn x)))] [(.int (N (fn x))), (.ref a1)])) rfl rfl (hb hby d_depth_44) _ k) ?_
        refine OGo.go (U' := T0.setTop (mkF m 46 #[.val (.ref a1), .val (.int (N x)), .val (.int (((N 0) + (1 : Int32)) + (1 : Int32))), .val (.int (N (fn (fn x))))] [])) (fun _ k => XS.istoreN X0.here hx rfl (hb hby d_depth_45) rfl (l' := #[.val (.ref a1), .val (.int (N x)), .val (.int (((N 0) + (1 : Int32)) + (1 : Int32))), .val (.int (N (fn (fn x))))]) rfl k) ?_
        refine OGo.go (U' := T0.setTop (mkF m 47 #[.val (.ref a1), .val (.int (N x)), .val (.int (((N 0) + (1 : Int32)) + (1 : Int32))), .val (.int (N (fn (fn x))))] [(.ref a1)])) (fun _ k => XS.aloadN X0.here hx rfl (hb hby d_depth_46) rfl rfl k) ?_
        refine OGo.go (U' := T0.setTop (mkF m 48 #[.val (.ref a1), .val (.int (N x)), .val (.int (((N 0) + (1 : Int32)) + (1 : Int32))), .val (.int (N (fn (fn x))))] [(.int (N (fn (fn x)))), (.ref a1)])) (fun _ k => XS.iloadN X0.here hx rfl (hb hby d_depth_47) rfl k) ?_
        refine OGo.go (U' := T0.setTop (mkF m 49 #[.val (.ref a1), .val (.int (N x)), .val (.int (((N 0) + (1 : Int32)) + (1 : Int32))), .val (.int (N (fn (fn x))))] [(.int (N (fn (fn (fn x)))))])) (fun _ k => ON.ld X0 hx hZ e0 A1 (j := (fn (fn x))) (hr _ (hr _ bx)) (g := (mkF m 48 #[.val (.ref a1), .val (.int (N x)), .val (.int (((N 0) + (1 : Int32)) + (1 : Int32))), .val (.int (N (fn (fn x))))] [(.int (N (fn (fn x)))), (.ref a1)])) rfl rfl (hb hby d_depth_48) _ k) ?_
        refine OGo.go (U' := T0.setTop (mkF m 50 #[.val (.ref a1), .val (.int (N x)), .val (.int (((N 0) + (1 : Int32)) + (1 : Int32))), .val (.int (N (fn (fn x))))] [(.int (N (fn (fn x)))), (.int (N (fn (fn (fn x)))))])) (fun _ k => XS.iloadN X0.here hx rfl (hb hby d_depth_49) rfl k) ?_
        by_cases hc34 : (fn (fn (fn x))) = (fn (fn x))
        · skip
          refine OGo.go (U' := T0.setTop (mkF m 60 #[.val (.ref a1), .val (.int (N x)), .val (.int (((N 0) + (1 : Int32)) + (1 : Int32))), .val (.int (N (fn (fn x))))] [])) (fun _ k => XS.icmpYes X0.here hx rfl (pc0 := 50) (pc' := 60) rfl (hb hby d_depth_50) rfl (teq (congrArg N hc34)).1 (by decide) (by decide) k) ?_
          refine OGo.go (U' := T0.setTop (mkF m 61 #[.val (.ref a1), .val (.int (N x)), .val (.int (((N 0) + (1 : Int32)) + (1 : Int32))), .val (.int (N (fn (fn x))))] [(.int (((N 0) + (1 : Int32)) + (1 : Int32)))])) (fun _ k => XS.iloadN X0.here hx rfl (hb hby d_depth_60) rfl k) ?_
          refine OGo.retI X0 hx hret hlk (hb hby d_depth_61) ?_ (by decide) (by decide)
          refine ⟨?_, e0, rfl⟩
          rw [F_depth]
          rw [if_neg hc2]
          rw [if_pos hc26]
          rw [if_neg hc28]
          rw [if_pos hc34]
        · skip
          refine OGo.go (U' := T0.setTop (mkF m 53 #[.val (.ref a1), .val (.int (N x)), .val (.int (((N 0) + (1 : Int32)) + (1 : Int32))), .val (.int (N (fn (fn x))))] [])) (fun _ k => XS.icmpNo X0.here hx rfl (hb hby d_depth_50) rfl (feq (fun q => hc34 (N_inj (hr _ (hr _ (hr _ bx))) (hr _ (hr _ bx)) q))).1 k) ?_
          refine OGo.go (U' := T0.setTop (mkF m 56 #[.val (.ref a1), .val (.int (N x)), .val (.int ((((N 0) + (1 : Int32)) + (1 : Int32)) + (1 : Int32))), .val (.int (N (fn (fn x))))] [])) (fun _ k => XS.iinc X0.here hx rfl (hb hby d_depth_53) rfl (l' := #[.val (.ref a1), .val (.int (N x)), .val (.int ((((N 0) + (1 : Int32)) + (1 : Int32)) + (1 : Int32))), .val (.int (N (fn (fn x))))]) rfl k) ?_
          refine OGo.go (U' := T0.setTop (mkF m 57 #[.val (.ref a1), .val (.int (N x)), .val (.int ((((N 0) + (1 : Int32)) + (1 : Int32)) + (1 : Int32))), .val (.int (N (fn (fn x))))] [(.ref a1)])) (fun _ k => XS.aloadN X0.here hx rfl (hb hby d_depth_56) rfl rfl k) ?_
          refine OGo.go (U' := T0.setTop (mkF m 58 #[.val (.ref a1), .val (.int (N x)), .val (.int ((((N 0) + (1 : Int32)) + (1 : Int32)) + (1 : Int32))), .val (.int (N (fn (fn x))))] [(.int (N (fn (fn x)))), (.ref a1)])) (fun _ k => XS.iloadN X0.here hx rfl (hb hby d_depth_57) rfl k) ?_
          refine OGo.go (U' := T0.setTop (mkF m 59 #[.val (.ref a1), .val (.int (N x)), .val (.int ((((N 0) + (1 : Int32)) + (1 : Int32)) + (1 : Int32))), .val (.int (N (fn (fn x))))] [(.int (N (fn (fn (fn x)))))])) (fun _ k => ON.ld X0 hx hZ e0 A1 (j := (fn (fn x))) (hr _ (hr _ bx)) (g := (mkF m 58 #[.val (.ref a1), .val (.int (N x)), .val (.int ((((N 0) + (1 : Int32)) + (1 : Int32)) + (1 : Int32))), .val (.int (N (fn (fn x))))] [(.int (N (fn (fn x)))), (.ref a1)])) rfl rfl (hb hby d_depth_58) _ k) ?_
          refine OGo.go (U' := T0.setTop (mkF m 60 #[.val (.ref a1), .val (.int (N x)), .val (.int ((((N 0) + (1 : Int32)) + (1 : Int32)) + (1 : Int32))), .val (.int (N (fn (fn (fn x)))))] [])) (fun _ k => XS.istoreN X0.here hx rfl (hb hby d_depth_59) rfl (l' := #[.val (.ref a1), .val (.int (N x)), .val (.int ((((N 0) + (1 : Int32)) + (1 : Int32)) + (1 : Int32))), .val (.int (N (fn (fn (fn x)))))]) rfl k) ?_
          refine OGo.go (U' := T0.setTop (mkF m 61 #[.val (.ref a1), .val (.int (N x)), .val (.int ((((N 0) + (1 : Int32)) + (1 : Int32)) + (1 : Int32))), .val (.int (N (fn (fn (fn x)))))] [(.int ((((N 0) + (1 : Int32)) + (1 : Int32)) + (1 : Int32)))])) (fun _ k => XS.iloadN X0.here hx rfl (hb hby d_depth_60) rfl k) ?_
          refine OGo.retI X0 hx hret hlk (hb hby d_depth_61) ?_ (by decide) (by decide)
          refine ⟨?_, e0, rfl⟩
          rw [F_depth]
          rw [if_neg hc2]
          rw [if_pos hc26]
          rw [if_neg hc28]
          rw [if_neg hc34]
    · skip
      refine OGo.go (U' := T0.setTop (mkF m 25 #[.val (.ref a1), .val (.int (N x)), .val (.int ((N 0) + (1 : Int32))), .val (.int (N (fn x)))] [])) (fun _ k => XS.icmpNo X0.here hx rfl (hb hby d_depth_22) rfl (feq (fun q => hc26 (N_inj (hr _ (hr _ bx)) (hr _ bx) q))).1 k) ?_
      refine OGo.go (U' := T0.setTop (mkF m 28 #[.val (.ref a1), .val (.int (N x)), .val (.int (((N 0) + (1 : Int32)) + (1 : Int32))), .val (.int (N (fn x)))] [])) (fun _ k => XS.iinc X0.here hx rfl (hb hby d_depth_25) rfl (l' := #[.val (.ref a1), .val (.int (N x)), .val (.int (((N 0) + (1 : Int32)) + (1 : Int32))), .val (.int (N (fn x)))]) rfl k) ?_
      refine OGo.go (U' := T0.setTop (mkF m 29 #[.val (.ref a1), .val (.int (N x)), .val (.int (((N 0) + (1 : Int32)) + (1 : Int32))), .val (.int (N (fn x)))] [(.ref a1)])) (fun _ k => XS.aloadN X0.here hx rfl (hb hby d_depth_28) rfl rfl k) ?_
      refine OGo.go (U' := T0.setTop (mkF m 30 #[.val (.ref a1), .val (.int (N x)), .val (.int (((N 0) + (1 : Int32)) + (1 : Int32))), .val (.int (N (fn x)))] [(.int (N (fn x))), (.ref a1)])) (fun _ k => XS.iloadN X0.here hx rfl (hb hby d_depth_29) rfl k) ?_
      refine OGo.go (U' := T0.setTop (mkF m 31 #[.val (.ref a1), .val (.int (N x)), .val (.int (((N 0) + (1 : Int32)) + (1 : Int32))), .val (.int (N (fn x)))] [(.int (N (fn (fn x))))])) (fun _ k => ON.ld X0 hx hZ e0 A1 (j := (fn x)) (hr _ bx) (g := (mkF m 30 #[.val (.ref a1), .val (.int (N x)), .val (.int (((N 0) + (1 : Int32)) + (1 : Int32))), .val (.int (N (fn x)))] [(.int (N (fn x))), (.ref a1)])) rfl rfl (hb hby d_depth_30) _ k) ?_
      refine OGo.go (U' := T0.setTop (mkF m 32 #[.val (.ref a1), .val (.int (N x)), .val (.int (((N 0) + (1 : Int32)) + (1 : Int32))), .val (.int (N (fn (fn x))))] [])) (fun _ k => XS.istoreN X0.here hx rfl (hb hby d_depth_31) rfl (l' := #[.val (.ref a1), .val (.int (N x)), .val (.int (((N 0) + (1 : Int32)) + (1 : Int32))), .val (.int (N (fn (fn x))))]) rfl k) ?_
      refine OGo.go (U' := T0.setTop (mkF m 33 #[.val (.ref a1), .val (.int (N x)), .val (.int (((N 0) + (1 : Int32)) + (1 : Int32))), .val (.int (N (fn (fn x))))] [(.ref a1)])) (fun _ k => XS.aloadN X0.here hx rfl (hb hby d_depth_32) rfl rfl k) ?_
      refine OGo.go (U' := T0.setTop (mkF m 34 #[.val (.ref a1), .val (.int (N x)), .val (.int (((N 0) + (1 : Int32)) + (1 : Int32))), .val (.int (N (fn (fn x))))] [(.int (N (fn (fn x)))), (.ref a1)])) (fun _ k => XS.iloadN X0.here hx rfl (hb hby d_depth_33) rfl k) ?_
      refine OGo.go (U' := T0.setTop (mkF m 35 #[.val (.ref a1), .val (.int (N x)), .val (.int (((N 0) + (1 : Int32)) + (1 : Int32))), .val (.int (N (fn (fn x))))] [(.int (N (fn (fn (fn x)))))])) (fun _ k => ON.ld X0 hx hZ e0 A1 (j := (fn (fn x))) (hr _ (hr _ bx)) (g := (mkF m 34 #[.val (.ref a1), .val (.int (N x)), .val (.int (((N 0) + (1 : Int32)) + (1 : Int32))), .val (.int (N (fn (fn x))))] [(.int (N (fn (fn x)))), (.ref a1)])) rfl rfl (hb hby d_depth_34) _ k) ?_
      refine OGo.go (U' := T0.setTop (mkF m 36 #[.val (.ref a1), .val (.int (N x)), .val (.int (((N 0) + (1 : Int32)) + (1 : Int32))), .val (.int (N (fn (fn x))))] [(.int (N (fn (fn x)))), (.int (N (fn (fn (fn x)))))])) (fun _ k => XS.iloadN X0.here hx rfl (hb hby d_depth_35) rfl k) ?_
      by_cases hc38 : (fn (fn (fn x))) = (fn (fn x))
      · skip
        refine OGo.go (U' := T0.setTop (mkF m 46 #[.val (.ref a1), .val (.int (N x)), .val (.int (((N 0) + (1 : Int32)) + (1 : Int32))), .val (.int (N (fn (fn x))))] [])) (fun _ k => XS.icmpYes X0.here hx rfl (pc0 := 36) (pc' := 46) rfl (hb hby d_depth_36) rfl (teq (congrArg N hc38)).1 (by decide) (by decide) k) ?_
        refine OGo.go (U' := T0.setTop (mkF m 47 #[.val (.ref a1), .val (.int (N x)), .val (.int (((N 0) + (1 : Int32)) + (1 : Int32))), .val (.int (N (fn (fn x))))] [(.ref a1)])) (fun _ k => XS.aloadN X0.here hx rfl (hb hby d_depth_46) rfl rfl k) ?_
        refine OGo.go (U' := T0.setTop (mkF m 48 #[.val (.ref a1), .val (.int (N x)), .val (.int (((N 0) + (1 : Int32)) + (1 : Int32))), .val (.int (N (fn (fn x))))] [(.int (N (fn (fn x)))), (.ref a1)])) (fun _ k => XS.iloadN X0.here hx rfl (hb hby d_depth_47) rfl k) ?_
        refine OGo.go (U' := T0.setTop (mkF m 49 #[.val (.ref a1), .val (.int (N x)), .val (.int (((N 0) + (1 : Int32)) + (1 : Int32))), .val (.int (N (fn (fn x))))] [(.int (N (fn (fn (fn x)))))])) (fun _ k => ON.ld X0 hx hZ e0 A1 (j := (fn (fn x))) (hr _ (hr _ bx)) (g := (mkF m 48 #[.val (.ref a1), .val (.int (N x)), .val (.int (((N 0) + (1 : Int32)) + (1 : Int32))), .val (.int (N (fn (fn x))))] [(.int (N (fn (fn x)))), (.ref a1)])) rfl rfl (hb hby d_depth_48) _ k) ?_
        refine OGo.go (U' := T0.setTop (mkF m 50 #[.val (.ref a1), .val (.int (N x)), .val (.int (((N 0) + (1 : Int32)) + (1 : Int32))), .val (.int (N (fn (fn x))))] [(.int (N (fn (fn x)))), (.int (N (fn (fn (fn x)))))])) (fun _ k => XS.iloadN X0.here hx rfl (hb hby d_depth_49) rfl k) ?_
        by_cases hc40 : (fn (fn (fn x))) = (fn (fn x))
        · skip
          refine OGo.go (U' := T0.setTop (mkF m 60 #[.val (.ref a1), .val (.int (N x)), .val (.int (((N 0) + (1 : Int32)) + (1 : Int32))), .val (.int (N (fn (fn x))))] [])) (fun _ k => XS.icmpYes X0.here hx rfl (pc0 := 50) (pc' := 60) rfl (hb hby d_depth_50) rfl (teq (congrArg N hc40)).1 (by decide) (by decide) k) ?_
          refine OGo.go (U' := T0.setTop (mkF m 61 #[.val (.ref a1), .val (.int (N x)), .val (.int (((N 0) + (1 : Int32)) + (1 : Int32))), .val (.int (N (fn (fn x))))] [(.int (((N 0) + (1 : Int32)) + (1 : Int32)))])) (fun _ k => XS.iloadN X0.here hx rfl (hb hby d_depth_60) rfl k) ?_
          refine OGo.retI X0 hx hret hlk (hb hby d_depth_61) ?_ (by decide) (by decide)
          refine ⟨?_, e0, rfl⟩
          rw [F_depth]
          rw [if_neg hc2]
          rw [if_neg hc26]
          rw [if_pos hc38]
          rw [if_pos hc40]
        · skip
          refine OGo.go (U' := T0.setTop (mkF m 53 #[.val (.ref a1), .val (.int (N x)), .val (.int (((N 0) + (1 : Int32)) + (1 : Int32))), .val (.int (N (fn (fn x))))] [])) (fun _ k => XS.icmpNo X0.here hx rfl (hb hby d_depth_50) rfl (feq (fun q => hc40 (N_inj (hr _ (hr _ (hr _ bx))) (hr _ (hr _ bx)) q))).1 k) ?_
          refine OGo.go (U' := T0.setTop (mkF m 56 #[.val (.ref a1), .val (.int (N x)), .val (.int ((((N 0) + (1 : Int32)) + (1 : Int32)) + (1 : Int32))), .val (.int (N (fn (fn x))))] [])) (fun _ k => XS.iinc X0.here hx rfl (hb hby d_depth_53) rfl (l' := #[.val (.ref a1), .val (.int (N x)), .val (.int ((((N 0) + (1 : Int32)) + (1 : Int32)) + (1 : Int32))), .val (.int (N (fn (fn x))))]) rfl k) ?_
          refine OGo.go (U' := T0.setTop (mkF m 57 #[.val (.ref a1), .val (.int (N x)), .val (.int ((((N 0) + (1 : Int32)) + (1 : Int32)) + (1 : Int32))), .val (.int (N (fn (fn x))))] [(.ref a1)])) (fun _ k => XS.aloadN X0.here hx rfl (hb hby d_depth_56) rfl rfl k) ?_
          refine OGo.go (U' := T0.setTop (mkF m 58 #[.val (.ref a1), .val (.int (N x)), .val (.int ((((N 0) + (1 : Int32)) + (1 : Int32)) + (1 : Int32))), .val (.int (N (fn (fn x))))] [(.int (N (fn (fn x)))), (.ref a1)])) (fun _ k => XS.iloadN X0.here hx rfl (hb hby d_depth_57) rfl k) ?_
          refine OGo.go (U' := T0.setTop (mkF m 59 #[.val (.ref a1), .val (.int (N x)), .val (.int ((((N 0) + (1 : Int32)) + (1 : Int32)) + (1 : Int32))), .val (.int (N (fn (fn x))))] [(.int (N (fn (fn (fn x)))))])) (fun _ k => ON.ld X0 hx hZ e0 A1 (j := (fn (fn x))) (hr _ (hr _ bx)) (g := (mkF m 58 #[.val (.ref a1), .val (.int (N x)), .val (.int ((((N 0) + (1 : Int32)) + (1 : Int32)) + (1 : Int32))), .val (.int (N (fn (fn x))))] [(.int (N (fn (fn x)))), (.ref a1)])) rfl rfl (hb hby d_depth_58) _ k) ?_
          refine OGo.go (U' := T0.setTop (mkF m 60 #[.val (.ref a1), .val (.int (N x)), .val (.int ((((N 0) + (1 : Int32)) + (1 : Int32)) + (1 : Int32))), .val (.int (N (fn (fn (fn x)))))] [])) (fun _ k => XS.istoreN X0.here hx rfl (hb hby d_depth_59) rfl (l' := #[.val (.ref a1), .val (.int (N x)), .val (.int ((((N 0) + (1 : Int32)) + (1 : Int32)) + (1 : Int32))), .val (.int (N (fn (fn (fn x)))))]) rfl k) ?_
          refine OGo.go (U' := T0.setTop (mkF m 61 #[.val (.ref a1), .val (.int (N x)), .val (.int ((((N 0) + (1 : Int32)) + (1 : Int32)) + (1 : Int32))), .val (.int (N (fn (fn (fn x)))))] [(.int ((((N 0) + (1 : Int32)) + (1 : Int32)) + (1 : Int32)))])) (fun _ k => XS.iloadN X0.here hx rfl (hb hby d_depth_60) rfl k) ?_
          refine OGo.retI X0 hx hret hlk (hb hby d_depth_61) ?_ (by decide) (by decide)
          refine ⟨?_, e0, rfl⟩
          rw [F_depth]
          rw [if_neg hc2]
          rw [if_neg hc26]
          rw [if_pos hc38]
          rw [if_neg hc40]
      · skip
        refine OGo.go (U' := T0.setTop (mkF m 39 #[.val (.ref a1), .val (.int (N x)), .val (.int (((N 0) + (1 : Int32)) + (1 : Int32))), .val (.int (N (fn (fn x))))] [])) (fun _ k => XS.icmpNo X0.here hx rfl (hb hby d_depth_36) rfl (feq (fun q => hc38 (N_inj (hr _ (hr _ (hr _ bx))) (hr _ (hr _ bx)) q))).1 k) ?_
        refine OGo.go (U' := T0.setTop (mkF m 42 #[.val (.ref a1), .val (.int (N x)), .val (.int ((((N 0) + (1 : Int32)) + (1 : Int32)) + (1 : Int32))), .val (.int (N (fn (fn x))))] [])) (fun _ k => XS.iinc X0.here hx rfl (hb hby d_depth_39) rfl (l' := #[.val (.ref a1), .val (.int (N x)), .val (.int ((((N 0) + (1 : Int32)) + (1 : Int32)) + (1 : Int32))), .val (.int (N (fn (fn x))))]) rfl k) ?_
        refine OGo.go (U' := T0.setTop (mkF m 43 #[.val (.ref a1), .val (.int (N x)), .val (.int ((((N 0) + (1 : Int32)) + (1 : Int32)) + (1 : Int32))), .val (.int (N (fn (fn x))))] [(.ref a1)])) (fun _ k => XS.aloadN X0.here hx rfl (hb hby d_depth_42) rfl rfl k) ?_
        refine OGo.go (U' := T0.setTop (mkF m 44 #[.val (.ref a1), .val (.int (N x)), .val (.int ((((N 0) + (1 : Int32)) + (1 : Int32)) + (1 : Int32))), .val (.int (N (fn (fn x))))] [(.int (N (fn (fn x)))), (.ref a1)])) (fun _ k => XS.iloadN X0.here hx rfl (hb hby d_depth_43) rfl k) ?_
        refine OGo.go (U' := T0.setTop (mkF m 45 #[.val (.ref a1), .val (.int (N x)), .val (.int ((((N 0) + (1 : Int32)) + (1 : Int32)) + (1 : Int32))), .val (.int (N (fn (fn x))))] [(.int (N (fn (fn (fn x)))))])) (fun _ k => ON.ld X0 hx hZ e0 A1 (j := (fn (fn x))) (hr _ (hr _ bx)) (g := (mkF m 44 #[.val (.ref a1), .val (.int (N x)), .val (.int ((((N 0) + (1 : Int32)) + (1 : Int32)) + (1 : Int32))), .val (.int (N (fn (fn x))))] [(.int (N (fn (fn x)))), (.ref a1)])) rfl rfl (hb hby d_depth_44) _ k) ?_
        refine OGo.go (U' := T0.setTop (mkF m 46 #[.val (.ref a1), .val (.int (N x)), .val (.int ((((N 0) + (1 : Int32)) + (1 : Int32)) + (1 : Int32))), .val (.int (N (fn (fn (fn x)))))] [])) (fun _ k => XS.istoreN X0.here hx rfl (hb hby d_depth_45) rfl (l' := #[.val (.ref a1), .val (.int (N x)), .val (.int ((((N 0) + (1 : Int32)) + (1 : Int32)) + (1 : Int32))), .val (.int (N (fn (fn (fn x)))))]) rfl k) ?_
        refine OGo.go (U' := T0.setTop (mkF m 47 #[.val (.ref a1), .val (.int (N x)), .val (.int ((((N 0) + (1 : Int32)) + (1 : Int32)) + (1 : Int32))), .val (.int (N (fn (fn (fn x)))))] [(.ref a1)])) (fun _ k => XS.aloadN X0.here hx rfl (hb hby d_depth_46) rfl rfl k) ?_
        refine OGo.go (U' := T0.setTop (mkF m 48 #[.val (.ref a1), .val (.int (N x)), .val (.int ((((N 0) + (1 : Int32)) + (1 : Int32)) + (1 : Int32))), .val (.int (N (fn (fn (fn x)))))] [(.int (N (fn (fn (fn x))))), (.ref a1)])) (fun _ k => XS.iloadN X0.here hx rfl (hb hby d_depth_47) rfl k) ?_
        refine OGo.go (U' := T0.setTop (mkF m 49 #[.val (.ref a1), .val (.int (N x)), .val (.int ((((N 0) + (1 : Int32)) + (1 : Int32)) + (1 : Int32))), .val (.int (N (fn (fn (fn x)))))] [(.int (N (fn (fn (fn (fn x))))))])) (fun _ k => ON.ld X0 hx hZ e0 A1 (j := (fn (fn (fn x)))) (hr _ (hr _ (hr _ bx))) (g := (mkF m 48 #[.val (.ref a1), .val (.int (N x)), .val (.int ((((N 0) + (1 : Int32)) + (1 : Int32)) + (1 : Int32))), .val (.int (N (fn (fn (fn x)))))] [(.int (N (fn (fn (fn x))))), (.ref a1)])) rfl rfl (hb hby d_depth_48) _ k) ?_
        refine OGo.go (U' := T0.setTop (mkF m 50 #[.val (.ref a1), .val (.int (N x)), .val (.int ((((N 0) + (1 : Int32)) + (1 : Int32)) + (1 : Int32))), .val (.int (N (fn (fn (fn x)))))] [(.int (N (fn (fn (fn x))))), (.int (N (fn (fn (fn (fn x))))))])) (fun _ k => XS.iloadN X0.here hx rfl (hb hby d_depth_49) rfl k) ?_
        by_cases hc44 : (fn (fn (fn (fn x)))) = (fn (fn (fn x)))
        · skip
          refine OGo.go (U' := T0.setTop (mkF m 60 #[.val (.ref a1), .val (.int (N x)), .val (.int ((((N 0) + (1 : Int32)) + (1 : Int32)) + (1 : Int32))), .val (.int (N (fn (fn (fn x)))))] [])) (fun _ k => XS.icmpYes X0.here hx rfl (pc0 := 50) (pc' := 60) rfl (hb hby d_depth_50) rfl (teq (congrArg N hc44)).1 (by decide) (by decide) k) ?_
          refine OGo.go (U' := T0.setTop (mkF m 61 #[.val (.ref a1), .val (.int (N x)), .val (.int ((((N 0) + (1 : Int32)) + (1 : Int32)) + (1 : Int32))), .val (.int (N (fn (fn (fn x)))))] [(.int ((((N 0) + (1 : Int32)) + (1 : Int32)) + (1 : Int32)))])) (fun _ k => XS.iloadN X0.here hx rfl (hb hby d_depth_60) rfl k) ?_
          refine OGo.retI X0 hx hret hlk (hb hby d_depth_61) ?_ (by decide) (by decide)
          refine ⟨?_, e0, rfl⟩
          rw [F_depth]
          rw [if_neg hc2]
          rw [if_neg hc26]
          rw [if_neg hc38]
          rw [if_pos hc44]
        · skip
          refine OGo.go (U' := T0.setTop (mkF m 53 #[.val (.ref a1), .val (.int (N x)), .val (.int ((((N 0) + (1 : Int32)) + (1 : Int32)) + (1 : Int32))), .val (.int (N (fn (fn (fn x)))))] [])) (fun _ k => XS.icmpNo X0.here hx rfl (hb hby d_depth_50) rfl (feq (fun q => hc44 (N_inj (hr _ (hr _ (hr _ (hr _ bx)))) (hr _ (hr _ (hr _ bx))) q))).1 k) ?_
          refine OGo.go (U' := T0.setTop (mkF m 56 #[.val (.ref a1), .val (.int (N x)), .val (.int (((((N 0) + (1 : Int32)) + (1 : Int32)) + (1 : Int32)) + (1 : Int32))), .val (.int (N (fn (fn (fn x)))))] [])) (fun _ k => XS.iinc X0.here hx rfl (hb hby d_depth_53) rfl (l' := #[.val (.ref a1), .val (.int (N x)), .val (.int (((((N 0) + (1 : Int32)) + (1 : Int32)) + (1 : Int32)) + (1 : Int32))), .val (.int (N (fn (fn (fn x)))))]) rfl k) ?_
          refine OGo.go (U' := T0.setTop (mkF m 57 #[.val (.ref a1), .val (.int (N x)), .val (.int (((((N 0) + (1 : Int32)) + (1 : Int32)) + (1 : Int32)) + (1 : Int32))), .val (.int (N (fn (fn (fn x)))))] [(.ref a1)])) (fun _ k => XS.aloadN X0.here hx rfl (hb hby d_depth_56) rfl rfl k) ?_
          refine OGo.go (U' := T0.setTop (mkF m 58 #[.val (.ref a1), .val (.int (N x)), .val (.int (((((N 0) + (1 : Int32)) + (1 : Int32)) + (1 : Int32)) + (1 : Int32))), .val (.int (N (fn (fn (fn x)))))] [(.int (N (fn (fn (fn x))))), (.ref a1)])) (fun _ k => XS.iloadN X0.here hx rfl (hb hby d_depth_57) rfl k) ?_
          refine OGo.go (U' := T0.setTop (mkF m 59 #[.val (.ref a1), .val (.int (N x)), .val (.int (((((N 0) + (1 : Int32)) + (1 : Int32)) + (1 : Int32)) + (1 : Int32))), .val (.int (N (fn (fn (fn x)))))] [(.int (N (fn (fn (fn (fn x))))))])) (fun _ k => ON.ld X0 hx hZ e0 A1 (j := (fn (fn (fn x)))) (hr _ (hr _ (hr _ bx))) (g := (mkF m 58 #[.val (.ref a1), .val (.int (N x)), .val (.int (((((N 0) + (1 : Int32)) + (1 : Int32)) + (1 : Int32)) + (1 : Int32))), .val (.int (N (fn (fn (fn x)))))] [(.int (N (fn (fn (fn x))))), (.ref a1)])) rfl rfl (hb hby d_depth_58) _ k) ?_
          refine OGo.go (U' := T0.setTop (mkF m 60 #[.val (.ref a1), .val (.int (N x)), .val (.int (((((N 0) + (1 : Int32)) + (1 : Int32)) + (1 : Int32)) + (1 : Int32))), .val (.int (N (fn (fn (fn (fn x))))))] [])) (fun _ k => XS.istoreN X0.here hx rfl (hb hby d_depth_59) rfl (l' := #[.val (.ref a1), .val (.int (N x)), .val (.int (((((N 0) + (1 : Int32)) + (1 : Int32)) + (1 : Int32)) + (1 : Int32))), .val (.int (N (fn (fn (fn (fn x))))))]) rfl k) ?_
          refine OGo.go (U' := T0.setTop (mkF m 61 #[.val (.ref a1), .val (.int (N x)), .val (.int (((((N 0) + (1 : Int32)) + (1 : Int32)) + (1 : Int32)) + (1 : Int32))), .val (.int (N (fn (fn (fn (fn x))))))] [(.int (((((N 0) + (1 : Int32)) + (1 : Int32)) + (1 : Int32)) + (1 : Int32)))])) (fun _ k => XS.iloadN X0.here hx rfl (hb hby d_depth_60) rfl k) ?_
          refine OGo.retI X0 hx hret hlk (hb hby d_depth_61) ?_ (by decide) (by decide)
          refine ⟨?_, e0, rfl⟩
          rw [F_depth]
          rw [if_neg hc2]
          rw [if_neg hc26]
          rw [if_neg hc38]
          rw [if_neg hc44]
def F_onp (fn : Nat → Nat) (x : Nat) (i : Nat) : Int32 := (nar .boolean (if i = x then (N 1) else (if i = (fn x) then (N 1) else (if i = (fn (fn x)) then (N 1) else (if i = (fn (fn (fn x))) then (N 1) else (if i = (fn (fn (fn (fn x)))) then (N 1) else (N 0)))))))
theorem d_onp_0 : decode method_7_code 0 = .ok (.iload_n 1, 1) := by decide +kernel
theorem d_onp_1 : decode method_7_code 1 = .ok (.istore_n 3, 1) := by decide +kernel
theorem d_onp_2 : decode method_7_code 2 = .ok (.aload_n 0, 1) := by decide +kernel
theorem d_onp_3 : decode method_7_code 3 = .ok (.iload_n 3, 1) := by decide +kernel
theorem d_onp_4 : decode method_7_code 4 = .ok (.iaload, 1) := by decide +kernel
theorem d_onp_5 : decode method_7_code 5 = .ok (.istore 4, 2) := by decide +kernel
theorem d_onp_7 : decode method_7_code 7 = .ok (.aload_n 0, 1) := by decide +kernel
theorem d_onp_8 : decode method_7_code 8 = .ok (.iload 4, 2) := by decide +kernel
theorem d_onp_10 : decode method_7_code 10 = .ok (.iaload, 1) := by decide +kernel
theorem d_onp_11 : decode method_7_code 11 = .ok (.istore 5, 2) := by decide +kernel
theorem d_onp_13 : decode method_7_code 13 = .ok (.aload_n 0, 1) := by decide +kernel
theorem d_onp_14 : decode method_7_code 14 = .ok (.iload 5, 2) := by decide +kernel
theorem d_onp_16 : decode method_7_code 16 = .ok (.iaload, 1) := by decide +kernel
theorem d_onp_17 : decode method_7_code 17 = .ok (.istore 6, 2) := by decide +kernel
theorem d_onp_19 : decode method_7_code 19 = .ok (.aload_n 0, 1) := by decide +kernel
theorem d_onp_20 : decode method_7_code 20 = .ok (.iload 6, 2) := by decide +kernel
theorem d_onp_22 : decode method_7_code 22 = .ok (.iaload, 1) := by decide +kernel
theorem d_onp_23 : decode method_7_code 23 = .ok (.istore 7, 2) := by decide +kernel
theorem d_onp_25 : decode method_7_code 25 = .ok (.iload_n 2, 1) := by decide +kernel
theorem d_onp_26 : decode method_7_code 26 = .ok (.iload_n 3, 1) := by decide +kernel
theorem d_onp_27 : decode method_7_code 27 = .ok (.if_icmp .eq 27, 3) := by decide +kernel
theorem d_onp_30 : decode method_7_code 30 = .ok (.iload_n 2, 1) := by decide +kernel
theorem d_onp_31 : decode method_7_code 31 = .ok (.iload 4, 2) := by decide +kernel
theorem d_onp_33 : decode method_7_code 33 = .ok (.if_icmp .eq 21, 3) := by decide +kernel
theorem d_onp_36 : decode method_7_code 36 = .ok (.iload_n 2, 1) := by decide +kernel
theorem d_onp_37 : decode method_7_code 37 = .ok (.iload 5, 2) := by decide +kernel
theorem d_onp_39 : decode method_7_code 39 = .ok (.if_icmp .eq 15, 3) := by decide +kernel
theorem d_onp_42 : decode method_7_code 42 = .ok (.iload_n 2, 1) := by decide +kernel
theorem d_onp_43 : decode method_7_code 43 = .ok (.iload 6, 2) := by decide +kernel
theorem d_onp_45 : decode method_7_code 45 = .ok (.if_icmp .eq 9, 3) := by decide +kernel
theorem d_onp_48 : decode method_7_code 48 = .ok (.iload_n 2, 1) := by decide +kernel
theorem d_onp_49 : decode method_7_code 49 = .ok (.iload 7, 2) := by decide +kernel
theorem d_onp_51 : decode method_7_code 51 = .ok (.if_icmp .ne 7, 3) := by decide +kernel
theorem d_onp_54 : decode method_7_code 54 = .ok (.iconst 1, 1) := by decide +kernel
theorem d_onp_55 : decode method_7_code 55 = .ok (.goto 4, 3) := by decide +kernel
theorem d_onp_58 : decode method_7_code 58 = .ok (.iconst 0, 1) := by decide +kernel
theorem d_onp_59 : decode method_7_code 59 = .ok (.ireturn, 1) := by decide +kernel
theorem ef_onp (m : MethodId) (a1 : Addr) (x : Nat) (i : Nat) : entryFrame m #[(.ref a1), (.int (N x)), (.int (N i))] 8 = mkF m 0 #[.val (.ref a1), .val (.int (N x)), .val (.int (N i)), .unset, .unset, .unset, .unset, .unset] [] := by first | (simp [entryFrame, mkF, argsToLocals, Value.category]; done) | rfl
theorem pn_onp : plainFor (⟨"com/example/sieveplan/sieveplan/plan/JoinOrderNamedPinLaw", "onPath", "([III)Z"⟩ : MethodName) = true := by first | exact plainFor_of_name (by first | (simp [plainName, overriddenIn]; done) | decide +kernel) | decide +kernel
set_option maxRecDepth 65536 in
set_option maxHeartbeats 40000000 in
theorem rm_onp (l : Launch) (Z : State) (a0 : Array Value) (hw : ∀ d ∈ tables_1, d.before a0 Z = true) (a1 : Addr) (x : Nat) (i : Nat) (fn : Nat → Nat) (h0 : Heap) (A1 : ON Z h0 a1 fn) (hr : R5 fn) (bx : x < 5) (bi : i < 5) :
    OMet l Z (⟨"com/example/sieveplan/sieveplan/plan/JoinOrderNamedPinLaw", "onPath", "([III)Z"⟩ : MethodName) method_7_code 8 (some .boolean) [] ({ frames := 0, cells := 0, slots := 0, locals := 0 } : Room) #[(.ref a1), (.int (N x)), (.int (N i))] h0 (OPure (some (.int (F_onp fn x i))) h0) := by
  refine OMet.of pn_onp ?_
  intro p e s m below meth c T0 X0 hx hby hml hown0 hnm hret hlk hZ e0
  have hown : s.vm.findClass "com/example/sieveplan/sieveplan/plan/JoinOrderNamedPinLaw" = some m.cls := hown0
  refine OGo.go (fun t k => castTop (ef_onp m a1 x i) k) ?_
  refine OGo.go (U' := T0.setTop (mkF m 1 #[.val (.ref a1), .val (.int (N x)), .val (.int (N i)), .unset, .unset, .unset, .unset, .unset] [(.int (N x))])) (fun _ k => XS.iloadN X0.here hx rfl (hb hby d_onp_0) rfl k) ?_
  refine OGo.go (U' := T0.setTop (mkF m 2 #[.val (.ref a1), .val (.int (N x)), .val (.int (N i)), .val (.int (N x)), .unset, .unset, .unset, .unset] [])) (fun _ k => XS.istoreN X0.here hx rfl (hb hby d_onp_1) rfl (l' := #[.val (.ref a1), .val (.int (N x)), .val (.int (N i)), .val (.int (N x)), .unset, .unset, .unset, .unset]) rfl k) ?_
  refine OGo.go (U' := T0.setTop (mkF m 3 #[.val (.ref a1), .val (.int (N x)), .val (.int (N i)), .val (.int (N x)), .unset, .unset, .unset, .unset] [(.ref a1)])) (fun _ k => XS.aloadN X0.here hx rfl (hb hby d_onp_2) rfl rfl k) ?_
  refine OGo.go (U' := T0.setTop (mkF m 4 #[.val (.ref a1), .val (.int (N x)), .val (.int (N i)), .val (.int (N x)), .unset, .unset, .unset, .unset] [(.int (N x)), (.ref a1)])) (fun _ k => XS.iloadN X0.here hx rfl (hb hby d_onp_3) rfl k) ?_
  refine OGo.go (U' := T0.setTop (mkF m 5 #[.val (.ref a1), .val (.int (N x)), .val (.int (N i)), .val (.int (N x)), .unset, .unset, .unset, .unset] [(.int (N (fn x)))])) (fun _ k => ON.ld X0 hx hZ e0 A1 (j := x) bx (g := (mkF m 4 #[.val (.ref a1), .val (.int (N x)), .val (.int (N i)), .val (.int (N x)), .unset, .unset, .unset, .unset] [(.int (N x)), (.ref a1)])) rfl rfl (hb hby d_onp_4) _ k) ?_
  refine OGo.go (U' := T0.setTop (mkF m 7 #[.val (.ref a1), .val (.int (N x)), .val (.int (N i)), .val (.int (N x)), .val (.int (N (fn x))), .unset, .unset, .unset] [])) (fun _ k => XS.istore X0.here hx rfl (hb hby d_onp_5) rfl (l' := #[.val (.ref a1), .val (.int (N x)), .val (.int (N i)), .val (.int (N x)), .val (.int (N (fn x))), .unset, .unset, .unset]) rfl k) ?_
  refine OGo.go (U' := T0.setTop (mkF m 8 #[.val (.ref a1), .val (.int (N x)), .val (.int (N i)), .val (.int (N x)), .val (.int (N (fn x))), .unset, .unset, .unset] [(.ref a1)])) (fun _ k => XS.aloadN X0.here hx rfl (hb hby d_onp_7) rfl rfl k) ?_
  refine OGo.go (U' := T0.setTop (mkF m 10 #[.val (.ref a1), .val (.int (N x)), .val (.int (N i)), .val (.int (N x)), .val (.int (N (fn x))), .unset, .unset, .unset] [(.int (N (fn x))), (.ref a1)])) (fun _ k => XS.iload X0.here hx rfl (hb hby d_onp_8) rfl k) ?_
  refine OGo.go (U' := T0.setTop (mkF m 11 #[.val (.ref a1), .val (.int (N x)), .val (.int (N i)), .val (.int (N x)), .val (.int (N (fn x))), .unset, .unset, .unset] [(.int (N (fn (fn x))))])) (fun _ k => ON.ld X0 hx hZ e0 A1 (j := (fn x)) (hr _ bx) (g := (mkF m 10 #[.val (.ref a1), .val (.int (N x)), .val (.int (N i)), .val (.int (N x)), .val (.int (N (fn x))), .unset, .unset, .unset] [(.int (N (fn x))), (.ref a1)])) rfl rfl (hb hby d_onp_10) _ k) ?_
  refine OGo.go (U' := T0.setTop (mkF m 13 #[.val (.ref a1), .val (.int (N x)), .val (.int (N i)), .val (.int (N x)), .val (.int (N (fn x))), .val (.int (N (fn (fn x)))), .unset, .unset] [])) (fun _ k => XS.istore X0.here hx rfl (hb hby d_onp_11) rfl (l' := #[.val (.ref a1), .val (.int (N x)), .val (.int (N i)), .val (.int (N x)), .val (.int (N (fn x))), .val (.int (N (fn (fn x)))), .unset, .unset]) rfl k) ?_
  refine OGo.go (U' := T0.setTop (mkF m 14 #[.val (.ref a1), .val (.int (N x)), .val (.int (N i)), .val (.int (N x)), .val (.int (N (fn x))), .val (.int (N (fn (fn x)))), .unset, .unset] [(.ref a1)])) (fun _ k => XS.aloadN X0.here hx rfl (hb hby d_onp_13) rfl rfl k) ?_
  refine OGo.go (U' := T0.setTop (mkF m 16 #[.val (.ref a1), .val (.int (N x)), .val (.int (N i)), .val (.int (N x)), .val (.int (N (fn x))), .val (.int (N (fn (fn x)))), .unset, .unset] [(.int (N (fn (fn x)))), (.ref a1)])) (fun _ k => XS.iload X0.here hx rfl (hb hby d_onp_14) rfl k) ?_
  refine OGo.go (U' := T0.setTop (mkF m 17 #[.val (.ref a1), .val (.int (N x)), .val (.int (N i)), .val (.int (N x)), .val (.int (N (fn x))), .val (.int (N (fn (fn x)))), .unset, .unset] [(.int (N (fn (fn (fn x)))))])) (fun _ k => ON.ld X0 hx hZ e0 A1 (j := (fn (fn x))) (hr _ (hr _ bx)) (g := (mkF m 16 #[.val (.ref a1), .val (.int (N x)), .val (.int (N i)), .val (.int (N x)), .val (.int (N (fn x))), .val (.int (N (fn (fn x)))), .unset, .unset] [(.int (N (fn (fn x)))), (.ref a1)])) rfl rfl (hb hby d_onp_16) _ k) ?_
  refine OGo.go (U' := T0.setTop (mkF m 19 #[.val (.ref a1), .val (.int (N x)), .val (.int (N i)), .val (.int (N x)), .val (.int (N (fn x))), .val (.int (N (fn (fn x)))), .val (.int (N (fn (fn (fn x))))), .unset] [])) (fun _ k => XS.istore X0.here hx rfl (hb hby d_onp_17) rfl (l' := #[.val (.ref a1), .val (.int (N x)), .val (.int (N i)), .val (.int (N x)), .val (.int (N (fn x))), .val (.int (N (fn (fn x)))), .val (.int (N (fn (fn (fn x))))), .unset]) rfl k) ?_
  refine OGo.go (U' := T0.setTop (mkF m 20 #[.val (.ref a1), .val (.int (N x)), .val (.int (N i)), .val (.int (N x)), .val (.int (N (fn x))), .val (.int (N (fn (fn x)))), .val (.int (N (fn (fn (fn x))))), .unset] [(.ref a1)])) (fun _ k => XS.aloadN X0.here hx rfl (hb hby d_onp_19) rfl rfl k) ?_
  refine OGo.go (U' := T0.setTop (mkF m 22 #[.val (.ref a1), .val (.int (N x)), .val (.int (N i)), .val (.int (N x)), .val (.int (N (fn x))), .val (.int (N (fn (fn x)))), .val (.int (N (fn (fn (fn x))))), .unset] [(.int (N (fn (fn (fn x))))), (.ref a1)])) (fun _ k => XS.iload X0.here hx rfl (hb hby d_onp_20) rfl k) ?_
  refine OGo.go (U' := T0.setTop (mkF m 23 #[.val (.ref a1), .val (.int (N x)), .val (.int (N i)), .val (.int (N x)), .val (.int (N (fn x))), .val (.int (N (fn (fn x)))), .val (.int (N (fn (fn (fn x))))), .unset] [(.int (N (fn (fn (fn (fn x))))))])) (fun _ k => ON.ld X0 hx hZ e0 A1 (j := (fn (fn (fn x)))) (hr _ (hr _ (hr _ bx))) (g := (mkF m 22 #[.val (.ref a1), .val (.int (N x)), .val (.int (N i)), .val (.int (N x)), .val (.int (N (fn x))), .val (.int (N (fn (fn x)))), .val (.int (N (fn (fn (fn x))))), .unset] [(.int (N (fn (fn (fn x))))), (.ref a1)])) rfl rfl (hb hby d_onp_22) _ k) ?_
  refine OGo.go (U' := T0.setTop (mkF m 25 #[.val (.ref a1), .val (.int (N x)), .val (.int (N i)), .val (.int (N x)), .val (.int (N (fn x))), .val (.int (N (fn (fn x)))), .val (.int (N (fn (fn (fn x))))), .val (.int (N (fn (fn (fn (fn x))))))] [])) (fun _ k => XS.istore X0.here hx rfl (hb hby d_onp_23) rfl (l' := #[.val (.ref a1), .val (.int (N x)), .val (.int (N i)), .val (.int (N x)), .val (.int (N (fn x))), .val (.int (N (fn (fn x)))), .val (.int (N (fn (fn (fn x))))), .val (.int (N (fn (fn (fn (fn x))))))]) rfl k) ?_
  refine OGo.go (U' := T0.setTop (mkF m 26 #[.val (.ref a1), .val (.int (N x)), .val (.int (N i)), .val (.int (N x)), .val (.int (N (fn x))), .val (.int (N (fn (fn x)))), .val (.int (N (fn (fn (fn x))))), .val (.int (N (fn (fn (fn (fn x))))))] [(.int (N i))])) (fun _ k => XS.iloadN X0.here hx rfl (hb hby d_onp_25) rfl k) ?_
  refine OGo.go (U' := T0.setTop (mkF m 27 #[.val (.ref a1), .val (.int (N x)), .val (.int (N i)), .val (.int (N x)), .val (.int (N (fn x))), .val (.int (N (fn (fn x)))), .val (.int (N (fn (fn (fn x))))), .val (.int (N (fn (fn (fn (fn x))))))] [(.int (N x)), (.int (N i))])) (fun _ k => XS.iloadN X0.here hx rfl (hb hby d_onp_26) rfl k) ?_
  refine OGo.ite1 (P := i = x) (fun (z6 : Int32) => T0.setTop (mkF m 59 #[.val (.ref a1), .val (.int (N x)), .val (.int (N i)), .val (.int (N x)), .val (.int (N (fn x))), .val (.int (N (fn (fn x)))), .val (.int (N (fn (fn (fn x))))), .val (.int (N (fn (fn (fn (fn x))))))] [(.int z6)])) (x := (N 1)) (y := (if i = (fn x) then (N 1) else (if i = (fn (fn x)) then (N 1) else (if i = (fn (fn (fn x))) then (N 1) else (if i = (fn (fn (fn (fn x)))) then (N 1) else (N 0)))))) (fun hc5 k7 => ?_) (fun hc5 k7 => ?_) ?_
  · skip
    refine OGo.go (U' := T0.setTop (mkF m 54 #[.val (.ref a1), .val (.int (N x)), .val (.int (N i)), .val (.int (N x)), .val (.int (N (fn x))), .val (.int (N (fn (fn x)))), .val (.int (N (fn (fn (fn x))))), .val (.int (N (fn (fn (fn (fn x))))))] [])) (fun _ k => XS.icmpYes X0.here hx rfl (pc0 := 27) (pc' := 54) rfl (hb hby d_onp_27) rfl (teq (congrArg N hc5)).1 (by decide) (by decide) k) ?_
    refine OGo.go (U' := T0.setTop (mkF m 55 #[.val (.ref a1), .val (.int (N x)), .val (.int (N i)), .val (.int (N x)), .val (.int (N (fn x))), .val (.int (N (fn (fn x)))), .val (.int (N (fn (fn (fn x))))), .val (.int (N (fn (fn (fn (fn x))))))] [(.int (N 1))])) (fun _ k => XS.iconst X0.here hx rfl (hb hby d_onp_54) k) ?_
    refine OGo.go (U' := T0.setTop (mkF m 59 #[.val (.ref a1), .val (.int (N x)), .val (.int (N i)), .val (.int (N x)), .val (.int (N (fn x))), .val (.int (N (fn (fn x)))), .val (.int (N (fn (fn (fn x))))), .val (.int (N (fn (fn (fn (fn x))))))] [(.int (N 1))])) (fun _ k => XS.goto X0.here hx rfl (pc0 := 55) (pc' := 59) rfl (hb hby d_onp_55) (by decide) (by decide) k) ?_
    exact k7
  · skip
    refine OGo.go (U' := T0.setTop (mkF m 30 #[.val (.ref a1), .val (.int (N x)), .val (.int (N i)), .val (.int (N x)), .val (.int (N (fn x))), .val (.int (N (fn (fn x)))), .val (.int (N (fn (fn (fn x))))), .val (.int (N (fn (fn (fn (fn x))))))] [])) (fun _ k => XS.icmpNo X0.here hx rfl (hb hby d_onp_27) rfl (feq (fun q => hc5 (N_inj bi bx q))).1 k) ?_
    refine OGo.go (U' := T0.setTop (mkF m 31 #[.val (.ref a1), .val (.int (N x)), .val (.int (N i)), .val (.int (N x)), .val (.int (N (fn x))), .val (.int (N (fn (fn x)))), .val (.int (N (fn (fn (fn x))))), .val (.int (N (fn (fn (fn (fn x))))))] [(.int (N i))])) (fun _ k => XS.iloadN X0.here hx rfl (hb hby d_onp_30) rfl k) ?_
    refine OGo.go (U' := T0.setTop (mkF m 33 #[.val (.ref a1), .val (.int (N x)), .val (.int (N i)), .val (.int (N x)), .val (.int (N (fn x))), .val (.int (N (fn (fn x)))), .val (.int (N (fn (fn (fn x))))), .val (.int (N (fn (fn (fn (fn x))))))] [(.int (N (fn x))), (.int (N i))])) (fun _ k => XS.iload X0.here hx rfl (hb hby d_onp_31) rfl k) ?_
    refine OGo.ite1 (P := i = (fn x)) (fun (z9 : Int32) => T0.setTop (mkF m 59 #[.val (.ref a1), .val (.int (N x)), .val (.int (N i)), .val (.int (N x)), .val (.int (N (fn x))), .val (.int (N (fn (fn x)))), .val (.int (N (fn (fn (fn x))))), .val (.int (N (fn (fn (fn (fn x))))))] [(.int z9)])) (x := (N 1)) (y := (if i = (fn (fn x)) then (N 1) else (if i = (fn (fn (fn x))) then (N 1) else (if i = (fn (fn (fn (fn x)))) then (N 1) else (N 0))))) (fun hc8 k10 => ?_) (fun hc8 k10 => ?_) (fun z9 hz9 => by subst hz9; exact k7)
    · skip
      refine OGo.go (U' := T0.setTop (mkF m 54 #[.val (.ref a1), .val (.int (N x)), .val (.int (N i)), .val (.int (N x)), .val (.int (N (fn x))), .val (.int (N (fn (fn x)))), .val (.int (N (fn (fn (fn x))))), .val (.int (N (fn (fn (fn (fn x))))))] [])) (fun _ k => XS.icmpYes X0.here hx rfl (pc0 := 33) (pc' := 54) rfl (hb hby d_onp_33) rfl (teq (congrArg N hc8)).1 (by decide) (by decide) k) ?_
      refine OGo.go (U' := T0.setTop (mkF m 55 #[.val (.ref a1), .val (.int (N x)), .val (.int (N i)), .val (.int (N x)), .val (.int (N (fn x))), .val (.int (N (fn (fn x)))), .val (.int (N (fn (fn (fn x))))), .val (.int (N (fn (fn (fn (fn x))))))] [(.int (N 1))])) (fun _ k => XS.iconst X0.here hx rfl (hb hby d_onp_54) k) ?_
      refine OGo.go (U' := T0.setTop (mkF m 59 #[.val (.ref a1), .val (.int (N x)), .val (.int (N i)), .val (.int (N x)), .val (.int (N (fn x))), .val (.int (N (fn (fn x)))), .val (.int (N (fn (fn (fn x))))), .val (.int (N (fn (fn (fn (fn x))))))] [(.int (N 1))])) (fun _ k => XS.goto X0.here hx rfl (pc0 := 55) (pc' := 59) rfl (hb hby d_onp_55) (by decide) (by decide) k) ?_
      exact k10
    · skip
      refine OGo.go (U' := T0.setTop (mkF m 36 #[.val (.ref a1), .val (.int (N x)), .val (.int (N i)), .val (.int (N x)), .val (.int (N (fn x))), .val (.int (N (fn (fn x)))), .val (.int (N (fn (fn (fn x))))), .val (.int (N (fn (fn (fn (fn x))))))] [])) (fun _ k => XS.icmpNo X0.here hx rfl (hb hby d_onp_33) rfl (feq (fun q => hc8 (N_inj bi (hr _ bx) q))).1 k) ?_
      refine OGo.go (U' := T0.setTop (mkF m 37 #[.val (.ref a1), .val (.int (N x)), .val (.int (N i)), .val (.int (N x)), .val (.int (N (fn x))), .val (.int (N (fn (fn x)))), .val (.int (N (fn (fn (fn x))))), .val (.int (N (fn (fn (fn (fn x))))))] [(.int (N i))])) (fun _ k => XS.iloadN X0.here hx rfl (hb hby d_onp_36) rfl k) ?_
      refine OGo.go (U' := T0.setTop (mkF m 39 #[.val (.ref a1), .val (.int (N x)), .val (.int (N i)), .val (.int (N x)), .val (.int (N (fn x))), .val (.int (N (fn (fn x)))), .val (.int (N (fn (fn (fn x))))), .val (.int (N (fn (fn (fn (fn x))))))] [(.int (N (fn (fn x)))), (.int (N i))])) (fun _ k => XS.iload X0.here hx rfl (hb hby d_onp_37) rfl k) ?_
      refine OGo.ite1 (P := i = (fn (fn x))) (fun (z12 : Int32) => T0.setTop (mkF m 59 #[.val (.ref a1), .val (.int (N x)), .val (.int (N i)), .val (.int (N x)), .val (.int (N (fn x))), .val (.int (N (fn (fn x)))), .val (.int (N (fn (fn (fn x))))), .val (.int (N (fn (fn (fn (fn x))))))] [(.int z12)])) (x := (N 1)) (y := (if i = (fn (fn (fn x))) then (N 1) else (if i = (fn (fn (fn (fn x)))) then (N 1) else (N 0)))) (fun hc11 k13 => ?_) (fun hc11 k13 => ?_) (fun z12 hz12 => by subst hz12; exact k10)
      · skip
        refine OGo.go (U' := T0.setTop (mkF m 54 #[.val (.ref a1), .val (.int (N x)), .val (.int (N i)), .val (.int (N x)), .val (.int (N (fn x))), .val (.int (N (fn (fn x)))), .val (.int (N (fn (fn (fn x))))), .val (.int (N (fn (fn (fn (fn x))))))] [])) (fun _ k => XS.icmpYes X0.here hx rfl (pc0 := 39) (pc' := 54) rfl (hb hby d_onp_39) rfl (teq (congrArg N hc11)).1 (by decide) (by decide) k) ?_
        refine OGo.go (U' := T0.setTop (mkF m 55 #[.val (.ref a1), .val (.int (N x)), .val (.int (N i)), .val (.int (N x)), .val (.int (N (fn x))), .val (.int (N (fn (fn x)))), .val (.int (N (fn (fn (fn x))))), .val (.int (N (fn (fn (fn (fn x))))))] [(.int (N 1))])) (fun _ k => XS.iconst X0.here hx rfl (hb hby d_onp_54) k) ?_
        refine OGo.go (U' := T0.setTop (mkF m 59 #[.val (.ref a1), .val (.int (N x)), .val (.int (N i)), .val (.int (N x)), .val (.int (N (fn x))), .val (.int (N (fn (fn x)))), .val (.int (N (fn (fn (fn x))))), .val (.int (N (fn (fn (fn (fn x))))))] [(.int (N 1))])) (fun _ k => XS.goto X0.here hx rfl (pc0 := 55) (pc' := 59) rfl (hb hby d_onp_55) (by decide) (by decide) k) ?_
        exact k13
      · skip
        refine OGo.go (U' := T0.setTop (mkF m 42 #[.val (.ref a1), .val (.int (N x)), .val (.int (N i)), .val (.int (N x)), .val (.int (N (fn x))), .val (.int (N (fn (fn x)))), .val (.int (N (fn (fn (fn x))))), .val (.int (N (fn (fn (fn (fn x))))))] [])) (fun _ k => XS.icmpNo X0.here hx rfl (hb hby d_onp_39) rfl (feq (fun q => hc11 (N_inj bi (hr _ (hr _ bx)) q))).1 k) ?_
        refine OGo.go (U' := T0.setTop (mkF m 43 #[.val (.ref a1), .val (.int (N x)), .val (.int (N i)), .val (.int (N x)), .val (.int (N (fn x))), .val (.int (N (fn (fn x)))), .val (.int (N (fn (fn (fn x))))), .val (.int (N (fn (fn (fn (fn x))))))] [(.int (N i))])) (fun _ k => XS.iloadN X0.here hx rfl (hb hby d_onp_42) rfl k) ?_
        refine OGo.go (U' := T0.setTop (mkF m 45 #[.val (.ref a1), .val (.int (N x)), .val (.int (N i)), .val (.int (N x)), .val (.int (N (fn x))), .val (.int (N (fn (fn x)))), .val (.int (N (fn (fn (fn x))))), .val (.int (N (fn (fn (fn (fn x))))))] [(.int (N (fn (fn (fn x))))), (.int (N i))])) (fun _ k => XS.iload X0.here hx rfl (hb hby d_onp_43) rfl k) ?_
        refine OGo.ite1 (P := i = (fn (fn (fn x)))) (fun (z15 : Int32) => T0.setTop (mkF m 59 #[.val (.ref a1), .val (.int (N x)), .val (.int (N i)), .val (.int (N x)), .val (.int (N (fn x))), .val (.int (N (fn (fn x)))), .val (.int (N (fn (fn (fn x))))), .val (.int (N (fn (fn (fn (fn x))))))] [(.int z15)])) (x := (N 1)) (y := (if i = (fn (fn (fn (fn x)))) then (N 1) else (N 0))) (fun hc14 k16 => ?_) (fun hc14 k16 => ?_) (fun z15 hz15 => by subst hz15; exact k13)
        · skip
          refine OGo.go (U' := T0.setTop (mkF m 54 #[.val (.ref a1), .val (.int (N x)), .val (.int (N i)), .val (.int (N x)), .val (.int (N (fn x))), .val (.int (N (fn (fn x)))), .val (.int (N (fn (fn (fn x))))), .val (.int (N (fn (fn (fn (fn x))))))] [])) (fun _ k => XS.icmpYes X0.here hx rfl (pc0 := 45) (pc' := 54) rfl (hb hby d_onp_45) rfl (teq (congrArg N hc14)).1 (by decide) (by decide) k) ?_
          refine OGo.go (U' := T0.setTop (mkF m 55 #[.val (.ref a1), .val (.int (N x)), .val (.int (N i)), .val (.int (N x)), .val (.int (N (fn x))), .val (.int (N (fn (fn x)))), .val (.int (N (fn (fn (fn x))))), .val (.int (N (fn (fn (fn (fn x))))))] [(.int (N 1))])) (fun _ k => XS.iconst X0.here hx rfl (hb hby d_onp_54) k) ?_
          refine OGo.go (U' := T0.setTop (mkF m 59 #[.val (.ref a1), .val (.int (N x)), .val (.int (N i)), .val (.int (N x)), .val (.int (N (fn x))), .val (.int (N (fn (fn x)))), .val (.int (N (fn (fn (fn x))))), .val (.int (N (fn (fn (fn (fn x))))))] [(.int (N 1))])) (fun _ k => XS.goto X0.here hx rfl (pc0 := 55) (pc' := 59) rfl (hb hby d_onp_55) (by decide) (by decide) k) ?_
          exact k16
        · skip
          refine OGo.go (U' := T0.setTop (mkF m 48 #[.val (.ref a1), .val (.int (N x)), .val (.int (N i)), .val (.int (N x)), .val (.int (N (fn x))), .val (.int (N (fn (fn x)))), .val (.int (N (fn (fn (fn x))))), .val (.int (N (fn (fn (fn (fn x))))))] [])) (fun _ k => XS.icmpNo X0.here hx rfl (hb hby d_onp_45) rfl (feq (fun q => hc14 (N_inj bi (hr _ (hr _ (hr _ bx))) q))).1 k) ?_
          refine OGo.go (U' := T0.setTop (mkF m 49 #[.val (.ref a1), .val (.int (N x)), .val (.int (N i)), .val (.int (N x)), .val (.int (N (fn x))), .val (.int (N (fn (fn x)))), .val (.int (N (fn (fn (fn x))))), .val (.int (N (fn (fn (fn (fn x))))))] [(.int (N i))])) (fun _ k => XS.iloadN X0.here hx rfl (hb hby d_onp_48) rfl k) ?_
          refine OGo.go (U' := T0.setTop (mkF m 51 #[.val (.ref a1), .val (.int (N x)), .val (.int (N i)), .val (.int (N x)), .val (.int (N (fn x))), .val (.int (N (fn (fn x)))), .val (.int (N (fn (fn (fn x))))), .val (.int (N (fn (fn (fn (fn x))))))] [(.int (N (fn (fn (fn (fn x)))))), (.int (N i))])) (fun _ k => XS.iload X0.here hx rfl (hb hby d_onp_49) rfl k) ?_
          refine OGo.ite1 (P := i = (fn (fn (fn (fn x))))) (fun (z18 : Int32) => T0.setTop (mkF m 59 #[.val (.ref a1), .val (.int (N x)), .val (.int (N i)), .val (.int (N x)), .val (.int (N (fn x))), .val (.int (N (fn (fn x)))), .val (.int (N (fn (fn (fn x))))), .val (.int (N (fn (fn (fn (fn x))))))] [(.int z18)])) (x := (N 1)) (y := (N 0)) (fun hc17 k19 => ?_) (fun hc17 k19 => ?_) (fun z18 hz18 => by subst hz18; exact k16)
          · skip
            refine OGo.go (U' := T0.setTop (mkF m 54 #[.val (.ref a1), .val (.int (N x)), .val (.int (N i)), .val (.int (N x)), .val (.int (N (fn x))), .val (.int (N (fn (fn x)))), .val (.int (N (fn (fn (fn x))))), .val (.int (N (fn (fn (fn (fn x))))))] [])) (fun _ k => XS.icmpNo X0.here hx rfl (hb hby d_onp_51) rfl (teq (congrArg N hc17)).2 k) ?_
            refine OGo.go (U' := T0.setTop (mkF m 55 #[.val (.ref a1), .val (.int (N x)), .val (.int (N i)), .val (.int (N x)), .val (.int (N (fn x))), .val (.int (N (fn (fn x)))), .val (.int (N (fn (fn (fn x))))), .val (.int (N (fn (fn (fn (fn x))))))] [(.int (N 1))])) (fun _ k => XS.iconst X0.here hx rfl (hb hby d_onp_54) k) ?_
            refine OGo.go (U' := T0.setTop (mkF m 59 #[.val (.ref a1), .val (.int (N x)), .val (.int (N i)), .val (.int (N x)), .val (.int (N (fn x))), .val (.int (N (fn (fn x)))), .val (.int (N (fn (fn (fn x))))), .val (.int (N (fn (fn (fn (fn x))))))] [(.int (N 1))])) (fun _ k => XS.goto X0.here hx rfl (pc0 := 55) (pc' := 59) rfl (hb hby d_onp_55) (by decide) (by decide) k) ?_
            exact k19
          · skip
            refine OGo.go (U' := T0.setTop (mkF m 58 #[.val (.ref a1), .val (.int (N x)), .val (.int (N i)), .val (.int (N x)), .val (.int (N (fn x))), .val (.int (N (fn (fn x)))), .val (.int (N (fn (fn (fn x))))), .val (.int (N (fn (fn (fn (fn x))))))] [])) (fun _ k => XS.icmpYes X0.here hx rfl (pc0 := 51) (pc' := 58) rfl (hb hby d_onp_51) rfl (feq (fun q => hc17 (N_inj bi (hr _ (hr _ (hr _ (hr _ bx)))) q))).2 (by decide) (by decide) k) ?_
            refine OGo.go (U' := T0.setTop (mkF m 59 #[.val (.ref a1), .val (.int (N x)), .val (.int (N i)), .val (.int (N x)), .val (.int (N (fn x))), .val (.int (N (fn (fn x)))), .val (.int (N (fn (fn (fn x))))), .val (.int (N (fn (fn (fn (fn x))))))] [(.int (N 0))])) (fun _ k => XS.iconst X0.here hx rfl (hb hby d_onp_58) k) ?_
            exact k19
  intro z6 hz6
  refine OGo.retN X0 hx (t := .boolean) hret hlk (by simp) (hb hby d_onp_59) ?_ (by decide) (by decide)
  refine ⟨?_, e0, rfl⟩
  subst hz6
  rfl
def F_chk (gn hn : Nat → Nat) (col : Nat) (i : Nat) : Int32 := (if (hn (hn (hn (hn i)))) = (gn (gn (gn (gn i)))) then (if (F_depth gn i) < (F_depth hn i) then (nar .boolean (N 0)) else (if (F_onp gn col i) = (0 : Int32) then (nar .boolean (if (hn i) = (gn i) then (N 1) else (N 0))) else (nar .boolean (F_onp gn i (hn i))))) else (nar .boolean (N 0)))
theorem d_chk_0 : decode method_8_code 0 = .ok (.aload_n 1, 1) := by decide +kernel
theorem d_chk_1 : decode method_8_code 1 = .ok (.iload_n 3, 1) := by decide +kernel
theorem d_chk_2 : decode method_8_code 2 = .ok (.invokestatic 7, 3) := by decide +kernel
theorem d_chk_5 : decode method_8_code 5 = .ok (.aload_n 0, 1) := by decide +kernel
theorem d_chk_6 : decode method_8_code 6 = .ok (.iload_n 3, 1) := by decide +kernel
theorem d_chk_7 : decode method_8_code 7 = .ok (.invokestatic 7, 3) := by decide +kernel
theorem d_chk_10 : decode method_8_code 10 = .ok (.if_icmp .eq 5, 3) := by decide +kernel
theorem d_chk_13 : decode method_8_code 13 = .ok (.iconst 0, 1) := by decide +kernel
theorem d_chk_14 : decode method_8_code 14 = .ok (.ireturn, 1) := by decide +kernel
theorem d_chk_15 : decode method_8_code 15 = .ok (.aload_n 1, 1) := by decide +kernel
theorem d_chk_16 : decode method_8_code 16 = .ok (.iload_n 3, 1) := by decide +kernel
theorem d_chk_17 : decode method_8_code 17 = .ok (.invokestatic 17, 3) := by decide +kernel
theorem d_chk_20 : decode method_8_code 20 = .ok (.aload_n 0, 1) := by decide +kernel
theorem d_chk_21 : decode method_8_code 21 = .ok (.iload_n 3, 1) := by decide +kernel
theorem d_chk_22 : decode method_8_code 22 = .ok (.invokestatic 17, 3) := by decide +kernel
theorem d_chk_25 : decode method_8_code 25 = .ok (.if_icmp .le 5, 3) := by decide +kernel
theorem d_chk_28 : decode method_8_code 28 = .ok (.iconst 0, 1) := by decide +kernel
theorem d_chk_29 : decode method_8_code 29 = .ok (.ireturn, 1) := by decide +kernel
theorem d_chk_30 : decode method_8_code 30 = .ok (.aload_n 0, 1) := by decide +kernel
theorem d_chk_31 : decode method_8_code 31 = .ok (.iload_n 2, 1) := by decide +kernel
theorem d_chk_32 : decode method_8_code 32 = .ok (.iload_n 3, 1) := by decide +kernel
theorem d_chk_33 : decode method_8_code 33 = .ok (.invokestatic 20, 3) := by decide +kernel
theorem d_chk_36 : decode method_8_code 36 = .ok (.ifCond .ne 18, 3) := by decide +kernel
theorem d_chk_39 : decode method_8_code 39 = .ok (.aload_n 1, 1) := by decide +kernel
theorem d_chk_40 : decode method_8_code 40 = .ok (.iload_n 3, 1) := by decide +kernel
theorem d_chk_41 : decode method_8_code 41 = .ok (.iaload, 1) := by decide +kernel
theorem d_chk_42 : decode method_8_code 42 = .ok (.aload_n 0, 1) := by decide +kernel
theorem d_chk_43 : decode method_8_code 43 = .ok (.iload_n 3, 1) := by decide +kernel
theorem d_chk_44 : decode method_8_code 44 = .ok (.iaload, 1) := by decide +kernel
theorem d_chk_45 : decode method_8_code 45 = .ok (.if_icmp .ne 7, 3) := by decide +kernel
theorem d_chk_48 : decode method_8_code 48 = .ok (.iconst 1, 1) := by decide +kernel
theorem d_chk_49 : decode method_8_code 49 = .ok (.goto 4, 3) := by decide +kernel
theorem d_chk_52 : decode method_8_code 52 = .ok (.iconst 0, 1) := by decide +kernel
theorem d_chk_53 : decode method_8_code 53 = .ok (.ireturn, 1) := by decide +kernel
theorem d_chk_54 : decode method_8_code 54 = .ok (.aload_n 0, 1) := by decide +kernel
theorem d_chk_55 : decode method_8_code 55 = .ok (.iload_n 3, 1) := by decide +kernel
theorem d_chk_56 : decode method_8_code 56 = .ok (.aload_n 1, 1) := by decide +kernel
theorem d_chk_57 : decode method_8_code 57 = .ok (.iload_n 3, 1) := by decide +kernel
theorem d_chk_58 : decode method_8_code 58 = .ok (.iaload, 1) := by decide +kernel
theorem d_chk_59 : decode method_8_code 59 = .ok (.invokestatic 20, 3) := by decide +kernel
theorem d_chk_62 : decode method_8_code 62 = .ok (.ireturn, 1) := by decide +kernel
theorem ef_chk (m : MethodId) (a1 a2 : Addr) (col : Nat) (i : Nat) : entryFrame m #[(.ref a1), (.ref a2), (.int (N col)), (.int (N i))] 4 = mkF m 0 #[.val (.ref a1), .val (.ref a2), .val (.int (N col)), .val (.int (N i))] [] := by first | (simp [entryFrame, mkF, argsToLocals, Value.category]; done) | rfl
theorem pn_chk : plainFor (⟨"com/example/sieveplan/sieveplan/plan/JoinOrderNamedPinLaw", "check", "([I[III)Z"⟩ : MethodName) = true := by first | exact plainFor_of_name (by first | (simp [plainName, overriddenIn]; done) | decide +kernel) | decide +kernel
set_option maxRecDepth 65536 in
set_option maxHeartbeats 40000000 in
theorem rm_chk (l : Launch) (Z : State) (a0 : Array Value) (hw : ∀ d ∈ tables_1, d.before a0 Z = true) (a1 a2 : Addr) (col : Nat) (i : Nat) (gn hn : Nat → Nat) (h0 : Heap) (A1 : ON Z h0 a1 gn) (A2 : ON Z h0 a2 hn) (hrg : R5 gn) (hrh : R5 hn) (bcol : col < 5) (bi : i < 5) :
    OMet l Z (⟨"com/example/sieveplan/sieveplan/plan/JoinOrderNamedPinLaw", "check", "([I[III)Z"⟩ : MethodName) method_8_code 4 (some .boolean) [] ({ frames := 1, cells := 0, slots := 0, locals := 20 } : Room) #[(.ref a1), (.ref a2), (.int (N col)), (.int (N i))] h0 (OPure (some (.int (F_chk gn hn col i))) h0) := by
  refine OMet.of pn_chk ?_
  intro p e s m below meth c T0 X0 hx hby hml hown0 hnm hret hlk hZ e0
  have hown : s.vm.findClass "com/example/sieveplan/sieveplan/plan/JoinOrderNamedPinLaw" = some m.cls := hown0
  refine OGo.go (fun t k => castTop (ef_chk m a1 a2 col i) k) ?_
  refine OGo.go (U' := T0.setTop (mkF m 1 #[.val (.ref a1), .val (.ref a2), .val (.int (N col)), .val (.int (N i))] [(.ref a2)])) (fun _ k => XS.aloadN X0.here hx rfl (hb hby d_chk_0) rfl rfl k) ?_
  refine OGo.go (U' := T0.setTop (mkF m 2 #[.val (.ref a1), .val (.ref a2), .val (.int (N col)), .val (.int (N i))] [(.int (N i)), (.ref a2)])) (fun _ k => XS.iloadN X0.here hx rfl (hb hby d_chk_1) rfl k) ?_
  refine OGo.callS X0 hx hZ (y := (⟨"com/example/sieveplan/sieveplan/plan/JoinOrderNamedPinLaw", "root", "([II)I"⟩ : MethodName)) hown (hw _ (List.mem_of_getElem? (i := 9) rfl)) (hw _ (List.mem_of_getElem? (i := 10) rfl)) (hw _ (List.mem_of_getElem? (i := 4) rfl)) (hw _ (List.mem_of_getElem? (i := 11) rfl)) (by decide) (g := (mkF m 2 #[.val (.ref a1), .val (.ref a2), .val (.int (N col)), .val (.int (N i))] [(.int (N i)), (.ref a2)])) (argsL := [(.ref a2), (.int (N i))]) (rest := []) e0 (rm_root l Z a0 hw a2 i hn h0 A2 hrh bi) rfl (by rw [hml]; rfl) (lenOf pd_0 rfl) rfl (W := 0) (by show 2 * 0 + _ ≤ _; exact Nat.le_of_eq rfl) (hb hby d_chk_2) (by decide) (by decide) (by decide) (by decide) ?_
  rintro _ T1 _ X1 ⟨rfl, e1, rfl⟩
  rw [List.append_nil] at X1
  refine OGo.go (U' := T1.setTop (mkF m 6 #[.val (.ref a1), .val (.ref a2), .val (.int (N col)), .val (.int (N i))] [(.ref a1), (.int (N (hn (hn (hn (hn i))))))])) (fun _ k => XS.aloadN X1.here hx rfl (hb hby d_chk_5) rfl rfl k) ?_
  refine OGo.go (U' := T1.setTop (mkF m 7 #[.val (.ref a1), .val (.ref a2), .val (.int (N col)), .val (.int (N i))] [(.int (N i)), (.ref a1), (.int (N (hn (hn (hn (hn i))))))])) (fun _ k => XS.iloadN X1.here hx rfl (hb hby d_chk_6) rfl k) ?_
  refine OGo.callS X1 hx hZ (y := (⟨"com/example/sieveplan/sieveplan/plan/JoinOrderNamedPinLaw", "root", "([II)I"⟩ : MethodName)) hown (hw _ (List.mem_of_getElem? (i := 9) rfl)) (hw _ (List.mem_of_getElem? (i := 10) rfl)) (hw _ (List.mem_of_getElem? (i := 4) rfl)) (hw _ (List.mem_of_getElem? (i := 11) rfl)) (by decide) (g := (mkF m 7 #[.val (.ref a1), .val (.ref a2), .val (.int (N col)), .val (.int (N i))] [(.int (N i)), (.ref a1), (.int (N (hn (hn (hn (hn i))))))])) (argsL := [(.ref a1), (.int (N i))]) (rest := [(.int (N (hn (hn (hn (hn i))))))]) e1 (rm_root l Z a0 hw a1 i gn h0 A1 hrg bi) rfl (by rw [hml]; rfl) (lenOf pd_0 rfl) rfl (W := 1) (by show 2 * 0 + _ ≤ _; exact Nat.le_of_eq rfl) (hb hby d_chk_7) (by decide) (by decide) (by decide) (by decide) ?_
  rintro _ T2 _ X2 ⟨rfl, e2, rfl⟩
  rw [List.append_nil] at X2
  by_cases hc3 : (hn (hn (hn (hn i)))) = (gn (gn (gn (gn i))))
  · skip
    refine OGo.go (U' := T2.setTop (mkF m 15 #[.val (.ref a1), .val (.ref a2), .val (.int (N col)), .val (.int (N i))] [])) (fun _ k => XS.icmpYes X2.here hx rfl (pc0 := 10) (pc' := 15) rfl (hb hby d_chk_10) rfl (teq (congrArg N hc3)).1 (by decide) (by decide) k) ?_
    refine OGo.go (U' := T2.setTop (mkF m 16 #[.val (.ref a1), .val (.ref a2), .val (.int (N col)), .val (.int (N i))] [(.ref a2)])) (fun _ k => XS.aloadN X2.here hx rfl (hb hby d_chk_15) rfl rfl k) ?_
    refine OGo.go (U' := T2.setTop (mkF m 17 #[.val (.ref a1), .val (.ref a2), .val (.int (N col)), .val (.int (N i))] [(.int (N i)), (.ref a2)])) (fun _ k => XS.iloadN X2.here hx rfl (hb hby d_chk_16) rfl k) ?_
    refine OGo.callS X2 hx hZ (y := (⟨"com/example/sieveplan/sieveplan/plan/JoinOrderNamedPinLaw", "depth", "([II)I"⟩ : MethodName)) hown (hw _ (List.mem_of_getElem? (i := 19) rfl)) (hw _ (List.mem_of_getElem? (i := 20) rfl)) (hw _ (List.mem_of_getElem? (i := 4) rfl)) (hw _ (List.mem_of_getElem? (i := 21) rfl)) (by decide) (g := (mkF m 17 #[.val (.ref a1), .val (.ref a2), .val (.int (N col)), .val (.int (N i))] [(.int (N i)), (.ref a2)])) (argsL := [(.ref a2), (.int (N i))]) (rest := []) e2 (rm_depth l Z a0 hw a2 i hn h0 A2 hrh bi) rfl (by rw [hml]; rfl) (lenOf pd_0 rfl) rfl (W := 0) (by show 2 * 0 + _ ≤ _; exact Nat.le_of_eq rfl) (hb hby d_chk_17) (by decide) (by decide) (by decide) (by decide) ?_
    rintro _ T4 _ X4 ⟨rfl, e4, rfl⟩
    rw [List.append_nil] at X4
    refine OGo.nm (fun (y5 : Int32) => T4.setTop (mkF m 20 #[.val (.ref a1), .val (.ref a2), .val (.int (N col)), .val (.int (N i))] [(.int y5)])) (x := (F_depth hn i)) (fun y5 hy5 => ?_)
    refine OGo.go (U' := T4.setTop (mkF m 21 #[.val (.ref a1), .val (.ref a2), .val (.int (N col)), .val (.int (N i))] [(.ref a1), (.int y5)])) (fun _ k => XS.aloadN X4.here hx rfl (hb hby d_chk_20) rfl rfl k) ?_
    refine OGo.go (U' := T4.setTop (mkF m 22 #[.val (.ref a1), .val (.ref a2), .val (.int (N col)), .val (.int (N i))] [(.int (N i)), (.ref a1), (.int y5)])) (fun _ k => XS.iloadN X4.here hx rfl (hb hby d_chk_21) rfl k) ?_
    refine OGo.callS X4 hx hZ (y := (⟨"com/example/sieveplan/sieveplan/plan/JoinOrderNamedPinLaw", "depth", "([II)I"⟩ : MethodName)) hown (hw _ (List.mem_of_getElem? (i := 19) rfl)) (hw _ (List.mem_of_getElem? (i := 20) rfl)) (hw _ (List.mem_of_getElem? (i := 4) rfl)) (hw _ (List.mem_of_getElem? (i := 21) rfl)) (by decide) (g := (mkF m 22 #[.val (.ref a1), .val (.ref a2), .val (.int (N col)), .val (.int (N i))] [(.int (N i)), (.ref a1), (.int y5)])) (argsL := [(.ref a1), (.int (N i))]) (rest := [(.int y5)]) e4 (rm_depth l Z a0 hw a1 i gn h0 A1 hrg bi) rfl (by rw [hml]; rfl) (lenOf pd_0 rfl) rfl (W := 1) (by show 2 * 0 + _ ≤ _; exact Nat.le_of_eq rfl) (hb hby d_chk_22) (by decide) (by decide) (by decide) (by decide) ?_
    rintro _ T6 _ X6 ⟨rfl, e6, rfl⟩
    rw [List.append_nil] at X6
    refine OGo.nm (fun (y7 : Int32) => T6.setTop (mkF m 25 #[.val (.ref a1), .val (.ref a2), .val (.int (N col)), .val (.int (N i))] [(.int y7), (.int y5)])) (x := (F_depth gn i)) (fun y7 hy7 => ?_)
    by_cases hc8 : y7 < y5
    · skip
      refine OGo.go (U' := T6.setTop (mkF m 28 #[.val (.ref a1), .val (.ref a2), .val (.int (N col)), .val (.int (N i))] [])) (fun _ k => XS.icmpNo X6.here hx rfl (hb hby d_chk_25) rfl (tlt hc8).2.2.2 k) ?_
      refine OGo.go (U' := T6.setTop (mkF m 29 #[.val (.ref a1), .val (.ref a2), .val (.int (N col)), .val (.int (N i))] [(.int (N 0))])) (fun _ k => XS.iconst X6.here hx rfl (hb hby d_chk_28) k) ?_
      refine OGo.retN X6 hx (t := .boolean) hret hlk (by simp) (hb hby d_chk_29) ?_ (by decide) (by decide)
      refine ⟨?_, e6, rfl⟩
      subst hy5
      subst hy7
      rw [F_chk]
      rw [if_pos hc3]
      rw [if_pos hc8]
    · skip
      refine OGo.go (U' := T6.setTop (mkF m 30 #[.val (.ref a1), .val (.ref a2), .val (.int (N col)), .val (.int (N i))] [])) (fun _ k => XS.icmpYes X6.here hx rfl (pc0 := 25) (pc' := 30) rfl (hb hby d_chk_25) rfl (flt hc8).2.2.2 (by decide) (by decide) k) ?_
      refine OGo.go (U' := T6.setTop (mkF m 31 #[.val (.ref a1), .val (.ref a2), .val (.int (N col)), .val (.int (N i))] [(.ref a1)])) (fun _ k => XS.aloadN X6.here hx rfl (hb hby d_chk_30) rfl rfl k) ?_
      refine OGo.go (U' := T6.setTop (mkF m 32 #[.val (.ref a1), .val (.ref a2), .val (.int (N col)), .val (.int (N i))] [(.int (N col)), (.ref a1)])) (fun _ k => XS.iloadN X6.here hx rfl (hb hby d_chk_31) rfl k) ?_
      refine OGo.go (U' := T6.setTop (mkF m 33 #[.val (.ref a1), .val (.ref a2), .val (.int (N col)), .val (.int (N i))] [(.int (N i)), (.int (N col)), (.ref a1)])) (fun _ k => XS.iloadN X6.here hx rfl (hb hby d_chk_32) rfl k) ?_
      refine OGo.callS X6 hx hZ (y := (⟨"com/example/sieveplan/sieveplan/plan/JoinOrderNamedPinLaw", "onPath", "([III)Z"⟩ : MethodName)) hown (hw _ (List.mem_of_getElem? (i := 25) rfl)) (hw _ (List.mem_of_getElem? (i := 26) rfl)) (hw _ (List.mem_of_getElem? (i := 4) rfl)) (hw _ (List.mem_of_getElem? (i := 27) rfl)) (by decide) (g := (mkF m 33 #[.val (.ref a1), .val (.ref a2), .val (.int (N col)), .val (.int (N i))] [(.int (N i)), (.int (N col)), (.ref a1)])) (argsL := [(.ref a1), (.int (N col)), (.int (N i))]) (rest := []) e6 (rm_onp l Z a0 hw a1 col i gn h0 A1 hrg bcol bi) rfl (by rw [hml]; rfl) (lenOf pd_2 rfl) rfl (W := 0) (by show 2 * 0 + _ ≤ _; exact Nat.le_of_eq rfl) (hb hby d_chk_33) (by decide) (by decide) (by decide) (by decide) ?_
      rintro _ T9 _ X9 ⟨rfl, e9, rfl⟩
      rw [List.append_nil] at X9
      refine OGo.nm (fun (y10 : Int32) => T9.setTop (mkF m 36 #[.val (.ref a1), .val (.ref a2), .val (.int (N col)), .val (.int (N i))] [(.int y10)])) (x := (F_onp gn col i)) (fun y10 hy10 => ?_)
      by_cases hc11 : y10 = (0 : Int32)
      · skip
        refine OGo.go (U' := T9.setTop (mkF m 39 #[.val (.ref a1), .val (.ref a2), .val (.int (N col)), .val (.int (N i))] [])) (fun _ k => XS.ifNo X9.here hx rfl (hb hby d_chk_36) rfl ((if0 _ _).trans (teq hc11).2) k) ?_
        refine OGo.go (U' := T9.setTop (mkF m 40 #[.val (.ref a1), .val (.ref a2), .val (.int (N col)), .val (.int (N i))] [(.ref a2)])) (fun _ k => XS.aloadN X9.here hx rfl (hb hby d_chk_39) rfl rfl k) ?_
        refine OGo.go (U' := T9.setTop (mkF m 41 #[.val (.ref a1), .val (.ref a2), .val (.int (N col)), .val (.int (N i))] [(.int (N i)), (.ref a2)])) (fun _ k => XS.iloadN X9.here hx rfl (hb hby d_chk_40) rfl k) ?_
        refine OGo.go (U' := T9.setTop (mkF m 42 #[.val (.ref a1), .val (.ref a2), .val (.int (N col)), .val (.int (N i))] [(.int (N (hn i)))])) (fun _ k => ON.ld X9 hx hZ e9 A2 (j := i) bi (g := (mkF m 41 #[.val (.ref a1), .val (.ref a2), .val (.int (N col)), .val (.int (N i))] [(.int (N i)), (.ref a2)])) rfl rfl (hb hby d_chk_41) _ k) ?_
        refine OGo.go (U' := T9.setTop (mkF m 43 #[.val (.ref a1), .val (.ref a2), .val (.int (N col)), .val (.int (N i))] [(.ref a1), (.int (N (hn i)))])) (fun _ k => XS.aloadN X9.here hx rfl (hb hby d_chk_42) rfl rfl k) ?_
        refine OGo.go (U' := T9.setTop (mkF m 44 #[.val (.ref a1), .val (.ref a2), .val (.int (N col)), .val (.int (N i))] [(.int (N i)), (.ref a1), (.int (N (hn i)))])) (fun _ k => XS.iloadN X9.here hx rfl (hb hby d_chk_43) rfl k) ?_
        refine OGo.go (U' := T9.setTop (mkF m 45 #[.val (.ref a1), .val (.ref a2), .val (.int (N col)), .val (.int (N i))] [(.int (N (gn i))), (.int (N (hn i)))])) (fun _ k => ON.ld X9 hx hZ e9 A1 (j := i) bi (g := (mkF m 44 #[.val (.ref a1), .val (.ref a2), .val (.int (N col)), .val (.int (N i))] [(.int (N i)), (.ref a1), (.int (N (hn i)))])) rfl rfl (hb hby d_chk_44) _ k) ?_
        refine OGo.ite1 (P := (hn i) = (gn i)) (fun (z15 : Int32) => T9.setTop (mkF m 53 #[.val (.ref a1), .val (.ref a2), .val (.int (N col)), .val (.int (N i))] [(.int z15)])) (x := (N 1)) (y := (N 0)) (fun hc14 k16 => ?_) (fun hc14 k16 => ?_) ?_
        · skip
          refine OGo.go (U' := T9.setTop (mkF m 48 #[.val (.ref a1), .val (.ref a2), .val (.int (N col)), .val (.int (N i))] [])) (fun _ k => XS.icmpNo X9.here hx rfl (hb hby d_chk_45) rfl (teq (congrArg N hc14)).2 k) ?_
          refine OGo.go (U' := T9.setTop (mkF m 49 #[.val (.ref a1), .val (.ref a2), .val (.int (N col)), .val (.int (N i))] [(.int (N 1))])) (fun _ k => XS.iconst X9.here hx rfl (hb hby d_chk_48) k) ?_
          refine OGo.go (U' := T9.setTop (mkF m 53 #[.val (.ref a1), .val (.ref a2), .val (.int (N col)), .val (.int (N i))] [(.int (N 1))])) (fun _ k => XS.goto X9.here hx rfl (pc0 := 49) (pc' := 53) rfl (hb hby d_chk_49) (by decide) (by decide) k) ?_
          exact k16
        · skip
          refine OGo.go (U' := T9.setTop (mkF m 52 #[.val (.ref a1), .val (.ref a2), .val (.int (N col)), .val (.int (N i))] [])) (fun _ k => XS.icmpYes X9.here hx rfl (pc0 := 45) (pc' := 52) rfl (hb hby d_chk_45) rfl (feq (fun q => hc14 (N_inj (hrh _ bi) (hrg _ bi) q))).2 (by decide) (by decide) k) ?_
          refine OGo.go (U' := T9.setTop (mkF m 53 #[.val (.ref a1), .val (.ref a2), .val (.int (N col)), .val (.int (N i))] [(.int (N 0))])) (fun _ k => XS.iconst X9.here hx rfl (hb hby d_chk_52) k) ?_
          exact k16
        intro z15 hz15
        refine OGo.retN X9 hx (t := .boolean) hret hlk (by simp) (hb hby d_chk_53) ?_ (by decide) (by decide)
        refine ⟨?_, e9, rfl⟩
        subst hy5
        subst hy7
        subst hy10
        subst hz15
        rw [F_chk]
        rw [if_pos hc3]
        rw [if_neg hc8]
        rw [if_pos hc11]
      · skip
        refine OGo.go (U' := T9.setTop (mkF m 54 #[.val (.ref a1), .val (.ref a2), .val (.int (N col)), .val (.int (N i))] [])) (fun _ k => XS.ifYes X9.here hx rfl (pc0 := 36) (pc' := 54) rfl (hb hby d_chk_36) rfl ((if0 _ _).trans (feq hc11).2) (by decide) (by decide) k) ?_
        refine OGo.go (U' := T9.setTop (mkF m 55 #[.val (.ref a1), .val (.ref a2), .val (.int (N col)), .val (.int (N i))] [(.ref a1)])) (fun _ k => XS.aloadN X9.here hx rfl (hb hby d_chk_54) rfl rfl k) ?_
        refine OGo.go (U' := T9.setTop (mkF m 56 #[.val (.ref a1), .val (.ref a2), .val (.int (N col)), .val (.int (N i))] [(.int (N i)), (.ref a1)])) (fun _ k => XS.iloadN X9.here hx rfl (hb hby d_chk_55) rfl k) ?_
        refine OGo.go (U' := T9.setTop (mkF m 57 #[.val (.ref a1), .val (.ref a2), .val (.int (N col)), .val (.int (N i))] [(.ref a2), (.int (N i)), (.ref a1)])) (fun _ k => XS.aloadN X9.here hx rfl (hb hby d_chk_56) rfl rfl k) ?_
        refine OGo.go (U' := T9.setTop (mkF m 58 #[.val (.ref a1), .val (.ref a2), .val (.int (N col)), .val (.int (N i))] [(.int (N i)), (.ref a2), (.int (N i)), (.ref a1)])) (fun _ k => XS.iloadN X9.here hx rfl (hb hby d_chk_57) rfl k) ?_
        refine OGo.go (U' := T9.setTop (mkF m 59 #[.val (.ref a1), .val (.ref a2), .val (.int (N col)), .val (.int (N i))] [(.int (N (hn i))), (.int (N i)), (.ref a1)])) (fun _ k => ON.ld X9 hx hZ e9 A2 (j := i) bi (g := (mkF m 58 #[.val (.ref a1), .val (.ref a2), .val (.int (N col)), .val (.int (N i))] [(.int (N i)), (.ref a2), (.int (N i)), (.ref a1)])) rfl rfl (hb hby d_chk_58) _ k) ?_
        refine OGo.callS X9 hx hZ (y := (⟨"com/example/sieveplan/sieveplan/plan/JoinOrderNamedPinLaw", "onPath", "([III)Z"⟩ : MethodName)) hown (hw _ (List.mem_of_getElem? (i := 25) rfl)) (hw _ (List.mem_of_getElem? (i := 26) rfl)) (hw _ (List.mem_of_getElem? (i := 4) rfl)) (hw _ (List.mem_of_getElem? (i := 27) rfl)) (by decide) (g := (mkF m 59 #[.val (.ref a1), .val (.ref a2), .val (.int (N col)), .val (.int (N i))] [(.int (N (hn i))), (.int (N i)), (.ref a1)])) (argsL := [(.ref a1), (.int (N i)), (.int (N (hn i)))]) (rest := []) e9 (rm_onp l Z a0 hw a1 i (hn i) gn h0 A1 hrg bi (hrh _ bi)) rfl (by rw [hml]; rfl) (lenOf pd_2 rfl) rfl (W := 0) (by show 2 * 0 + _ ≤ _; exact Nat.le_of_eq rfl) (hb hby d_chk_59) (by decide) (by decide) (by decide) (by decide) ?_
        rintro _ T18 _ X18 ⟨rfl, e18, rfl⟩
        rw [List.append_nil] at X18
        refine OGo.nm (fun (y19 : Int32) => T18.setTop (mkF m 62 #[.val (.ref a1), .val (.ref a2), .val (.int (N col)), .val (.int (N i))] [(.int y19)])) (x := (F_onp gn i (hn i))) (fun y19 hy19 => ?_)
        refine OGo.retN X18 hx (t := .boolean) hret hlk (by simp) (hb hby d_chk_62) ?_ (by decide) (by decide)
        refine ⟨?_, e18, rfl⟩
        subst hy5
        subst hy7
        subst hy10
        subst hy19
        rw [F_chk]
        rw [if_pos hc3]
        rw [if_neg hc8]
        rw [if_neg hc11]
  · skip
    refine OGo.go (U' := T2.setTop (mkF m 13 #[.val (.ref a1), .val (.ref a2), .val (.int (N col)), .val (.int (N i))] [])) (fun _ k => XS.icmpNo X2.here hx rfl (hb hby d_chk_10) rfl (feq (fun q => hc3 (N_inj (hrh _ (hrh _ (hrh _ (hrh _ bi)))) (hrg _ (hrg _ (hrg _ (hrg _ bi)))) q))).1 k) ?_
    refine OGo.go (U' := T2.setTop (mkF m 14 #[.val (.ref a1), .val (.ref a2), .val (.int (N col)), .val (.int (N i))] [(.int (N 0))])) (fun _ k => XS.iconst X2.here hx rfl (hb hby d_chk_13) k) ?_
    refine OGo.retN X2 hx (t := .boolean) hret hlk (by simp) (hb hby d_chk_14) ?_ (by decide) (by decide)
    refine ⟨?_, e2, rfl⟩
    rw [F_chk]
    rw [if_neg hc3]
theorem N_nn {j : Nat} (hj : j < 5) : ¬ N j < 0 := by rw [Int32.lt_iff_toInt_lt, N_toInt hj, Int32.toInt_zero]; omega
theorem N_lt5 {j : Nat} (hj : j < 5) : N j < N 5 := by rw [Int32.lt_iff_toInt_lt, N_toInt hj, show (N 5).toInt = 5 by decide]; omega
theorem N_le4 {j : Nat} (hj : j < 5) : ¬ N 4 < N j := by rw [Int32.lt_iff_toInt_lt, N_toInt hj, show (N 4).toInt = 4 by decide]; omega
theorem d_inr_0 : decode method_5_code 0 = .ok (.aload_n 0, 1) := by decide +kernel
theorem d_inr_1 : decode method_5_code 1 = .ok (.iconst 0, 1) := by decide +kernel
theorem d_inr_2 : decode method_5_code 2 = .ok (.iaload, 1) := by decide +kernel
theorem d_inr_3 : decode method_5_code 3 = .ok (.ifCond .lt 66, 3) := by decide +kernel
theorem d_inr_6 : decode method_5_code 6 = .ok (.aload_n 0, 1) := by decide +kernel
theorem d_inr_7 : decode method_5_code 7 = .ok (.iconst 0, 1) := by decide +kernel
theorem d_inr_8 : decode method_5_code 8 = .ok (.iaload, 1) := by decide +kernel
theorem d_inr_9 : decode method_5_code 9 = .ok (.iconst 5, 1) := by decide +kernel
theorem d_inr_10 : decode method_5_code 10 = .ok (.if_icmp .ge 59, 3) := by decide +kernel
theorem d_inr_13 : decode method_5_code 13 = .ok (.aload_n 0, 1) := by decide +kernel
theorem d_inr_14 : decode method_5_code 14 = .ok (.iconst 1, 1) := by decide +kernel
theorem d_inr_15 : decode method_5_code 15 = .ok (.iaload, 1) := by decide +kernel
theorem d_inr_16 : decode method_5_code 16 = .ok (.ifCond .lt 53, 3) := by decide +kernel
theorem d_inr_19 : decode method_5_code 19 = .ok (.aload_n 0, 1) := by decide +kernel
theorem d_inr_20 : decode method_5_code 20 = .ok (.iconst 1, 1) := by decide +kernel
theorem d_inr_21 : decode method_5_code 21 = .ok (.iaload, 1) := by decide +kernel
theorem d_inr_22 : decode method_5_code 22 = .ok (.iconst 5, 1) := by decide +kernel
theorem d_inr_23 : decode method_5_code 23 = .ok (.if_icmp .ge 46, 3) := by decide +kernel
theorem d_inr_26 : decode method_5_code 26 = .ok (.aload_n 0, 1) := by decide +kernel
theorem d_inr_27 : decode method_5_code 27 = .ok (.iconst 2, 1) := by decide +kernel
theorem d_inr_28 : decode method_5_code 28 = .ok (.iaload, 1) := by decide +kernel
theorem d_inr_29 : decode method_5_code 29 = .ok (.ifCond .lt 40, 3) := by decide +kernel
theorem d_inr_32 : decode method_5_code 32 = .ok (.aload_n 0, 1) := by decide +kernel
theorem d_inr_33 : decode method_5_code 33 = .ok (.iconst 2, 1) := by decide +kernel
theorem d_inr_34 : decode method_5_code 34 = .ok (.iaload, 1) := by decide +kernel
theorem d_inr_35 : decode method_5_code 35 = .ok (.iconst 5, 1) := by decide +kernel
theorem d_inr_36 : decode method_5_code 36 = .ok (.if_icmp .ge 33, 3) := by decide +kernel
theorem d_inr_39 : decode method_5_code 39 = .ok (.aload_n 0, 1) := by decide +kernel
theorem d_inr_40 : decode method_5_code 40 = .ok (.iconst 3, 1) := by decide +kernel
theorem d_inr_41 : decode method_5_code 41 = .ok (.iaload, 1) := by decide +kernel
theorem d_inr_42 : decode method_5_code 42 = .ok (.ifCond .lt 27, 3) := by decide +kernel
theorem d_inr_45 : decode method_5_code 45 = .ok (.aload_n 0, 1) := by decide +kernel
theorem d_inr_46 : decode method_5_code 46 = .ok (.iconst 3, 1) := by decide +kernel
theorem d_inr_47 : decode method_5_code 47 = .ok (.iaload, 1) := by decide +kernel
theorem d_inr_48 : decode method_5_code 48 = .ok (.iconst 5, 1) := by decide +kernel
theorem d_inr_49 : decode method_5_code 49 = .ok (.if_icmp .ge 20, 3) := by decide +kernel
theorem d_inr_52 : decode method_5_code 52 = .ok (.aload_n 0, 1) := by decide +kernel
theorem d_inr_53 : decode method_5_code 53 = .ok (.iconst 4, 1) := by decide +kernel
theorem d_inr_54 : decode method_5_code 54 = .ok (.iaload, 1) := by decide +kernel
theorem d_inr_55 : decode method_5_code 55 = .ok (.ifCond .lt 14, 3) := by decide +kernel
theorem d_inr_58 : decode method_5_code 58 = .ok (.aload_n 0, 1) := by decide +kernel
theorem d_inr_59 : decode method_5_code 59 = .ok (.iconst 4, 1) := by decide +kernel
theorem d_inr_60 : decode method_5_code 60 = .ok (.iaload, 1) := by decide +kernel
theorem d_inr_61 : decode method_5_code 61 = .ok (.iconst 5, 1) := by decide +kernel
theorem d_inr_62 : decode method_5_code 62 = .ok (.if_icmp .ge 7, 3) := by decide +kernel
theorem d_inr_65 : decode method_5_code 65 = .ok (.iconst 1, 1) := by decide +kernel
theorem d_inr_66 : decode method_5_code 66 = .ok (.goto 4, 3) := by decide +kernel
theorem d_inr_70 : decode method_5_code 70 = .ok (.ireturn, 1) := by decide +kernel
theorem ef_inr (m : MethodId) (a1 : Addr) : entryFrame m #[(.ref a1)] 1 = mkF m 0 #[.val (.ref a1)] [] := by first | (simp [entryFrame, mkF, argsToLocals, Value.category]; done) | rfl
theorem pn_inr : plainFor (⟨"com/example/sieveplan/sieveplan/plan/JoinOrderNamedPinLaw", "inRange", "([I)Z"⟩ : MethodName) = true := by first | exact plainFor_of_name (by first | (simp [plainName, overriddenIn]; done) | decide +kernel) | decide +kernel
set_option maxRecDepth 65536 in
set_option maxHeartbeats 40000000 in
theorem rm_inr (l : Launch) (Z : State) (a0 : Array Value) (hw : ∀ d ∈ tables_1, d.before a0 Z = true) (a1 : Addr) (fn : Nat → Nat) (h0 : Heap) (A1 : ON Z h0 a1 fn) (hr : R5 fn) :
    OMet l Z (⟨"com/example/sieveplan/sieveplan/plan/JoinOrderNamedPinLaw", "inRange", "([I)Z"⟩ : MethodName) method_5_code 1 (some .boolean) [] ({ frames := 0, cells := 0, slots := 0, locals := 0 } : Room) #[(.ref a1)] h0 (OPure (some (.int 1)) h0) := by
  refine OMet.of pn_inr ?_
  intro p e s m below meth c T0 X0 hx hby hml hown0 hnm hret hlk hZ e0
  have hown : s.vm.findClass "com/example/sieveplan/sieveplan/plan/JoinOrderNamedPinLaw" = some m.cls := hown0
  refine OGo.go (fun t k => castTop (ef_inr m a1) k) ?_
  refine OGo.go (U' := T0.setTop (mkF m 1 #[.val (.ref a1)] [(.ref a1)])) (fun _ k => XS.aloadN X0.here hx rfl (hb hby d_inr_0) rfl rfl k) ?_
  refine OGo.go (U' := T0.setTop (mkF m 2 #[.val (.ref a1)] [(.int (N 0)), (.ref a1)])) (fun _ k => XS.iconst X0.here hx rfl (hb hby d_inr_1) k) ?_
  refine OGo.go (U' := T0.setTop (mkF m 3 #[.val (.ref a1)] [(.int (N (fn 0)))])) (fun _ k => ON.ld X0 hx hZ e0 A1 (j := 0) (by decide) (g := (mkF m 2 #[.val (.ref a1)] [(.int (N 0)), (.ref a1)])) rfl rfl (hb hby d_inr_2) _ k) ?_
  refine OGo.go (U' := T0.setTop (mkF m 6 #[.val (.ref a1)] [])) (fun _ k => XS.ifNo X0.here hx rfl (hb hby d_inr_3) rfl ((if0 _ _).trans (flt (N_nn (hr _ (by decide)))).1) k) ?_
  refine OGo.go (U' := T0.setTop (mkF m 7 #[.val (.ref a1)] [(.ref a1)])) (fun _ k => XS.aloadN X0.here hx rfl (hb hby d_inr_6) rfl rfl k) ?_
  refine OGo.go (U' := T0.setTop (mkF m 8 #[.val (.ref a1)] [(.int (N 0)), (.ref a1)])) (fun _ k => XS.iconst X0.here hx rfl (hb hby d_inr_7) k) ?_
  refine OGo.go (U' := T0.setTop (mkF m 9 #[.val (.ref a1)] [(.int (N (fn 0)))])) (fun _ k => ON.ld X0 hx hZ e0 A1 (j := 0) (by decide) (g := (mkF m 8 #[.val (.ref a1)] [(.int (N 0)), (.ref a1)])) rfl rfl (hb hby d_inr_8) _ k) ?_
  refine OGo.go (U' := T0.setTop (mkF m 10 #[.val (.ref a1)] [(.int (N 5)), (.int (N (fn 0)))])) (fun _ k => XS.iconst X0.here hx rfl (hb hby d_inr_9) k) ?_
  refine OGo.go (U' := T0.setTop (mkF m 13 #[.val (.ref a1)] [])) (fun _ k => XS.icmpNo X0.here hx rfl (hb hby d_inr_10) rfl (tlt (N_lt5 (hr _ (by decide)))).2.1 k) ?_
  refine OGo.go (U' := T0.setTop (mkF m 14 #[.val (.ref a1)] [(.ref a1)])) (fun _ k => XS.aloadN X0.here hx rfl (hb hby d_inr_13) rfl rfl k) ?_
  refine OGo.go (U' := T0.setTop (mkF m 15 #[.val (.ref a1)] [(.int (N 1)), (.ref a1)])) (fun _ k => XS.iconst X0.here hx rfl (hb hby d_inr_14) k) ?_
  refine OGo.go (U' := T0.setTop (mkF m 16 #[.val (.ref a1)] [(.int (N (fn 1)))])) (fun _ k => ON.ld X0 hx hZ e0 A1 (j := 1) (by decide) (g := (mkF m 15 #[.val (.ref a1)] [(.int (N 1)), (.ref a1)])) rfl rfl (hb hby d_inr_15) _ k) ?_
  refine OGo.go (U' := T0.setTop (mkF m 19 #[.val (.ref a1)] [])) (fun _ k => XS.ifNo X0.here hx rfl (hb hby d_inr_16) rfl ((if0 _ _).trans (flt (N_nn (hr _ (by decide)))).1) k) ?_
  refine OGo.go (U' := T0.setTop (mkF m 20 #[.val (.ref a1)] [(.ref a1)])) (fun _ k => XS.aloadN X0.here hx rfl (hb hby d_inr_19) rfl rfl k) ?_
  refine OGo.go (U' := T0.setTop (mkF m 21 #[.val (.ref a1)] [(.int (N 1)), (.ref a1)])) (fun _ k => XS.iconst X0.here hx rfl (hb hby d_inr_20) k) ?_
  refine OGo.go (U' := T0.setTop (mkF m 22 #[.val (.ref a1)] [(.int (N (fn 1)))])) (fun _ k => ON.ld X0 hx hZ e0 A1 (j := 1) (by decide) (g := (mkF m 21 #[.val (.ref a1)] [(.int (N 1)), (.ref a1)])) rfl rfl (hb hby d_inr_21) _ k) ?_
  refine OGo.go (U' := T0.setTop (mkF m 23 #[.val (.ref a1)] [(.int (N 5)), (.int (N (fn 1)))])) (fun _ k => XS.iconst X0.here hx rfl (hb hby d_inr_22) k) ?_
  refine OGo.go (U' := T0.setTop (mkF m 26 #[.val (.ref a1)] [])) (fun _ k => XS.icmpNo X0.here hx rfl (hb hby d_inr_23) rfl (tlt (N_lt5 (hr _ (by decide)))).2.1 k) ?_
  refine OGo.go (U' := T0.setTop (mkF m 27 #[.val (.ref a1)] [(.ref a1)])) (fun _ k => XS.aloadN X0.here hx rfl (hb hby d_inr_26) rfl rfl k) ?_
  refine OGo.go (U' := T0.setTop (mkF m 28 #[.val (.ref a1)] [(.int (N 2)), (.ref a1)])) (fun _ k => XS.iconst X0.here hx rfl (hb hby d_inr_27) k) ?_
  refine OGo.go (U' := T0.setTop (mkF m 29 #[.val (.ref a1)] [(.int (N (fn 2)))])) (fun _ k => ON.ld X0 hx hZ e0 A1 (j := 2) (by decide) (g := (mkF m 28 #[.val (.ref a1)] [(.int (N 2)), (.ref a1)])) rfl rfl (hb hby d_inr_28) _ k) ?_
  refine OGo.go (U' := T0.setTop (mkF m 32 #[.val (.ref a1)] [])) (fun _ k => XS.ifNo X0.here hx rfl (hb hby d_inr_29) rfl ((if0 _ _).trans (flt (N_nn (hr _ (by decide)))).1) k) ?_
  refine OGo.go (U' := T0.setTop (mkF m 33 #[.val (.ref a1)] [(.ref a1)])) (fun _ k => XS.aloadN X0.here hx rfl (hb hby d_inr_32) rfl rfl k) ?_
  refine OGo.go (U' := T0.setTop (mkF m 34 #[.val (.ref a1)] [(.int (N 2)), (.ref a1)])) (fun _ k => XS.iconst X0.here hx rfl (hb hby d_inr_33) k) ?_
  refine OGo.go (U' := T0.setTop (mkF m 35 #[.val (.ref a1)] [(.int (N (fn 2)))])) (fun _ k => ON.ld X0 hx hZ e0 A1 (j := 2) (by decide) (g := (mkF m 34 #[.val (.ref a1)] [(.int (N 2)), (.ref a1)])) rfl rfl (hb hby d_inr_34) _ k) ?_
  refine OGo.go (U' := T0.setTop (mkF m 36 #[.val (.ref a1)] [(.int (N 5)), (.int (N (fn 2)))])) (fun _ k => XS.iconst X0.here hx rfl (hb hby d_inr_35) k) ?_
  refine OGo.go (U' := T0.setTop (mkF m 39 #[.val (.ref a1)] [])) (fun _ k => XS.icmpNo X0.here hx rfl (hb hby d_inr_36) rfl (tlt (N_lt5 (hr _ (by decide)))).2.1 k) ?_
  refine OGo.go (U' := T0.setTop (mkF m 40 #[.val (.ref a1)] [(.ref a1)])) (fun _ k => XS.aloadN X0.here hx rfl (hb hby d_inr_39) rfl rfl k) ?_
  refine OGo.go (U' := T0.setTop (mkF m 41 #[.val (.ref a1)] [(.int (N 3)), (.ref a1)])) (fun _ k => XS.iconst X0.here hx rfl (hb hby d_inr_40) k) ?_
  refine OGo.go (U' := T0.setTop (mkF m 42 #[.val (.ref a1)] [(.int (N (fn 3)))])) (fun _ k => ON.ld X0 hx hZ e0 A1 (j := 3) (by decide) (g := (mkF m 41 #[.val (.ref a1)] [(.int (N 3)), (.ref a1)])) rfl rfl (hb hby d_inr_41) _ k) ?_
  refine OGo.go (U' := T0.setTop (mkF m 45 #[.val (.ref a1)] [])) (fun _ k => XS.ifNo X0.here hx rfl (hb hby d_inr_42) rfl ((if0 _ _).trans (flt (N_nn (hr _ (by decide)))).1) k) ?_
  refine OGo.go (U' := T0.setTop (mkF m 46 #[.val (.ref a1)] [(.ref a1)])) (fun _ k => XS.aloadN X0.here hx rfl (hb hby d_inr_45) rfl rfl k) ?_
  refine OGo.go (U' := T0.setTop (mkF m 47 #[.val (.ref a1)] [(.int (N 3)), (.ref a1)])) (fun _ k => XS.iconst X0.here hx rfl (hb hby d_inr_46) k) ?_
  refine OGo.go (U' := T0.setTop (mkF m 48 #[.val (.ref a1)] [(.int (N (fn 3)))])) (fun _ k => ON.ld X0 hx hZ e0 A1 (j := 3) (by decide) (g := (mkF m 47 #[.val (.ref a1)] [(.int (N 3)), (.ref a1)])) rfl rfl (hb hby d_inr_47) _ k) ?_
  refine OGo.go (U' := T0.setTop (mkF m 49 #[.val (.ref a1)] [(.int (N 5)), (.int (N (fn 3)))])) (fun _ k => XS.iconst X0.here hx rfl (hb hby d_inr_48) k) ?_
  refine OGo.go (U' := T0.setTop (mkF m 52 #[.val (.ref a1)] [])) (fun _ k => XS.icmpNo X0.here hx rfl (hb hby d_inr_49) rfl (tlt (N_lt5 (hr _ (by decide)))).2.1 k) ?_
  refine OGo.go (U' := T0.setTop (mkF m 53 #[.val (.ref a1)] [(.ref a1)])) (fun _ k => XS.aloadN X0.here hx rfl (hb hby d_inr_52) rfl rfl k) ?_
  refine OGo.go (U' := T0.setTop (mkF m 54 #[.val (.ref a1)] [(.int (N 4)), (.ref a1)])) (fun _ k => XS.iconst X0.here hx rfl (hb hby d_inr_53) k) ?_
  refine OGo.go (U' := T0.setTop (mkF m 55 #[.val (.ref a1)] [(.int (N (fn 4)))])) (fun _ k => ON.ld X0 hx hZ e0 A1 (j := 4) (by decide) (g := (mkF m 54 #[.val (.ref a1)] [(.int (N 4)), (.ref a1)])) rfl rfl (hb hby d_inr_54) _ k) ?_
  refine OGo.go (U' := T0.setTop (mkF m 58 #[.val (.ref a1)] [])) (fun _ k => XS.ifNo X0.here hx rfl (hb hby d_inr_55) rfl ((if0 _ _).trans (flt (N_nn (hr _ (by decide)))).1) k) ?_
  refine OGo.go (U' := T0.setTop (mkF m 59 #[.val (.ref a1)] [(.ref a1)])) (fun _ k => XS.aloadN X0.here hx rfl (hb hby d_inr_58) rfl rfl k) ?_
  refine OGo.go (U' := T0.setTop (mkF m 60 #[.val (.ref a1)] [(.int (N 4)), (.ref a1)])) (fun _ k => XS.iconst X0.here hx rfl (hb hby d_inr_59) k) ?_
  refine OGo.go (U' := T0.setTop (mkF m 61 #[.val (.ref a1)] [(.int (N (fn 4)))])) (fun _ k => ON.ld X0 hx hZ e0 A1 (j := 4) (by decide) (g := (mkF m 60 #[.val (.ref a1)] [(.int (N 4)), (.ref a1)])) rfl rfl (hb hby d_inr_60) _ k) ?_
  refine OGo.go (U' := T0.setTop (mkF m 62 #[.val (.ref a1)] [(.int (N 5)), (.int (N (fn 4)))])) (fun _ k => XS.iconst X0.here hx rfl (hb hby d_inr_61) k) ?_
  refine OGo.go (U' := T0.setTop (mkF m 65 #[.val (.ref a1)] [])) (fun _ k => XS.icmpNo X0.here hx rfl (hb hby d_inr_62) rfl (tlt (N_lt5 (hr _ (by decide)))).2.1 k) ?_
  refine OGo.go (U' := T0.setTop (mkF m 66 #[.val (.ref a1)] [(.int (N 1))])) (fun _ k => XS.iconst X0.here hx rfl (hb hby d_inr_65) k) ?_
  refine OGo.go (U' := T0.setTop (mkF m 70 #[.val (.ref a1)] [(.int (N 1))])) (fun _ k => XS.goto X0.here hx rfl (pc0 := 66) (pc' := 70) rfl (hb hby d_inr_66) (by decide) (by decide) k) ?_
  refine OGo.retN X0 hx (t := .boolean) hret hlk (by simp) (hb hby d_inr_70) ?_ (by decide) (by decide)
  exact ⟨by decide, e0, rfl⟩
def run : Nat → (Nat → Nat) → Nat → Option ((Nat → Nat) × Nat)
  | 0, _, _ => none
  | k + 1, f, x => if f x = x then some (f, x) else run k (upd f x (f (f x))) ((upd f x (f (f x))) x)
theorem d_named_0 : decode prog_102_method_4_code 0 = .ok (.iload_n 1, 1) := by decide +kernel
theorem d_named_1 : decode prog_102_method_4_code 1 = .ok (.istore_n 2, 1) := by decide +kernel
theorem d_named_2 : decode prog_102_method_4_code 2 = .ok (.aload_n 0, 1) := by decide +kernel
theorem d_named_3 : decode prog_102_method_4_code 3 = .ok (.iload_n 2, 1) := by decide +kernel
theorem d_named_4 : decode prog_102_method_4_code 4 = .ok (.iaload, 1) := by decide +kernel
theorem d_named_5 : decode prog_102_method_4_code 5 = .ok (.iload_n 2, 1) := by decide +kernel
theorem d_named_6 : decode prog_102_method_4_code 6 = .ok (.if_icmp .eq 18, 3) := by decide +kernel
theorem d_named_9 : decode prog_102_method_4_code 9 = .ok (.aload_n 0, 1) := by decide +kernel
theorem d_named_10 : decode prog_102_method_4_code 10 = .ok (.iload_n 2, 1) := by decide +kernel
theorem d_named_11 : decode prog_102_method_4_code 11 = .ok (.aload_n 0, 1) := by decide +kernel
theorem d_named_12 : decode prog_102_method_4_code 12 = .ok (.aload_n 0, 1) := by decide +kernel
theorem d_named_13 : decode prog_102_method_4_code 13 = .ok (.iload_n 2, 1) := by decide +kernel
theorem d_named_14 : decode prog_102_method_4_code 14 = .ok (.iaload, 1) := by decide +kernel
theorem d_named_15 : decode prog_102_method_4_code 15 = .ok (.iaload, 1) := by decide +kernel
theorem d_named_16 : decode prog_102_method_4_code 16 = .ok (.iastore, 1) := by decide +kernel
theorem d_named_17 : decode prog_102_method_4_code 17 = .ok (.aload_n 0, 1) := by decide +kernel
theorem d_named_18 : decode prog_102_method_4_code 18 = .ok (.iload_n 2, 1) := by decide +kernel
theorem d_named_19 : decode prog_102_method_4_code 19 = .ok (.iaload, 1) := by decide +kernel
theorem d_named_20 : decode prog_102_method_4_code 20 = .ok (.istore_n 2, 1) := by decide +kernel
theorem d_named_21 : decode prog_102_method_4_code 21 = .ok (.goto (-19), 3) := by decide +kernel
theorem d_named_24 : decode prog_102_method_4_code 24 = .ok (.iload_n 2, 1) := by decide +kernel
theorem d_named_25 : decode prog_102_method_4_code 25 = .ok (.ireturn, 1) := by decide +kernel
theorem ef_named (m : MethodId) (a1 : Addr) (col : Nat) : entryFrame m #[(.ref a1), (.int (N col))] 3 = mkF m 0 #[.val (.ref a1), .val (.int (N col)), .unset] [] := by first | (simp [entryFrame, mkF, argsToLocals, Value.category]; done) | rfl
theorem pn_named : plainFor (⟨"com/example/sieveplan/sieveplan/plan/JoinOrder", "named", "([II)I"⟩ : MethodName) = true := by first | exact plainFor_of_name (by first | (simp [plainName, overriddenIn]; done) | decide +kernel) | decide +kernel
set_option maxRecDepth 65536 in
set_option maxHeartbeats 40000000 in
theorem rm_named (l : Launch) (Z : State) (a0 : Array Value) (hw : ∀ d ∈ tables_1, d.before a0 Z = true) (a1 : Addr) (col : Nat) (fn pn : Nat → Nat) (r n0 : Nat) (h0 : Heap) (A1 : ON Z h0 a1 fn) (hr : R5 fn) (hc5 : col < 5) (g0 : n0 ≤ a1) (hrun : run 6 fn col = some (pn, r)) :
    OMet l Z (⟨"com/example/sieveplan/sieveplan/plan/JoinOrder", "named", "([II)I"⟩ : MethodName) prog_102_method_4_code 3 (some .int) [] ({ frames := 0, cells := 0, slots := 0, locals := 0 } : Room) #[(.ref a1), (.int (N col))] h0 (fun v h L => v = some (.int (N r)) ∧ Fr n0 L ∧ Keep h0 h [a1] ∧ ON Z h a1 pn) := by
  refine OMet.of pn_named ?_
  intro p e s m below meth c T0 X0 hx hby hml hown0 hnm hret hlk hZ e0
  have hown : s.vm.findClass "com/example/sieveplan/sieveplan/plan/JoinOrder" = some m.cls := hown0
  refine OGo.go (fun t k => castTop (ef_named m a1 col) k) ?_
  refine OGo.go (U' := T0.setTop (mkF m 1 #[.val (.ref a1), .val (.int (N col)), .unset] [(.int (N col))])) (fun _ k => XS.iloadN X0.here hx rfl (hb hby d_named_0) rfl k) ?_
  refine OGo.go (U' := T0.setTop (mkF m 2 #[.val (.ref a1), .val (.int (N col)), .val (.int (N col))] [])) (fun _ k => XS.istoreN X0.here hx rfl (hb hby d_named_1) rfl (l' := #[.val (.ref a1), .val (.int (N col)), .val (.int (N col))]) rfl k) ?_
  have loop : ∀ (k : Nat) (f : Nat → Nat) (x : Nat) (T : State) (L : List Loc) (h : Heap), run k f x = some (pn, r) → R5 f → x < 5 → Stand p l e ({ frames := 0, cells := 0, slots := 0, locals := 0 } : Room) s m #[(.ref a1), (.int (N col))] below meth c T L 0 0 → Fr n0 L → T.heap = h → Keep h0 h [a1] → ON Z h a1 f → OGo p e below (OEnd s 0 0 (fun v h L => v = some (.int (N r)) ∧ Fr n0 L ∧ Keep h0 h [a1] ∧ ON Z h a1 pn)) (T.setTop (mkF m 2 #[.val (.ref a1), .val (.int (N col)), .val (.int (N x))] [])) := by
    intro k
    induction k with
    | zero => intro f x T L h hrun; cases hrun
    | succ k ih =>
      intro f x T L h hrun hrf hx5 X hN eT hK A
      refine OGo.go (U' := T.setTop (mkF m 3 #[.val (.ref a1), .val (.int (N col)), .val (.int (N x))] [(.ref a1)])) (fun _ k => XS.aloadN X.here hx rfl (hb hby d_named_2) rfl rfl k) ?_
      refine OGo.go (U' := T.setTop (mkF m 4 #[.val (.ref a1), .val (.int (N col)), .val (.int (N x))] [(.int (N x)), (.ref a1)])) (fun _ k => XS.iloadN X.here hx rfl (hb hby d_named_3) rfl k) ?_
      refine OGo.go (U' := T.setTop (mkF m 5 #[.val (.ref a1), .val (.int (N col)), .val (.int (N x))] [(.int (N (f x)))])) (fun _ k => ON.ld X hx hZ eT A (j := x) hx5 (g := (mkF m 4 #[.val (.ref a1), .val (.int (N col)), .val (.int (N x))] [(.int (N x)), (.ref a1)])) rfl rfl (hb hby d_named_4) _ k) ?_
      refine OGo.go (U' := T.setTop (mkF m 6 #[.val (.ref a1), .val (.int (N col)), .val (.int (N x))] [(.int (N x)), (.int (N (f x)))])) (fun _ k => XS.iloadN X.here hx rfl (hb hby d_named_5) rfl k) ?_
      by_cases hc2 : (f x) = x
      · skip
        refine OGo.go (U' := T.setTop (mkF m 24 #[.val (.ref a1), .val (.int (N col)), .val (.int (N x))] [])) (fun _ k => XS.icmpYes X.here hx rfl (pc0 := 6) (pc' := 24) rfl (hb hby d_named_6) rfl (teq (congrArg N hc2)).1 (by decide) (by decide) k) ?_
        refine OGo.go (U' := T.setTop (mkF m 25 #[.val (.ref a1), .val (.int (N col)), .val (.int (N x))] [(.int (N x))])) (fun _ k => XS.iloadN X.here hx rfl (hb hby d_named_24) rfl k) ?_
        refine OGo.retI X hx hret hlk (hb hby d_named_25) ?_ (by decide) (by decide)
        rw [run, if_pos hc2] at hrun
        cases hrun
        rw [eT]
        exact ⟨rfl, hN, hK, A⟩
      · skip
        refine OGo.go (U' := T.setTop (mkF m 9 #[.val (.ref a1), .val (.int (N col)), .val (.int (N x))] [])) (fun _ k => XS.icmpNo X.here hx rfl (hb hby d_named_6) rfl (feq (fun q => hc2 (N_inj (hrf _ hx5) hx5 q))).1 k) ?_
        refine OGo.go (U' := T.setTop (mkF m 10 #[.val (.ref a1), .val (.int (N col)), .val (.int (N x))] [(.ref a1)])) (fun _ k => XS.aloadN X.here hx rfl (hb hby d_named_9) rfl rfl k) ?_
        refine OGo.go (U' := T.setTop (mkF m 11 #[.val (.ref a1), .val (.int (N col)), .val (.int (N x))] [(.int (N x)), (.ref a1)])) (fun _ k => XS.iloadN X.here hx rfl (hb hby d_named_10) rfl k) ?_
        refine OGo.go (U' := T.setTop (mkF m 12 #[.val (.ref a1), .val (.int (N col)), .val (.int (N x))] [(.ref a1), (.int (N x)), (.ref a1)])) (fun _ k => XS.aloadN X.here hx rfl (hb hby d_named_11) rfl rfl k) ?_
        refine OGo.go (U' := T.setTop (mkF m 13 #[.val (.ref a1), .val (.int (N col)), .val (.int (N x))] [(.ref a1), (.ref a1), (.int (N x)), (.ref a1)])) (fun _ k => XS.aloadN X.here hx rfl (hb hby d_named_12) rfl rfl k) ?_
        refine OGo.go (U' := T.setTop (mkF m 14 #[.val (.ref a1), .val (.int (N col)), .val (.int (N x))] [(.int (N x)), (.ref a1), (.ref a1), (.int (N x)), (.ref a1)])) (fun _ k => XS.iloadN X.here hx rfl (hb hby d_named_13) rfl k) ?_
        refine OGo.go (U' := T.setTop (mkF m 15 #[.val (.ref a1), .val (.int (N col)), .val (.int (N x))] [(.int (N (f x))), (.ref a1), (.int (N x)), (.ref a1)])) (fun _ k => ON.ld X hx hZ eT A (j := x) hx5 (g := (mkF m 14 #[.val (.ref a1), .val (.int (N col)), .val (.int (N x))] [(.int (N x)), (.ref a1), (.ref a1), (.int (N x)), (.ref a1)])) rfl rfl (hb hby d_named_14) _ k) ?_
        refine OGo.go (U' := T.setTop (mkF m 16 #[.val (.ref a1), .val (.int (N col)), .val (.int (N x))] [(.int (N (f (f x)))), (.int (N x)), (.ref a1)])) (fun _ k => ON.ld X hx hZ eT A (j := (f x)) (hrf _ hx5) (g := (mkF m 15 #[.val (.ref a1), .val (.int (N col)), .val (.int (N x))] [(.int (N (f x))), (.ref a1), (.int (N x)), (.ref a1)])) rfl rfl (hb hby d_named_15) _ k) ?_
        obtain ⟨T5, h5, X5, e5, W5, A5, st5⟩ := ON.st X hx hZ eT A (j := x) (v := (f (f x))) hx5 (g := (mkF m 16 #[.val (.ref a1), .val (.int (N col)), .val (.int (N x))] [(.int (N (f (f x)))), (.int (N x)), (.ref a1)])) rfl rfl (hb hby d_named_16)
        have N6 := Fr.snoc X5 hN g0
        have K7 := hK.wr W5 (Or.inl (List.mem_of_getElem? (i := 0) rfl))
        refine OGo.go (U' := T5.setTop (mkF m 17 #[.val (.ref a1), .val (.int (N col)), .val (.int (N x))] [])) st5 ?_
        refine OGo.go (U' := T5.setTop (mkF m 18 #[.val (.ref a1), .val (.int (N col)), .val (.int (N x))] [(.ref a1)])) (fun _ k => XS.aloadN X5.here hx rfl (hb hby d_named_17) rfl rfl k) ?_
        refine OGo.go (U' := T5.setTop (mkF m 19 #[.val (.ref a1), .val (.int (N col)), .val (.int (N x))] [(.int (N x)), (.ref a1)])) (fun _ k => XS.iloadN X5.here hx rfl (hb hby d_named_18) rfl k) ?_
        refine OGo.go (U' := T5.setTop (mkF m 20 #[.val (.ref a1), .val (.int (N col)), .val (.int (N x))] [(.int (N ((upd f x (f (f x))) x)))])) (fun _ k => ON.ld X5 hx hZ e5 A5 (j := x) hx5 (g := (mkF m 19 #[.val (.ref a1), .val (.int (N col)), .val (.int (N x))] [(.int (N x)), (.ref a1)])) rfl rfl (hb hby d_named_19) _ k) ?_
        refine OGo.go (U' := T5.setTop (mkF m 21 #[.val (.ref a1), .val (.int (N col)), .val (.int (N ((upd f x (f (f x))) x)))] [])) (fun _ k => XS.istoreN X5.here hx rfl (hb hby d_named_20) rfl (l' := #[.val (.ref a1), .val (.int (N col)), .val (.int (N ((upd f x (f (f x))) x)))]) rfl k) ?_
        refine OGo.go (U' := T5.setTop (mkF m 2 #[.val (.ref a1), .val (.int (N col)), .val (.int (N ((upd f x (f (f x))) x)))] [])) (fun _ k => XS.goto X5.here hx rfl (pc0 := 21) (pc' := 2) rfl (hb hby d_named_21) (by decide) (by decide) k) ?_
        rw [run, if_neg hc2] at hrun
        exact ih _ _ _ _ _ hrun (R5.upd hrf (hrf _ (hrf _ hx5))) ((R5.upd hrf (hrf _ (hrf _ hx5))) _ hx5) X5 N6 e5 K7 A5
  exact loop 6 fn col T0 [] h0 hrun hr hc5 X0 (Fr.nil n0) e0 (Keep.refl h0 [a1]) A1
def OAll (gn pn : Nat → Nat) (c r : Nat) : Prop := ¬ F_forest pn = 0 ∧ r = gn (gn (gn (gn c))) ∧ pn r = r ∧ (¬ F_depth gn c < N 2 → F_depth pn c < F_depth gn c) ∧
  ¬ F_chk gn pn c 0 = 0 ∧ ¬ F_chk gn pn c 1 = 0 ∧ ¬ F_chk gn pn c 2 = 0 ∧ ¬ F_chk gn pn c 3 = 0 ∧ ¬ F_chk gn pn c 4 = 0
def tab (a b c d e : Nat) : Nat → Nat
  | 0 => a
  | 1 => b
  | 2 => c
  | 3 => d
  | 4 => e
  | _ => 0
theorem own_tab (a b c d e : Nat) : upd (upd (upd (upd (upd zero5 0 a) 1 b) 2 c) 3 d) 4 e = tab a b c d e := by
  funext k
  match k with
  | 0 => rfl
  | 1 => rfl
  | 2 => rfl
  | 3 => rfl
  | 4 => rfl
  | k + 5 =>
    show (if k + 5 = 4 then e else if k + 5 = 3 then d else if k + 5 = 2 then c else if k + 5 = 1 then b else if k + 5 = 0 then a else 0) = 0
    rw [if_neg (by omega), if_neg (by omega), if_neg (by omega), if_neg (by omega), if_neg (by omega)]
def okP (g : Nat → Nat) (c : Nat) (q : (Nat → Nat) × Nat) : Bool :=
  (decide (q.1 0 < 5) && decide (q.1 1 < 5) && decide (q.1 2 < 5) && decide (q.1 3 < 5) && decide (q.1 4 < 5)) && decide (q.2 < 5) &&
  (!(F_forest q.1 == 0) && (q.2 == g (g (g (g c))) && (q.1 q.2 == q.2 && ((decide (F_depth g c < N 2) || decide (F_depth q.1 c < F_depth g c)) &&
  (!(F_chk g q.1 c 0 == 0) && (!(F_chk g q.1 c 1 == 0) && (!(F_chk g q.1 c 2 == 0) && (!(F_chk g q.1 c 3 == 0) && !(F_chk g q.1 c 4 == 0)))))))))
def okB (g : Nat → Nat) (c : Nat) : Bool := F_forest g == 0 || (run 6 g c).any (okP g c)
set_option maxRecDepth 100000 in
theorem own_brute : ∀ a b c d e x : Fin 5, okB (tab a b c d e) x = true := by decide +kernel
theorem own_plain {k0 k1 k2 k3 k4 k5 : Nat} {gn hn : Nat → Nat} {y : Int32} (h0 : k0 < 5) (h1 : k1 < 5) (h2 : k2 < 5) (h3 : k3 < 5) (h4 : k4 < 5) (h5 : k5 < 5)
    (hgn : gn = (upd (upd (upd (upd (upd zero5 0 k0) 1 k1) 2 k2) 3 k3) 4 k4)) (hhn : hn = (upd (upd (upd (upd (upd zero5 0 (gn 0)) 1 (gn 1)) 2 (gn 2)) 3 (gn 3)) 4 (gn 4)))
    (hy : y = F_forest gn) (hc : ¬ y = 0) : ∃ (pn : Nat → Nat) (r : Nat), run 6 hn k5 = some (pn, r) ∧ R5 pn ∧ r < 5 ∧ OAll gn pn k5 r := by
  rw [own_tab] at hgn hhn
  have e : hn = gn := by rw [hhn, hgn]; rfl
  have q := own_brute ⟨k0, h0⟩ ⟨k1, h1⟩ ⟨k2, h2⟩ ⟨k3, h3⟩ ⟨k4, h4⟩ ⟨k5, h5⟩
  simp only at q
  rw [← hgn] at q
  rw [e]
  rw [okB, Bool.or_eq_true] at q
  rcases q with q | q
  · exact absurd (by rw [hy]; exact eq_of_beq q) hc
  · cases hr : run 6 gn k5 with
    | none => rw [hr] at q; cases q
    | some w =>
      obtain ⟨pn, r⟩ := w
      rw [hr] at q
      have q' : okP gn k5 (pn, r) = true := q
      simp only [okP, Bool.and_eq_true, Bool.or_eq_true, decide_eq_true_eq, Bool.not_eq_true', beq_iff_eq, beq_eq_false_iff_ne, ne_eq] at q'
      obtain ⟨⟨⟨⟨⟨⟨a0, a1⟩, a2⟩, a3⟩, a4⟩, a5⟩, b1, b2, b3, b4, b5, b6, b7, b8, b9⟩ := q'
      refine ⟨pn, r, rfl, fun k hk => ?_, a5, b1, b2, b3, fun z => ?_, b5, b6, b7, b8, b9⟩
      · match k, hk with
        | 0, _ => exact a0
        | 1, _ => exact a1
        | 2, _ => exact a2
        | 3, _ => exact a3
        | 4, _ => exact a4
      · rcases b4 with b4 | b4
        · exact absurd b4 z
        · exact b4

theorem own_dec_law_0 {k0 : Nat} {k1 : Nat} {k2 : Nat} {k3 : Nat} {k4 : Nat} {gn : Nat → Nat} {k5 : Nat} {y14 : Int32} {hn : Nat → Nat} {pn : Nat → Nat} {r : Nat} {y45 : Int32} (hgn : gn = (upd (upd (upd (upd (upd zero5 0 k0) 1 k1) 2 k2) 3 k3) 4 k4)) (hy14 : y14 = (F_forest gn )) (hc15 : ¬ (y14 = (0 : Int32))) (hhn : hn = (upd (upd (upd (upd (upd zero5 0 (gn 0)) 1 (gn 1)) 2 (gn 2)) 3 (gn 3)) 4 (gn 4))) (hr5 : r < 5) (hall : OAll gn pn k5 r) (hy45 : y45 = (F_forest pn )) : ¬ (y45 = (0 : Int32)) := by
  obtain ⟨q1, q2, q3, q4, q5, q6, q7, q8, q9⟩ := hall
  subst_vars
  first | exact q1 | exact rfl | exact q3 | exact q5 | exact q6 | exact q7 | exact q8 | exact q9 | exact q4 (by assumption)
theorem own_dec_law_1 {k0 : Nat} {k1 : Nat} {k2 : Nat} {k3 : Nat} {k4 : Nat} {gn : Nat → Nat} {k5 : Nat} {y14 : Int32} {hn : Nat → Nat} {pn : Nat → Nat} {r : Nat} {y45 : Int32} (hgn : gn = (upd (upd (upd (upd (upd zero5 0 k0) 1 k1) 2 k2) 3 k3) 4 k4)) (hy14 : y14 = (F_forest gn )) (hc15 : ¬ (y14 = (0 : Int32))) (hhn : hn = (upd (upd (upd (upd (upd zero5 0 (gn 0)) 1 (gn 1)) 2 (gn 2)) 3 (gn 3)) 4 (gn 4))) (hr5 : r < 5) (hall : OAll gn pn k5 r) (hy45 : y45 = (F_forest pn )) : r = (gn (gn (gn (gn k5)))) := by
  obtain ⟨q1, q2, q3, q4, q5, q6, q7, q8, q9⟩ := hall
  subst_vars
  first | exact q1 | exact rfl | exact q3 | exact q5 | exact q6 | exact q7 | exact q8 | exact q9 | exact q4 (by assumption)
theorem own_dec_law_2 {k0 : Nat} {k1 : Nat} {k2 : Nat} {k3 : Nat} {k4 : Nat} {gn : Nat → Nat} {k5 : Nat} {y14 : Int32} {hn : Nat → Nat} {pn : Nat → Nat} {r : Nat} {y45 : Int32} (hgn : gn = (upd (upd (upd (upd (upd zero5 0 k0) 1 k1) 2 k2) 3 k3) 4 k4)) (hy14 : y14 = (F_forest gn )) (hc15 : ¬ (y14 = (0 : Int32))) (hhn : hn = (upd (upd (upd (upd (upd zero5 0 (gn 0)) 1 (gn 1)) 2 (gn 2)) 3 (gn 3)) 4 (gn 4))) (hr5 : r < 5) (hall : OAll gn pn k5 r) (hy45 : y45 = (F_forest pn )) : (pn r) = r := by
  obtain ⟨q1, q2, q3, q4, q5, q6, q7, q8, q9⟩ := hall
  subst_vars
  first | exact q1 | exact rfl | exact q3 | exact q5 | exact q6 | exact q7 | exact q8 | exact q9 | exact q4 (by assumption)
theorem own_dec_law_3 {k0 : Nat} {k1 : Nat} {k2 : Nat} {k3 : Nat} {k4 : Nat} {gn : Nat → Nat} {k5 : Nat} {y14 : Int32} {hn : Nat → Nat} {pn : Nat → Nat} {r : Nat} {y45 : Int32} {y49 : Int32} {y52 : Int32} (hgn : gn = (upd (upd (upd (upd (upd zero5 0 k0) 1 k1) 2 k2) 3 k3) 4 k4)) (hy14 : y14 = (F_forest gn )) (hc15 : ¬ (y14 = (0 : Int32))) (hhn : hn = (upd (upd (upd (upd (upd zero5 0 (gn 0)) 1 (gn 1)) 2 (gn 2)) 3 (gn 3)) 4 (gn 4))) (hr5 : r < 5) (hall : OAll gn pn k5 r) (hy45 : y45 = (F_forest pn )) (hy49 : y49 = (F_depth gn k5)) (hc50 : y49 < (N 2)) (hy52 : y52 = (F_chk gn pn k5 0)) : ¬ (y52 = (0 : Int32)) := by
  obtain ⟨q1, q2, q3, q4, q5, q6, q7, q8, q9⟩ := hall
  subst_vars
  first | exact q1 | exact rfl | exact q3 | exact q5 | exact q6 | exact q7 | exact q8 | exact q9 | exact q4 (by assumption)
theorem own_dec_law_4 {k0 : Nat} {k1 : Nat} {k2 : Nat} {k3 : Nat} {k4 : Nat} {gn : Nat → Nat} {k5 : Nat} {y14 : Int32} {hn : Nat → Nat} {pn : Nat → Nat} {r : Nat} {y45 : Int32} {y49 : Int32} {y52 : Int32} {y54 : Int32} (hgn : gn = (upd (upd (upd (upd (upd zero5 0 k0) 1 k1) 2 k2) 3 k3) 4 k4)) (hy14 : y14 = (F_forest gn )) (hc15 : ¬ (y14 = (0 : Int32))) (hhn : hn = (upd (upd (upd (upd (upd zero5 0 (gn 0)) 1 (gn 1)) 2 (gn 2)) 3 (gn 3)) 4 (gn 4))) (hr5 : r < 5) (hall : OAll gn pn k5 r) (hy45 : y45 = (F_forest pn )) (hy49 : y49 = (F_depth gn k5)) (hc50 : y49 < (N 2)) (hy52 : y52 = (F_chk gn pn k5 0)) (hy54 : y54 = (F_chk gn pn k5 1)) : ¬ (y54 = (0 : Int32)) := by
  obtain ⟨q1, q2, q3, q4, q5, q6, q7, q8, q9⟩ := hall
  subst_vars
  first | exact q1 | exact rfl | exact q3 | exact q5 | exact q6 | exact q7 | exact q8 | exact q9 | exact q4 (by assumption)
theorem own_dec_law_5 {k0 : Nat} {k1 : Nat} {k2 : Nat} {k3 : Nat} {k4 : Nat} {gn : Nat → Nat} {k5 : Nat} {y14 : Int32} {hn : Nat → Nat} {pn : Nat → Nat} {r : Nat} {y45 : Int32} {y49 : Int32} {y52 : Int32} {y54 : Int32} {y56 : Int32} (hgn : gn = (upd (upd (upd (upd (upd zero5 0 k0) 1 k1) 2 k2) 3 k3) 4 k4)) (hy14 : y14 = (F_forest gn )) (hc15 : ¬ (y14 = (0 : Int32))) (hhn : hn = (upd (upd (upd (upd (upd zero5 0 (gn 0)) 1 (gn 1)) 2 (gn 2)) 3 (gn 3)) 4 (gn 4))) (hr5 : r < 5) (hall : OAll gn pn k5 r) (hy45 : y45 = (F_forest pn )) (hy49 : y49 = (F_depth gn k5)) (hc50 : y49 < (N 2)) (hy52 : y52 = (F_chk gn pn k5 0)) (hy54 : y54 = (F_chk gn pn k5 1)) (hy56 : y56 = (F_chk gn pn k5 2)) : ¬ (y56 = (0 : Int32)) := by
  obtain ⟨q1, q2, q3, q4, q5, q6, q7, q8, q9⟩ := hall
  subst_vars
  first | exact q1 | exact rfl | exact q3 | exact q5 | exact q6 | exact q7 | exact q8 | exact q9 | exact q4 (by assumption)
theorem own_dec_law_6 {k0 : Nat} {k1 : Nat} {k2 : Nat} {k3 : Nat} {k4 : Nat} {gn : Nat → Nat} {k5 : Nat} {y14 : Int32} {hn : Nat → Nat} {pn : Nat → Nat} {r : Nat} {y45 : Int32} {y49 : Int32} {y52 : Int32} {y54 : Int32} {y56 : Int32} {y58 : Int32} (hgn : gn = (upd (upd (upd (upd (upd zero5 0 k0) 1 k1) 2 k2) 3 k3) 4 k4)) (hy14 : y14 = (F_forest gn )) (hc15 : ¬ (y14 = (0 : Int32))) (hhn : hn = (upd (upd (upd (upd (upd zero5 0 (gn 0)) 1 (gn 1)) 2 (gn 2)) 3 (gn 3)) 4 (gn 4))) (hr5 : r < 5) (hall : OAll gn pn k5 r) (hy45 : y45 = (F_forest pn )) (hy49 : y49 = (F_depth gn k5)) (hc50 : y49 < (N 2)) (hy52 : y52 = (F_chk gn pn k5 0)) (hy54 : y54 = (F_chk gn pn k5 1)) (hy56 : y56 = (F_chk gn pn k5 2)) (hy58 : y58 = (F_chk gn pn k5 3)) : ¬ (y58 = (0 : Int32)) := by
  obtain ⟨q1, q2, q3, q4, q5, q6, q7, q8, q9⟩ := hall
  subst_vars
  first | exact q1 | exact rfl | exact q3 | exact q5 | exact q6 | exact q7 | exact q8 | exact q9 | exact q4 (by assumption)
theorem own_dec_law_7 {k0 : Nat} {k1 : Nat} {k2 : Nat} {k3 : Nat} {k4 : Nat} {gn : Nat → Nat} {k5 : Nat} {y14 : Int32} {hn : Nat → Nat} {pn : Nat → Nat} {r : Nat} {y45 : Int32} {y49 : Int32} {y52 : Int32} {y54 : Int32} {y56 : Int32} {y58 : Int32} {y60 : Int32} (hgn : gn = (upd (upd (upd (upd (upd zero5 0 k0) 1 k1) 2 k2) 3 k3) 4 k4)) (hy14 : y14 = (F_forest gn )) (hc15 : ¬ (y14 = (0 : Int32))) (hhn : hn = (upd (upd (upd (upd (upd zero5 0 (gn 0)) 1 (gn 1)) 2 (gn 2)) 3 (gn 3)) 4 (gn 4))) (hr5 : r < 5) (hall : OAll gn pn k5 r) (hy45 : y45 = (F_forest pn )) (hy49 : y49 = (F_depth gn k5)) (hc50 : y49 < (N 2)) (hy52 : y52 = (F_chk gn pn k5 0)) (hy54 : y54 = (F_chk gn pn k5 1)) (hy56 : y56 = (F_chk gn pn k5 2)) (hy58 : y58 = (F_chk gn pn k5 3)) (hy60 : y60 = (F_chk gn pn k5 4)) : ¬ (y60 = (0 : Int32)) := by
  obtain ⟨q1, q2, q3, q4, q5, q6, q7, q8, q9⟩ := hall
  subst_vars
  first | exact q1 | exact rfl | exact q3 | exact q5 | exact q6 | exact q7 | exact q8 | exact q9 | exact q4 (by assumption)
theorem own_dec_law_8 {k0 : Nat} {k1 : Nat} {k2 : Nat} {k3 : Nat} {k4 : Nat} {gn : Nat → Nat} {k5 : Nat} {y14 : Int32} {hn : Nat → Nat} {pn : Nat → Nat} {r : Nat} {y45 : Int32} {y49 : Int32} {y62 : Int32} {y64 : Int32} (hgn : gn = (upd (upd (upd (upd (upd zero5 0 k0) 1 k1) 2 k2) 3 k3) 4 k4)) (hy14 : y14 = (F_forest gn )) (hc15 : ¬ (y14 = (0 : Int32))) (hhn : hn = (upd (upd (upd (upd (upd zero5 0 (gn 0)) 1 (gn 1)) 2 (gn 2)) 3 (gn 3)) 4 (gn 4))) (hr5 : r < 5) (hall : OAll gn pn k5 r) (hy45 : y45 = (F_forest pn )) (hy49 : y49 = (F_depth gn k5)) (hc50 : ¬ (y49 < (N 2))) (hy62 : y62 = (F_depth pn k5)) (hy64 : y64 = (F_depth gn k5)) : y62 < y64 := by
  obtain ⟨q1, q2, q3, q4, q5, q6, q7, q8, q9⟩ := hall
  subst_vars
  first | exact q1 | exact rfl | exact q3 | exact q5 | exact q6 | exact q7 | exact q8 | exact q9 | exact q4 (by assumption)
theorem own_dec_law_9 {k0 : Nat} {k1 : Nat} {k2 : Nat} {k3 : Nat} {k4 : Nat} {gn : Nat → Nat} {k5 : Nat} {y14 : Int32} {hn : Nat → Nat} {pn : Nat → Nat} {r : Nat} {y45 : Int32} {y49 : Int32} {y62 : Int32} {y64 : Int32} {y66 : Int32} (hgn : gn = (upd (upd (upd (upd (upd zero5 0 k0) 1 k1) 2 k2) 3 k3) 4 k4)) (hy14 : y14 = (F_forest gn )) (hc15 : ¬ (y14 = (0 : Int32))) (hhn : hn = (upd (upd (upd (upd (upd zero5 0 (gn 0)) 1 (gn 1)) 2 (gn 2)) 3 (gn 3)) 4 (gn 4))) (hr5 : r < 5) (hall : OAll gn pn k5 r) (hy45 : y45 = (F_forest pn )) (hy49 : y49 = (F_depth gn k5)) (hc50 : ¬ (y49 < (N 2))) (hy62 : y62 = (F_depth pn k5)) (hy64 : y64 = (F_depth gn k5)) (hy66 : y66 = (F_chk gn pn k5 0)) : ¬ (y66 = (0 : Int32)) := by
  obtain ⟨q1, q2, q3, q4, q5, q6, q7, q8, q9⟩ := hall
  subst_vars
  first | exact q1 | exact rfl | exact q3 | exact q5 | exact q6 | exact q7 | exact q8 | exact q9 | exact q4 (by assumption)
theorem own_dec_law_10 {k0 : Nat} {k1 : Nat} {k2 : Nat} {k3 : Nat} {k4 : Nat} {gn : Nat → Nat} {k5 : Nat} {y14 : Int32} {hn : Nat → Nat} {pn : Nat → Nat} {r : Nat} {y45 : Int32} {y49 : Int32} {y62 : Int32} {y64 : Int32} {y66 : Int32} {y68 : Int32} (hgn : gn = (upd (upd (upd (upd (upd zero5 0 k0) 1 k1) 2 k2) 3 k3) 4 k4)) (hy14 : y14 = (F_forest gn )) (hc15 : ¬ (y14 = (0 : Int32))) (hhn : hn = (upd (upd (upd (upd (upd zero5 0 (gn 0)) 1 (gn 1)) 2 (gn 2)) 3 (gn 3)) 4 (gn 4))) (hr5 : r < 5) (hall : OAll gn pn k5 r) (hy45 : y45 = (F_forest pn )) (hy49 : y49 = (F_depth gn k5)) (hc50 : ¬ (y49 < (N 2))) (hy62 : y62 = (F_depth pn k5)) (hy64 : y64 = (F_depth gn k5)) (hy66 : y66 = (F_chk gn pn k5 0)) (hy68 : y68 = (F_chk gn pn k5 1)) : ¬ (y68 = (0 : Int32)) := by
  obtain ⟨q1, q2, q3, q4, q5, q6, q7, q8, q9⟩ := hall
  subst_vars
  first | exact q1 | exact rfl | exact q3 | exact q5 | exact q6 | exact q7 | exact q8 | exact q9 | exact q4 (by assumption)
theorem own_dec_law_11 {k0 : Nat} {k1 : Nat} {k2 : Nat} {k3 : Nat} {k4 : Nat} {gn : Nat → Nat} {k5 : Nat} {y14 : Int32} {hn : Nat → Nat} {pn : Nat → Nat} {r : Nat} {y45 : Int32} {y49 : Int32} {y62 : Int32} {y64 : Int32} {y66 : Int32} {y68 : Int32} {y70 : Int32} (hgn : gn = (upd (upd (upd (upd (upd zero5 0 k0) 1 k1) 2 k2) 3 k3) 4 k4)) (hy14 : y14 = (F_forest gn )) (hc15 : ¬ (y14 = (0 : Int32))) (hhn : hn = (upd (upd (upd (upd (upd zero5 0 (gn 0)) 1 (gn 1)) 2 (gn 2)) 3 (gn 3)) 4 (gn 4))) (hr5 : r < 5) (hall : OAll gn pn k5 r) (hy45 : y45 = (F_forest pn )) (hy49 : y49 = (F_depth gn k5)) (hc50 : ¬ (y49 < (N 2))) (hy62 : y62 = (F_depth pn k5)) (hy64 : y64 = (F_depth gn k5)) (hy66 : y66 = (F_chk gn pn k5 0)) (hy68 : y68 = (F_chk gn pn k5 1)) (hy70 : y70 = (F_chk gn pn k5 2)) : ¬ (y70 = (0 : Int32)) := by
  obtain ⟨q1, q2, q3, q4, q5, q6, q7, q8, q9⟩ := hall
  subst_vars
  first | exact q1 | exact rfl | exact q3 | exact q5 | exact q6 | exact q7 | exact q8 | exact q9 | exact q4 (by assumption)
theorem own_dec_law_12 {k0 : Nat} {k1 : Nat} {k2 : Nat} {k3 : Nat} {k4 : Nat} {gn : Nat → Nat} {k5 : Nat} {y14 : Int32} {hn : Nat → Nat} {pn : Nat → Nat} {r : Nat} {y45 : Int32} {y49 : Int32} {y62 : Int32} {y64 : Int32} {y66 : Int32} {y68 : Int32} {y70 : Int32} {y72 : Int32} (hgn : gn = (upd (upd (upd (upd (upd zero5 0 k0) 1 k1) 2 k2) 3 k3) 4 k4)) (hy14 : y14 = (F_forest gn )) (hc15 : ¬ (y14 = (0 : Int32))) (hhn : hn = (upd (upd (upd (upd (upd zero5 0 (gn 0)) 1 (gn 1)) 2 (gn 2)) 3 (gn 3)) 4 (gn 4))) (hr5 : r < 5) (hall : OAll gn pn k5 r) (hy45 : y45 = (F_forest pn )) (hy49 : y49 = (F_depth gn k5)) (hc50 : ¬ (y49 < (N 2))) (hy62 : y62 = (F_depth pn k5)) (hy64 : y64 = (F_depth gn k5)) (hy66 : y66 = (F_chk gn pn k5 0)) (hy68 : y68 = (F_chk gn pn k5 1)) (hy70 : y70 = (F_chk gn pn k5 2)) (hy72 : y72 = (F_chk gn pn k5 3)) : ¬ (y72 = (0 : Int32)) := by
  obtain ⟨q1, q2, q3, q4, q5, q6, q7, q8, q9⟩ := hall
  subst_vars
  first | exact q1 | exact rfl | exact q3 | exact q5 | exact q6 | exact q7 | exact q8 | exact q9 | exact q4 (by assumption)
theorem own_dec_law_13 {k0 : Nat} {k1 : Nat} {k2 : Nat} {k3 : Nat} {k4 : Nat} {gn : Nat → Nat} {k5 : Nat} {y14 : Int32} {hn : Nat → Nat} {pn : Nat → Nat} {r : Nat} {y45 : Int32} {y49 : Int32} {y62 : Int32} {y64 : Int32} {y66 : Int32} {y68 : Int32} {y70 : Int32} {y72 : Int32} {y74 : Int32} (hgn : gn = (upd (upd (upd (upd (upd zero5 0 k0) 1 k1) 2 k2) 3 k3) 4 k4)) (hy14 : y14 = (F_forest gn )) (hc15 : ¬ (y14 = (0 : Int32))) (hhn : hn = (upd (upd (upd (upd (upd zero5 0 (gn 0)) 1 (gn 1)) 2 (gn 2)) 3 (gn 3)) 4 (gn 4))) (hr5 : r < 5) (hall : OAll gn pn k5 r) (hy45 : y45 = (F_forest pn )) (hy49 : y49 = (F_depth gn k5)) (hc50 : ¬ (y49 < (N 2))) (hy62 : y62 = (F_depth pn k5)) (hy64 : y64 = (F_depth gn k5)) (hy66 : y66 = (F_chk gn pn k5 0)) (hy68 : y68 = (F_chk gn pn k5 1)) (hy70 : y70 = (F_chk gn pn k5 2)) (hy72 : y72 = (F_chk gn pn k5 3)) (hy74 : y74 = (F_chk gn pn k5 4)) : ¬ (y74 = (0 : Int32)) := by
  obtain ⟨q1, q2, q3, q4, q5, q6, q7, q8, q9⟩ := hall
  subst_vars
  first | exact q1 | exact rfl | exact q3 | exact q5 | exact q6 | exact q7 | exact q8 | exact q9 | exact q4 (by assumption)
theorem own_ret_0 {k0 : Nat} {k1 : Nat} {k2 : Nat} {k3 : Nat} {k4 : Nat} {gn : Nat → Nat} {y14 : Int32} (hgn : gn = (upd (upd (upd (upd (upd zero5 0 k0) 1 k1) 2 k2) 3 k3) 4 k4)) (hy14 : y14 = (F_forest gn )) (hc15 : y14 = (0 : Int32)) : some (Value.int (nar .boolean (N 1))) = some (Value.int 1) := by
  rfl
theorem own_ret_1 {k0 : Nat} {k1 : Nat} {k2 : Nat} {k3 : Nat} {k4 : Nat} {gn : Nat → Nat} {k5 : Nat} {y14 : Int32} {hn : Nat → Nat} {pn : Nat → Nat} {r : Nat} {y45 : Int32} {y49 : Int32} {y52 : Int32} {y54 : Int32} {y56 : Int32} {y58 : Int32} {y60 : Int32} (hgn : gn = (upd (upd (upd (upd (upd zero5 0 k0) 1 k1) 2 k2) 3 k3) 4 k4)) (hy14 : y14 = (F_forest gn )) (hc15 : ¬ (y14 = (0 : Int32))) (hhn : hn = (upd (upd (upd (upd (upd zero5 0 (gn 0)) 1 (gn 1)) 2 (gn 2)) 3 (gn 3)) 4 (gn 4))) (hr5 : r < 5) (hall : OAll gn pn k5 r) (hy45 : y45 = (F_forest pn )) (hy49 : y49 = (F_depth gn k5)) (hc50 : y49 < (N 2)) (hy52 : y52 = (F_chk gn pn k5 0)) (hy54 : y54 = (F_chk gn pn k5 1)) (hy56 : y56 = (F_chk gn pn k5 2)) (hy58 : y58 = (F_chk gn pn k5 3)) (hy60 : y60 = (F_chk gn pn k5 4)) : some (Value.int (nar .boolean (N 1))) = some (Value.int 1) := by
  rfl
theorem own_ret_2 {k0 : Nat} {k1 : Nat} {k2 : Nat} {k3 : Nat} {k4 : Nat} {gn : Nat → Nat} {k5 : Nat} {y14 : Int32} {hn : Nat → Nat} {pn : Nat → Nat} {r : Nat} {y45 : Int32} {y49 : Int32} {y62 : Int32} {y64 : Int32} {y66 : Int32} {y68 : Int32} {y70 : Int32} {y72 : Int32} {y74 : Int32} (hgn : gn = (upd (upd (upd (upd (upd zero5 0 k0) 1 k1) 2 k2) 3 k3) 4 k4)) (hy14 : y14 = (F_forest gn )) (hc15 : ¬ (y14 = (0 : Int32))) (hhn : hn = (upd (upd (upd (upd (upd zero5 0 (gn 0)) 1 (gn 1)) 2 (gn 2)) 3 (gn 3)) 4 (gn 4))) (hr5 : r < 5) (hall : OAll gn pn k5 r) (hy45 : y45 = (F_forest pn )) (hy49 : y49 = (F_depth gn k5)) (hc50 : ¬ (y49 < (N 2))) (hy62 : y62 = (F_depth pn k5)) (hy64 : y64 = (F_depth gn k5)) (hy66 : y66 = (F_chk gn pn k5 0)) (hy68 : y68 = (F_chk gn pn k5 1)) (hy70 : y70 = (F_chk gn pn k5 2)) (hy72 : y72 = (F_chk gn pn k5 3)) (hy74 : y74 = (F_chk gn pn k5 4)) : some (Value.int (nar .boolean (N 1))) = some (Value.int 1) := by
  rfl
theorem ef_law (m : MethodId) (x0 : Int32) (x1 : Int32) : entryFrame m #[(.int x0), (.int x1)] maxLocals = mkF m 0 #[.val (.int x0), .val (.int x1), .unset, .unset, .unset, .unset] [] := by first | (simp [entryFrame, mkF, argsToLocals, Value.category, maxLocals]; done) | rfl
theorem pn_law : plainFor x = true := by first | exact plainFor_of_name (by first | (simp [plainName, overriddenIn]; done) | decide +kernel) | decide +kernel
set_option maxRecDepth 65536 in
set_option maxHeartbeats 40000000 in
theorem rm_law (l : Launch) (Z : State) (a0 : Array Value) (hw : ∀ d ∈ tables_1, d.before a0 Z = true) (x0 : Int32) (x1 : Int32) (n0 : Nat) (h0 : Heap) (Z0 : n0 ≤ h0.size) :
    OMet l Z x code maxLocals ret tables_1 room_1 #[(.int x0), (.int x1)] h0 (fun v h L => v = some (.int 1) ∧ Fr n0 L) := by
  refine OMet.of pn_law ?_
  intro p e s m below meth c T0 X0 hx hby hml hown0 hnm hret hlk hZ e0
  have hown : s.vm.findClass "com/example/sieveplan/sieveplan/plan/JoinOrderNamedPinLaw" = some m.cls := hown0
  refine OGo.go (fun t k => castTop (ef_law m x0 x1) k) ?_
  refine OGo.go (U' := T0.setTop (mkF m 1 #[.val (.int x0), .val (.int x1), .unset, .unset, .unset, .unset] [(.int (N 5))])) (fun _ k => XS.iconst X0.here hx rfl (hb hby at_0) k) ?_
  obtain ⟨T1, h1, k1, X1, e1, E1, A1, st1⟩ := newP X0 hx hZ (hw _ (List.mem_of_getElem? (i := 0) rfl)) e0 (g := (mkF m 1 #[.val (.int x0), .val (.int x1), .unset, .unset, .unset, .unset] [(.int (N 5))])) rfl (hb hby at_1) rfl (n := 5) (by decide) (cap := 5) (by decide) (by decide) (by decide) (by decide)
  obtain ⟨b1, gb1⟩ : ∃ z, z = h0.size := ⟨_, rfl⟩
  rw [← gb1] at A1 st1
  have g2 : n0 ≤ b1 := Nat.le_trans Z0 (Nat.le_of_eq gb1.symm)
  have O1 := ON.new A1 (by decide)
  refine OGo.go (U' := T1.setTop (mkF m 3 #[.val (.int x0), .val (.int x1), .unset, .unset, .unset, .unset] [(.ref b1)])) st1 ?_
  refine OGo.go (U' := T1.setTop (mkF m 4 #[.val (.int x0), .val (.int x1), .val (.ref b1), .unset, .unset, .unset] [])) (fun _ k => XS.astoreN X1.here hx rfl (hb hby at_3) rfl rfl (l' := #[.val (.int x0), .val (.int x1), .val (.ref b1), .unset, .unset, .unset]) rfl k) ?_
  refine OGo.go (U' := T1.setTop (mkF m 5 #[.val (.int x0), .val (.int x1), .val (.ref b1), .unset, .unset, .unset] [(.ref b1)])) (fun _ k => XS.aloadN X1.here hx rfl (hb hby at_4) rfl rfl k) ?_
  refine OGo.go (U' := T1.setTop (mkF m 6 #[.val (.int x0), .val (.int x1), .val (.ref b1), .unset, .unset, .unset] [(.int (N 0)), (.ref b1)])) (fun _ k => XS.iconst X1.here hx rfl (hb hby at_5) k) ?_
  refine OGo.go (U' := T1.setTop (mkF m 7 #[.val (.int x0), .val (.int x1), .val (.ref b1), .unset, .unset, .unset] [(.int x0), (.int (N 0)), (.ref b1)])) (fun _ k => XS.iloadN X1.here hx rfl (hb hby at_6) rfl k) ?_
  refine OGo.go (U' := T1.setTop (mkF m 9 #[.val (.int x0), .val (.int x1), .val (.ref b1), .unset, .unset, .unset] [(.int (N 7)), (.int x0), (.int (N 0)), (.ref b1)])) (fun _ k => XS.bipush X1.here hx rfl (hb hby at_7) k) ?_
  refine OGo.go (U' := T1.setTop (mkF m 10 #[.val (.int x0), .val (.int x1), .val (.ref b1), .unset, .unset, .unset] [(.int (x0 &&& (N 7))), (.int (N 0)), (.ref b1)])) (fun _ k => XS.iand X1.here hx rfl (hb hby at_9) rfl k) ?_
  refine OGo.go (U' := T1.setTop (mkF m 11 #[.val (.int x0), .val (.int x1), .val (.ref b1), .unset, .unset, .unset] [(.int (N 5)), (.int (x0 &&& (N 7))), (.int (N 0)), (.ref b1)])) (fun _ k => XS.iconst X1.here hx rfl (hb hby at_10) k) ?_
  refine OGo.go (U' := T1.setTop (mkF m 12 #[.val (.int x0), .val (.int x1), .val (.ref b1), .unset, .unset, .unset] [(.int ((x0 &&& (N 7)) % (N 5))), (.int (N 0)), (.ref b1)])) (fun _ k => iremM (g := (mkF m 11 #[.val (.int x0), .val (.int x1), .val (.ref b1), .unset, .unset, .unset] [(.int (N 5)), (.int (x0 &&& (N 7))), (.int (N 0)), (.ref b1)])) X1 hx rfl (hb hby at_11) rfl (by decide) k) ?_
  refine OGo.nm (fun (z0 : Int32) => T1.setTop (mkF m 12 #[.val (.int x0), .val (.int x1), .val (.ref b1), .unset, .unset, .unset] [(.int z0), (.int (N 0)), (.ref b1)])) (x := ((x0 &&& (N 7)) % (N 5))) (fun z0 hz0 => ?_)
  obtain ⟨k0, hk0, rfl⟩ := own_rem5 (c_and _ _ (by decide) |>.1) hz0
  obtain ⟨T3, h3, X3, e3, W3, A3, st3⟩ := ON.st X1 hx hZ e1 O1 (j := 0) (v := k0) (by decide) (g := (mkF m 12 #[.val (.int x0), .val (.int x1), .val (.ref b1), .unset, .unset, .unset] [(.int (N k0)), (.int (N 0)), (.ref b1)])) rfl rfl (hb hby at_12)
  have N4 := Fr.snoc X3 (Fr.nil n0) g2
  refine OGo.go (U' := T3.setTop (mkF m 13 #[.val (.int x0), .val (.int x1), .val (.ref b1), .unset, .unset, .unset] [])) st3 ?_
  refine OGo.go (U' := T3.setTop (mkF m 14 #[.val (.int x0), .val (.int x1), .val (.ref b1), .unset, .unset, .unset] [(.ref b1)])) (fun _ k => XS.aloadN X3.here hx rfl (hb hby at_13) rfl rfl k) ?_
  refine OGo.go (U' := T3.setTop (mkF m 15 #[.val (.int x0), .val (.int x1), .val (.ref b1), .unset, .unset, .unset] [(.int (N 1)), (.ref b1)])) (fun _ k => XS.iconst X3.here hx rfl (hb hby at_14) k) ?_
  refine OGo.go (U' := T3.setTop (mkF m 16 #[.val (.int x0), .val (.int x1), .val (.ref b1), .unset, .unset, .unset] [(.int x0), (.int (N 1)), (.ref b1)])) (fun _ k => XS.iloadN X3.here hx rfl (hb hby at_15) rfl k) ?_
  refine OGo.go (U' := T3.setTop (mkF m 17 #[.val (.int x0), .val (.int x1), .val (.ref b1), .unset, .unset, .unset] [(.int (N 3)), (.int x0), (.int (N 1)), (.ref b1)])) (fun _ k => XS.iconst X3.here hx rfl (hb hby at_16) k) ?_
  refine OGo.go (U' := T3.setTop (mkF m 18 #[.val (.int x0), .val (.int x1), .val (.ref b1), .unset, .unset, .unset] [(.int ((x0.toUInt32 >>> ((N 3) &&& 31).toUInt32).toInt32)), (.int (N 1)), (.ref b1)])) (fun _ k => XS.iushr X3.here hx rfl (hb hby at_17) rfl k) ?_
  refine OGo.go (U' := T3.setTop (mkF m 20 #[.val (.int x0), .val (.int x1), .val (.ref b1), .unset, .unset, .unset] [(.int (N 7)), (.int ((x0.toUInt32 >>> ((N 3) &&& 31).toUInt32).toInt32)), (.int (N 1)), (.ref b1)])) (fun _ k => XS.bipush X3.here hx rfl (hb hby at_18) k) ?_
  refine OGo.go (U' := T3.setTop (mkF m 21 #[.val (.int x0), .val (.int x1), .val (.ref b1), .unset, .unset, .unset] [(.int (((x0.toUInt32 >>> ((N 3) &&& 31).toUInt32).toInt32) &&& (N 7))), (.int (N 1)), (.ref b1)])) (fun _ k => XS.iand X3.here hx rfl (hb hby at_20) rfl k) ?_
  refine OGo.go (U' := T3.setTop (mkF m 22 #[.val (.int x0), .val (.int x1), .val (.ref b1), .unset, .unset, .unset] [(.int (N 5)), (.int (((x0.toUInt32 >>> ((N 3) &&& 31).toUInt32).toInt32) &&& (N 7))), (.int (N 1)), (.ref b1)])) (fun _ k => XS.iconst X3.here hx rfl (hb hby at_21) k) ?_
  refine OGo.go (U' := T3.setTop (mkF m 23 #[.val (.int x0), .val (.int x1), .val (.ref b1), .unset, .unset, .unset] [(.int ((((x0.toUInt32 >>> ((N 3) &&& 31).toUInt32).toInt32) &&& (N 7)) % (N 5))), (.int (N 1)), (.ref b1)])) (fun _ k => iremM (g := (mkF m 22 #[.val (.int x0), .val (.int x1), .val (.ref b1), .unset, .unset, .unset] [(.int (N 5)), (.int (((x0.toUInt32 >>> ((N 3) &&& 31).toUInt32).toInt32) &&& (N 7))), (.int (N 1)), (.ref b1)])) X3 hx rfl (hb hby at_22) rfl (by decide) k) ?_
  refine OGo.nm (fun (z1 : Int32) => T3.setTop (mkF m 23 #[.val (.int x0), .val (.int x1), .val (.ref b1), .unset, .unset, .unset] [(.int z1), (.int (N 1)), (.ref b1)])) (x := ((((x0.toUInt32 >>> ((N 3) &&& 31).toUInt32).toInt32) &&& (N 7)) % (N 5))) (fun z1 hz1 => ?_)
  obtain ⟨k1, hk1, rfl⟩ := own_rem5 (c_and _ _ (by decide) |>.1) hz1
  obtain ⟨T5, h5, X5, e5, W5, A5, st5⟩ := ON.st X3 hx hZ e3 A3 (j := 1) (v := k1) (by decide) (g := (mkF m 23 #[.val (.int x0), .val (.int x1), .val (.ref b1), .unset, .unset, .unset] [(.int (N k1)), (.int (N 1)), (.ref b1)])) rfl rfl (hb hby at_23)
  have N6 := Fr.snoc X5 N4 g2
  refine OGo.go (U' := T5.setTop (mkF m 24 #[.val (.int x0), .val (.int x1), .val (.ref b1), .unset, .unset, .unset] [])) st5 ?_
  refine OGo.go (U' := T5.setTop (mkF m 25 #[.val (.int x0), .val (.int x1), .val (.ref b1), .unset, .unset, .unset] [(.ref b1)])) (fun _ k => XS.aloadN X5.here hx rfl (hb hby at_24) rfl rfl k) ?_
  refine OGo.go (U' := T5.setTop (mkF m 26 #[.val (.int x0), .val (.int x1), .val (.ref b1), .unset, .unset, .unset] [(.int (N 2)), (.ref b1)])) (fun _ k => XS.iconst X5.here hx rfl (hb hby at_25) k) ?_
  refine OGo.go (U' := T5.setTop (mkF m 27 #[.val (.int x0), .val (.int x1), .val (.ref b1), .unset, .unset, .unset] [(.int x0), (.int (N 2)), (.ref b1)])) (fun _ k => XS.iloadN X5.here hx rfl (hb hby at_26) rfl k) ?_
  refine OGo.go (U' := T5.setTop (mkF m 29 #[.val (.int x0), .val (.int x1), .val (.ref b1), .unset, .unset, .unset] [(.int (N 6)), (.int x0), (.int (N 2)), (.ref b1)])) (fun _ k => XS.bipush X5.here hx rfl (hb hby at_27) k) ?_
  refine OGo.go (U' := T5.setTop (mkF m 30 #[.val (.int x0), .val (.int x1), .val (.ref b1), .unset, .unset, .unset] [(.int ((x0.toUInt32 >>> ((N 6) &&& 31).toUInt32).toInt32)), (.int (N 2)), (.ref b1)])) (fun _ k => XS.iushr X5.here hx rfl (hb hby at_29) rfl k) ?_
  refine OGo.go (U' := T5.setTop (mkF m 32 #[.val (.int x0), .val (.int x1), .val (.ref b1), .unset, .unset, .unset] [(.int (N 7)), (.int ((x0.toUInt32 >>> ((N 6) &&& 31).toUInt32).toInt32)), (.int (N 2)), (.ref b1)])) (fun _ k => XS.bipush X5.here hx rfl (hb hby at_30) k) ?_
  refine OGo.go (U' := T5.setTop (mkF m 33 #[.val (.int x0), .val (.int x1), .val (.ref b1), .unset, .unset, .unset] [(.int (((x0.toUInt32 >>> ((N 6) &&& 31).toUInt32).toInt32) &&& (N 7))), (.int (N 2)), (.ref b1)])) (fun _ k => XS.iand X5.here hx rfl (hb hby at_32) rfl k) ?_
  refine OGo.go (U' := T5.setTop (mkF m 34 #[.val (.int x0), .val (.int x1), .val (.ref b1), .unset, .unset, .unset] [(.int (N 5)), (.int (((x0.toUInt32 >>> ((N 6) &&& 31).toUInt32).toInt32) &&& (N 7))), (.int (N 2)), (.ref b1)])) (fun _ k => XS.iconst X5.here hx rfl (hb hby at_33) k) ?_
  refine OGo.go (U' := T5.setTop (mkF m 35 #[.val (.int x0), .val (.int x1), .val (.ref b1), .unset, .unset, .unset] [(.int ((((x0.toUInt32 >>> ((N 6) &&& 31).toUInt32).toInt32) &&& (N 7)) % (N 5))), (.int (N 2)), (.ref b1)])) (fun _ k => iremM (g := (mkF m 34 #[.val (.int x0), .val (.int x1), .val (.ref b1), .unset, .unset, .unset] [(.int (N 5)), (.int (((x0.toUInt32 >>> ((N 6) &&& 31).toUInt32).toInt32) &&& (N 7))), (.int (N 2)), (.ref b1)])) X5 hx rfl (hb hby at_34) rfl (by decide) k) ?_
  refine OGo.nm (fun (z2 : Int32) => T5.setTop (mkF m 35 #[.val (.int x0), .val (.int x1), .val (.ref b1), .unset, .unset, .unset] [(.int z2), (.int (N 2)), (.ref b1)])) (x := ((((x0.toUInt32 >>> ((N 6) &&& 31).toUInt32).toInt32) &&& (N 7)) % (N 5))) (fun z2 hz2 => ?_)
  obtain ⟨k2, hk2, rfl⟩ := own_rem5 (c_and _ _ (by decide) |>.1) hz2
  obtain ⟨T7, h7, X7, e7, W7, A7, st7⟩ := ON.st X5 hx hZ e5 A5 (j := 2) (v := k2) (by decide) (g := (mkF m 35 #[.val (.int x0), .val (.int x1), .val (.ref b1), .unset, .unset, .unset] [(.int (N k2)), (.int (N 2)), (.ref b1)])) rfl rfl (hb hby at_35)
  have N8 := Fr.snoc X7 N6 g2
  refine OGo.go (U' := T7.setTop (mkF m 36 #[.val (.int x0), .val (.int x1), .val (.ref b1), .unset, .unset, .unset] [])) st7 ?_
  refine OGo.go (U' := T7.setTop (mkF m 37 #[.val (.int x0), .val (.int x1), .val (.ref b1), .unset, .unset, .unset] [(.ref b1)])) (fun _ k => XS.aloadN X7.here hx rfl (hb hby at_36) rfl rfl k) ?_
  refine OGo.go (U' := T7.setTop (mkF m 38 #[.val (.int x0), .val (.int x1), .val (.ref b1), .unset, .unset, .unset] [(.int (N 3)), (.ref b1)])) (fun _ k => XS.iconst X7.here hx rfl (hb hby at_37) k) ?_
  refine OGo.go (U' := T7.setTop (mkF m 39 #[.val (.int x0), .val (.int x1), .val (.ref b1), .unset, .unset, .unset] [(.int x0), (.int (N 3)), (.ref b1)])) (fun _ k => XS.iloadN X7.here hx rfl (hb hby at_38) rfl k) ?_
  refine OGo.go (U' := T7.setTop (mkF m 41 #[.val (.int x0), .val (.int x1), .val (.ref b1), .unset, .unset, .unset] [(.int (N 9)), (.int x0), (.int (N 3)), (.ref b1)])) (fun _ k => XS.bipush X7.here hx rfl (hb hby at_39) k) ?_
  refine OGo.go (U' := T7.setTop (mkF m 42 #[.val (.int x0), .val (.int x1), .val (.ref b1), .unset, .unset, .unset] [(.int ((x0.toUInt32 >>> ((N 9) &&& 31).toUInt32).toInt32)), (.int (N 3)), (.ref b1)])) (fun _ k => XS.iushr X7.here hx rfl (hb hby at_41) rfl k) ?_
  refine OGo.go (U' := T7.setTop (mkF m 44 #[.val (.int x0), .val (.int x1), .val (.ref b1), .unset, .unset, .unset] [(.int (N 7)), (.int ((x0.toUInt32 >>> ((N 9) &&& 31).toUInt32).toInt32)), (.int (N 3)), (.ref b1)])) (fun _ k => XS.bipush X7.here hx rfl (hb hby at_42) k) ?_
  refine OGo.go (U' := T7.setTop (mkF m 45 #[.val (.int x0), .val (.int x1), .val (.ref b1), .unset, .unset, .unset] [(.int (((x0.toUInt32 >>> ((N 9) &&& 31).toUInt32).toInt32) &&& (N 7))), (.int (N 3)), (.ref b1)])) (fun _ k => XS.iand X7.here hx rfl (hb hby at_44) rfl k) ?_
  refine OGo.go (U' := T7.setTop (mkF m 46 #[.val (.int x0), .val (.int x1), .val (.ref b1), .unset, .unset, .unset] [(.int (N 5)), (.int (((x0.toUInt32 >>> ((N 9) &&& 31).toUInt32).toInt32) &&& (N 7))), (.int (N 3)), (.ref b1)])) (fun _ k => XS.iconst X7.here hx rfl (hb hby at_45) k) ?_
  refine OGo.go (U' := T7.setTop (mkF m 47 #[.val (.int x0), .val (.int x1), .val (.ref b1), .unset, .unset, .unset] [(.int ((((x0.toUInt32 >>> ((N 9) &&& 31).toUInt32).toInt32) &&& (N 7)) % (N 5))), (.int (N 3)), (.ref b1)])) (fun _ k => iremM (g := (mkF m 46 #[.val (.int x0), .val (.int x1), .val (.ref b1), .unset, .unset, .unset] [(.int (N 5)), (.int (((x0.toUInt32 >>> ((N 9) &&& 31).toUInt32).toInt32) &&& (N 7))), (.int (N 3)), (.ref b1)])) X7 hx rfl (hb hby at_46) rfl (by decide) k) ?_
  refine OGo.nm (fun (z3 : Int32) => T7.setTop (mkF m 47 #[.val (.int x0), .val (.int x1), .val (.ref b1), .unset, .unset, .unset] [(.int z3), (.int (N 3)), (.ref b1)])) (x := ((((x0.toUInt32 >>> ((N 9) &&& 31).toUInt32).toInt32) &&& (N 7)) % (N 5))) (fun z3 hz3 => ?_)
  obtain ⟨k3, hk3, rfl⟩ := own_rem5 (c_and _ _ (by decide) |>.1) hz3
  obtain ⟨T9, h9, X9, e9, W9, A9, st9⟩ := ON.st X7 hx hZ e7 A7 (j := 3) (v := k3) (by decide) (g := (mkF m 47 #[.val (.int x0), .val (.int x1), .val (.ref b1), .unset, .unset, .unset] [(.int (N k3)), (.int (N 3)), (.ref b1)])) rfl rfl (hb hby at_47)
  have N10 := Fr.snoc X9 N8 g2
  refine OGo.go (U' := T9.setTop (mkF m 48 #[.val (.int x0), .val (.int x1), .val (.ref b1), .unset, .unset, .unset] [])) st9 ?_
  refine OGo.go (U' := T9.setTop (mkF m 49 #[.val (.int x0), .val (.int x1), .val (.ref b1), .unset, .unset, .unset] [(.ref b1)])) (fun _ k => XS.aloadN X9.here hx rfl (hb hby at_48) rfl rfl k) ?_
  refine OGo.go (U' := T9.setTop (mkF m 50 #[.val (.int x0), .val (.int x1), .val (.ref b1), .unset, .unset, .unset] [(.int (N 4)), (.ref b1)])) (fun _ k => XS.iconst X9.here hx rfl (hb hby at_49) k) ?_
  refine OGo.go (U' := T9.setTop (mkF m 51 #[.val (.int x0), .val (.int x1), .val (.ref b1), .unset, .unset, .unset] [(.int x0), (.int (N 4)), (.ref b1)])) (fun _ k => XS.iloadN X9.here hx rfl (hb hby at_50) rfl k) ?_
  refine OGo.go (U' := T9.setTop (mkF m 53 #[.val (.int x0), .val (.int x1), .val (.ref b1), .unset, .unset, .unset] [(.int (N 12)), (.int x0), (.int (N 4)), (.ref b1)])) (fun _ k => XS.bipush X9.here hx rfl (hb hby at_51) k) ?_
  refine OGo.go (U' := T9.setTop (mkF m 54 #[.val (.int x0), .val (.int x1), .val (.ref b1), .unset, .unset, .unset] [(.int ((x0.toUInt32 >>> ((N 12) &&& 31).toUInt32).toInt32)), (.int (N 4)), (.ref b1)])) (fun _ k => XS.iushr X9.here hx rfl (hb hby at_53) rfl k) ?_
  refine OGo.go (U' := T9.setTop (mkF m 56 #[.val (.int x0), .val (.int x1), .val (.ref b1), .unset, .unset, .unset] [(.int (N 7)), (.int ((x0.toUInt32 >>> ((N 12) &&& 31).toUInt32).toInt32)), (.int (N 4)), (.ref b1)])) (fun _ k => XS.bipush X9.here hx rfl (hb hby at_54) k) ?_
  refine OGo.go (U' := T9.setTop (mkF m 57 #[.val (.int x0), .val (.int x1), .val (.ref b1), .unset, .unset, .unset] [(.int (((x0.toUInt32 >>> ((N 12) &&& 31).toUInt32).toInt32) &&& (N 7))), (.int (N 4)), (.ref b1)])) (fun _ k => XS.iand X9.here hx rfl (hb hby at_56) rfl k) ?_
  refine OGo.go (U' := T9.setTop (mkF m 58 #[.val (.int x0), .val (.int x1), .val (.ref b1), .unset, .unset, .unset] [(.int (N 5)), (.int (((x0.toUInt32 >>> ((N 12) &&& 31).toUInt32).toInt32) &&& (N 7))), (.int (N 4)), (.ref b1)])) (fun _ k => XS.iconst X9.here hx rfl (hb hby at_57) k) ?_
  refine OGo.go (U' := T9.setTop (mkF m 59 #[.val (.int x0), .val (.int x1), .val (.ref b1), .unset, .unset, .unset] [(.int ((((x0.toUInt32 >>> ((N 12) &&& 31).toUInt32).toInt32) &&& (N 7)) % (N 5))), (.int (N 4)), (.ref b1)])) (fun _ k => iremM (g := (mkF m 58 #[.val (.int x0), .val (.int x1), .val (.ref b1), .unset, .unset, .unset] [(.int (N 5)), (.int (((x0.toUInt32 >>> ((N 12) &&& 31).toUInt32).toInt32) &&& (N 7))), (.int (N 4)), (.ref b1)])) X9 hx rfl (hb hby at_58) rfl (by decide) k) ?_
  refine OGo.nm (fun (z4 : Int32) => T9.setTop (mkF m 59 #[.val (.int x0), .val (.int x1), .val (.ref b1), .unset, .unset, .unset] [(.int z4), (.int (N 4)), (.ref b1)])) (x := ((((x0.toUInt32 >>> ((N 12) &&& 31).toUInt32).toInt32) &&& (N 7)) % (N 5))) (fun z4 hz4 => ?_)
  obtain ⟨k4, hk4, rfl⟩ := own_rem5 (c_and _ _ (by decide) |>.1) hz4
  obtain ⟨T11, h11, X11, e11, W11, A11, st11⟩ := ON.st X9 hx hZ e9 A9 (j := 4) (v := k4) (by decide) (g := (mkF m 59 #[.val (.int x0), .val (.int x1), .val (.ref b1), .unset, .unset, .unset] [(.int (N k4)), (.int (N 4)), (.ref b1)])) rfl rfl (hb hby at_59)
  have N12 := Fr.snoc X11 N10 g2
  refine OGo.go (U' := T11.setTop (mkF m 60 #[.val (.int x0), .val (.int x1), .val (.ref b1), .unset, .unset, .unset] [])) st11 ?_
  obtain ⟨gn, hgn⟩ : ∃ f : Nat → Nat, f = (upd (upd (upd (upd (upd zero5 0 k0) 1 k1) 2 k2) 3 k3) 4 k4) := ⟨_, rfl⟩
  have hrgn : R5 gn := by rw [hgn]; exact (R5.upd (R5.upd (R5.upd (R5.upd (R5.upd R5.zero hk0) hk1) hk2) hk3) hk4)
  rw [← hgn] at A11
  refine OGo.go (U' := T11.setTop (mkF m 61 #[.val (.int x0), .val (.int x1), .val (.ref b1), .unset, .unset, .unset] [(.int x1)])) (fun _ k => XS.iloadN X11.here hx rfl (hb hby at_60) rfl k) ?_
  refine OGo.go (U' := T11.setTop (mkF m 63 #[.val (.int x0), .val (.int x1), .val (.ref b1), .unset, .unset, .unset] [(.int (2147483647 : Int32)), (.int x1)])) (fun _ k => X11.ldcInt hx hown (mvT hZ (hw _ (List.mem_of_getElem? (i := 1) rfl))) (g := (mkF m 61 #[.val (.int x0), .val (.int x1), .val (.ref b1), .unset, .unset, .unset] [(.int x1)])) rfl (hb hby at_61) _ k) ?_
  refine OGo.go (U' := T11.setTop (mkF m 64 #[.val (.int x0), .val (.int x1), .val (.ref b1), .unset, .unset, .unset] [(.int (x1 &&& (2147483647 : Int32)))])) (fun _ k => XS.iand X11.here hx rfl (hb hby at_63) rfl k) ?_
  refine OGo.go (U' := T11.setTop (mkF m 65 #[.val (.int x0), .val (.int x1), .val (.ref b1), .unset, .unset, .unset] [(.int (N 5)), (.int (x1 &&& (2147483647 : Int32)))])) (fun _ k => XS.iconst X11.here hx rfl (hb hby at_64) k) ?_
  refine OGo.go (U' := T11.setTop (mkF m 66 #[.val (.int x0), .val (.int x1), .val (.ref b1), .unset, .unset, .unset] [(.int ((x1 &&& (2147483647 : Int32)) % (N 5)))])) (fun _ k => iremM (g := (mkF m 65 #[.val (.int x0), .val (.int x1), .val (.ref b1), .unset, .unset, .unset] [(.int (N 5)), (.int (x1 &&& (2147483647 : Int32)))])) X11 hx rfl (hb hby at_65) rfl (by decide) k) ?_
  refine OGo.nm (fun (z5 : Int32) => T11.setTop (mkF m 66 #[.val (.int x0), .val (.int x1), .val (.ref b1), .unset, .unset, .unset] [(.int z5)])) (x := ((x1 &&& (2147483647 : Int32)) % (N 5))) (fun z5 hz5 => ?_)
  obtain ⟨k5, hk5, rfl⟩ := own_rem5 (c_and _ _ (by decide) |>.1) hz5
  refine OGo.go (U' := T11.setTop (mkF m 67 #[.val (.int x0), .val (.int x1), .val (.ref b1), .val (.int (N k5)), .unset, .unset] [])) (fun _ k => XS.istoreN X11.here hx rfl (hb hby at_66) rfl (l' := #[.val (.int x0), .val (.int x1), .val (.ref b1), .val (.int (N k5)), .unset, .unset]) rfl k) ?_
  refine OGo.go (U' := T11.setTop (mkF m 68 #[.val (.int x0), .val (.int x1), .val (.ref b1), .val (.int (N k5)), .unset, .unset] [(.ref b1)])) (fun _ k => XS.aloadN X11.here hx rfl (hb hby at_67) rfl rfl k) ?_
  refine OGo.callS X11 hx hZ (y := (⟨"com/example/sieveplan/sieveplan/plan/JoinOrderNamedPinLaw", "forest", "([I)Z"⟩ : MethodName)) hown (hw _ (List.mem_of_getElem? (i := 2) rfl)) (hw _ (List.mem_of_getElem? (i := 3) rfl)) (hw _ (List.mem_of_getElem? (i := 4) rfl)) (hw _ (List.mem_of_getElem? (i := 5) rfl)) (by decide) (g := (mkF m 68 #[.val (.int x0), .val (.int x1), .val (.ref b1), .val (.int (N k5)), .unset, .unset] [(.ref b1)])) (argsL := [(.ref b1)]) (rest := []) e11 (rm_forest l Z a0 hw b1  gn h11 A11 hrgn ) rfl (by rw [hml]; rfl) (lenOf pd_3 rfl) rfl (W := 0) (by show 2 * 0 + _ ≤ _; exact Nat.le_of_eq rfl) (hb hby at_68) (by decide) (by decide) (by decide) (by decide) ?_
  rintro _ T13 _ X13 ⟨rfl, e13, rfl⟩
  rw [List.append_nil] at X13
  refine OGo.nm (fun (y14 : Int32) => T13.setTop (mkF m 71 #[.val (.int x0), .val (.int x1), .val (.ref b1), .val (.int (N k5)), .unset, .unset] [(.int y14)])) (x := (F_forest gn )) (fun y14 hy14 => ?_)
  by_cases hc15 : y14 = (0 : Int32)
  · skip
    refine OGo.go (U' := T13.setTop (mkF m 74 #[.val (.int x0), .val (.int x1), .val (.ref b1), .val (.int (N k5)), .unset, .unset] [])) (fun _ k => XS.ifNo X13.here hx rfl (hb hby at_71) rfl ((if0 _ _).trans (teq hc15).2) k) ?_
    refine OGo.go (U' := T13.setTop (mkF m 75 #[.val (.int x0), .val (.int x1), .val (.ref b1), .val (.int (N k5)), .unset, .unset] [(.int (N 1))])) (fun _ k => XS.iconst X13.here hx rfl (hb hby at_74) k) ?_
    refine OGo.retN X13 hx (t := .boolean) hret hlk (by simp) (hb hby at_75) ?_ (by decide) (by decide)
    exact ⟨own_ret_0 hgn hy14 hc15, N12⟩
  · skip
    refine OGo.go (U' := T13.setTop (mkF m 76 #[.val (.int x0), .val (.int x1), .val (.ref b1), .val (.int (N k5)), .unset, .unset] [])) (fun _ k => XS.ifYes X13.here hx rfl (pc0 := 71) (pc' := 76) rfl (hb hby at_71) rfl ((if0 _ _).trans (feq hc15).2) (by decide) (by decide) k) ?_
    refine OGo.go (U' := T13.setTop (mkF m 77 #[.val (.int x0), .val (.int x1), .val (.ref b1), .val (.int (N k5)), .unset, .unset] [(.int (N 5))])) (fun _ k => XS.iconst X13.here hx rfl (hb hby at_76) k) ?_
    obtain ⟨T16, h16, k16, X16, e16, E16, A16, st16⟩ := newP X13 hx hZ (hw _ (List.mem_of_getElem? (i := 0) rfl)) e13 (g := (mkF m 77 #[.val (.int x0), .val (.int x1), .val (.ref b1), .val (.int (N k5)), .unset, .unset] [(.int (N 5))])) rfl (hb hby at_77) rfl (n := 5) (by decide) (cap := 5) (by decide) (by decide) (by decide) (by decide)
    obtain ⟨b16, gb16⟩ : ∃ z, z = h11.size := ⟨_, rfl⟩
    rw [← gb16] at A16 st16
    have ne17 : b1 ≠ b16 := Nat.ne_of_lt (Nat.lt_of_lt_of_le A11.lt (Nat.le_of_eq gb16.symm))
    have g18 : n0 ≤ b16 := Nat.le_trans (Nat.le_trans (Nat.le_trans (Nat.le_trans (Nat.le_trans (Nat.le_trans (Nat.le_trans Z0 E1.1) (Keep.of_wr W3).1) (Keep.of_wr W5).1) (Keep.of_wr W7).1) (Keep.of_wr W9).1) (Keep.of_wr W11).1) (Nat.le_of_eq gb16.symm)
    have f19 := A11.ext E16
    have O16 := ON.new A16 (by decide)
    refine OGo.go (U' := T16.setTop (mkF m 79 #[.val (.int x0), .val (.int x1), .val (.ref b1), .val (.int (N k5)), .unset, .unset] [(.ref b16)])) st16 ?_
    refine OGo.go (U' := T16.setTop (mkF m 80 #[.val (.int x0), .val (.int x1), .val (.ref b1), .val (.int (N k5)), .unset, .unset] [(.ref b16), (.ref b16)])) (fun _ k => XS.dup X16.here hx rfl (hb hby at_79) rfl rfl k) ?_
    refine OGo.go (U' := T16.setTop (mkF m 81 #[.val (.int x0), .val (.int x1), .val (.ref b1), .val (.int (N k5)), .unset, .unset] [(.int (N 0)), (.ref b16), (.ref b16)])) (fun _ k => XS.iconst X16.here hx rfl (hb hby at_80) k) ?_
    refine OGo.go (U' := T16.setTop (mkF m 82 #[.val (.int x0), .val (.int x1), .val (.ref b1), .val (.int (N k5)), .unset, .unset] [(.ref b1), (.int (N 0)), (.ref b16), (.ref b16)])) (fun _ k => XS.aloadN X16.here hx rfl (hb hby at_81) rfl rfl k) ?_
    refine OGo.go (U' := T16.setTop (mkF m 83 #[.val (.int x0), .val (.int x1), .val (.ref b1), .val (.int (N k5)), .unset, .unset] [(.int (N 0)), (.ref b1), (.int (N 0)), (.ref b16), (.ref b16)])) (fun _ k => XS.iconst X16.here hx rfl (hb hby at_82) k) ?_
    refine OGo.go (U' := T16.setTop (mkF m 84 #[.val (.int x0), .val (.int x1), .val (.ref b1), .val (.int (N k5)), .unset, .unset] [(.int (N (gn 0))), (.int (N 0)), (.ref b16), (.ref b16)])) (fun _ k => ON.ld X16 hx hZ e16 f19 (j := 0) (by decide) (g := (mkF m 83 #[.val (.int x0), .val (.int x1), .val (.ref b1), .val (.int (N k5)), .unset, .unset] [(.int (N 0)), (.ref b1), (.int (N 0)), (.ref b16), (.ref b16)])) rfl rfl (hb hby at_83) _ k) ?_
    obtain ⟨T21, h21, X21, e21, W21, A21, st21⟩ := ON.st X16 hx hZ e16 O16 (j := 0) (v := (gn 0)) (by decide) (g := (mkF m 84 #[.val (.int x0), .val (.int x1), .val (.ref b1), .val (.int (N k5)), .unset, .unset] [(.int (N (gn 0))), (.int (N 0)), (.ref b16), (.ref b16)])) rfl rfl (hb hby at_84)
    have N22 := Fr.snoc X21 N12 g18
    have f23 := f19.other W21 ne17
    refine OGo.go (U' := T21.setTop (mkF m 85 #[.val (.int x0), .val (.int x1), .val (.ref b1), .val (.int (N k5)), .unset, .unset] [(.ref b16)])) st21 ?_
    refine OGo.go (U' := T21.setTop (mkF m 86 #[.val (.int x0), .val (.int x1), .val (.ref b1), .val (.int (N k5)), .unset, .unset] [(.ref b16), (.ref b16)])) (fun _ k => XS.dup X21.here hx rfl (hb hby at_85) rfl rfl k) ?_
    refine OGo.go (U' := T21.setTop (mkF m 87 #[.val (.int x0), .val (.int x1), .val (.ref b1), .val (.int (N k5)), .unset, .unset] [(.int (N 1)), (.ref b16), (.ref b16)])) (fun _ k => XS.iconst X21.here hx rfl (hb hby at_86) k) ?_
    refine OGo.go (U' := T21.setTop (mkF m 88 #[.val (.int x0), .val (.int x1), .val (.ref b1), .val (.int (N k5)), .unset, .unset] [(.ref b1), (.int (N 1)), (.ref b16), (.ref b16)])) (fun _ k => XS.aloadN X21.here hx rfl (hb hby at_87) rfl rfl k) ?_
    refine OGo.go (U' := T21.setTop (mkF m 89 #[.val (.int x0), .val (.int x1), .val (.ref b1), .val (.int (N k5)), .unset, .unset] [(.int (N 1)), (.ref b1), (.int (N 1)), (.ref b16), (.ref b16)])) (fun _ k => XS.iconst X21.here hx rfl (hb hby at_88) k) ?_
    refine OGo.go (U' := T21.setTop (mkF m 90 #[.val (.int x0), .val (.int x1), .val (.ref b1), .val (.int (N k5)), .unset, .unset] [(.int (N (gn 1))), (.int (N 1)), (.ref b16), (.ref b16)])) (fun _ k => ON.ld X21 hx hZ e21 f23 (j := 1) (by decide) (g := (mkF m 89 #[.val (.int x0), .val (.int x1), .val (.ref b1), .val (.int (N k5)), .unset, .unset] [(.int (N 1)), (.ref b1), (.int (N 1)), (.ref b16), (.ref b16)])) rfl rfl (hb hby at_89) _ k) ?_
    obtain ⟨T25, h25, X25, e25, W25, A25, st25⟩ := ON.st X21 hx hZ e21 A21 (j := 1) (v := (gn 1)) (by decide) (g := (mkF m 90 #[.val (.int x0), .val (.int x1), .val (.ref b1), .val (.int (N k5)), .unset, .unset] [(.int (N (gn 1))), (.int (N 1)), (.ref b16), (.ref b16)])) rfl rfl (hb hby at_90)
    have N26 := Fr.snoc X25 N22 g18
    have f27 := f23.other W25 ne17
    refine OGo.go (U' := T25.setTop (mkF m 91 #[.val (.int x0), .val (.int x1), .val (.ref b1), .val (.int (N k5)), .unset, .unset] [(.ref b16)])) st25 ?_
    refine OGo.go (U' := T25.setTop (mkF m 92 #[.val (.int x0), .val (.int x1), .val (.ref b1), .val (.int (N k5)), .unset, .unset] [(.ref b16), (.ref b16)])) (fun _ k => XS.dup X25.here hx rfl (hb hby at_91) rfl rfl k) ?_
    refine OGo.go (U' := T25.setTop (mkF m 93 #[.val (.int x0), .val (.int x1), .val (.ref b1), .val (.int (N k5)), .unset, .unset] [(.int (N 2)), (.ref b16), (.ref b16)])) (fun _ k => XS.iconst X25.here hx rfl (hb hby at_92) k) ?_
    refine OGo.go (U' := T25.setTop (mkF m 94 #[.val (.int x0), .val (.int x1), .val (.ref b1), .val (.int (N k5)), .unset, .unset] [(.ref b1), (.int (N 2)), (.ref b16), (.ref b16)])) (fun _ k => XS.aloadN X25.here hx rfl (hb hby at_93) rfl rfl k) ?_
    refine OGo.go (U' := T25.setTop (mkF m 95 #[.val (.int x0), .val (.int x1), .val (.ref b1), .val (.int (N k5)), .unset, .unset] [(.int (N 2)), (.ref b1), (.int (N 2)), (.ref b16), (.ref b16)])) (fun _ k => XS.iconst X25.here hx rfl (hb hby at_94) k) ?_
    refine OGo.go (U' := T25.setTop (mkF m 96 #[.val (.int x0), .val (.int x1), .val (.ref b1), .val (.int (N k5)), .unset, .unset] [(.int (N (gn 2))), (.int (N 2)), (.ref b16), (.ref b16)])) (fun _ k => ON.ld X25 hx hZ e25 f27 (j := 2) (by decide) (g := (mkF m 95 #[.val (.int x0), .val (.int x1), .val (.ref b1), .val (.int (N k5)), .unset, .unset] [(.int (N 2)), (.ref b1), (.int (N 2)), (.ref b16), (.ref b16)])) rfl rfl (hb hby at_95) _ k) ?_
    obtain ⟨T29, h29, X29, e29, W29, A29, st29⟩ := ON.st X25 hx hZ e25 A25 (j := 2) (v := (gn 2)) (by decide) (g := (mkF m 96 #[.val (.int x0), .val (.int x1), .val (.ref b1), .val (.int (N k5)), .unset, .unset] [(.int (N (gn 2))), (.int (N 2)), (.ref b16), (.ref b16)])) rfl rfl (hb hby at_96)
    have N30 := Fr.snoc X29 N26 g18
    have f31 := f27.other W29 ne17
    refine OGo.go (U' := T29.setTop (mkF m 97 #[.val (.int x0), .val (.int x1), .val (.ref b1), .val (.int (N k5)), .unset, .unset] [(.ref b16)])) st29 ?_
    refine OGo.go (U' := T29.setTop (mkF m 98 #[.val (.int x0), .val (.int x1), .val (.ref b1), .val (.int (N k5)), .unset, .unset] [(.ref b16), (.ref b16)])) (fun _ k => XS.dup X29.here hx rfl (hb hby at_97) rfl rfl k) ?_
    refine OGo.go (U' := T29.setTop (mkF m 99 #[.val (.int x0), .val (.int x1), .val (.ref b1), .val (.int (N k5)), .unset, .unset] [(.int (N 3)), (.ref b16), (.ref b16)])) (fun _ k => XS.iconst X29.here hx rfl (hb hby at_98) k) ?_
    refine OGo.go (U' := T29.setTop (mkF m 100 #[.val (.int x0), .val (.int x1), .val (.ref b1), .val (.int (N k5)), .unset, .unset] [(.ref b1), (.int (N 3)), (.ref b16), (.ref b16)])) (fun _ k => XS.aloadN X29.here hx rfl (hb hby at_99) rfl rfl k) ?_
    refine OGo.go (U' := T29.setTop (mkF m 101 #[.val (.int x0), .val (.int x1), .val (.ref b1), .val (.int (N k5)), .unset, .unset] [(.int (N 3)), (.ref b1), (.int (N 3)), (.ref b16), (.ref b16)])) (fun _ k => XS.iconst X29.here hx rfl (hb hby at_100) k) ?_
    refine OGo.go (U' := T29.setTop (mkF m 102 #[.val (.int x0), .val (.int x1), .val (.ref b1), .val (.int (N k5)), .unset, .unset] [(.int (N (gn 3))), (.int (N 3)), (.ref b16), (.ref b16)])) (fun _ k => ON.ld X29 hx hZ e29 f31 (j := 3) (by decide) (g := (mkF m 101 #[.val (.int x0), .val (.int x1), .val (.ref b1), .val (.int (N k5)), .unset, .unset] [(.int (N 3)), (.ref b1), (.int (N 3)), (.ref b16), (.ref b16)])) rfl rfl (hb hby at_101) _ k) ?_
    obtain ⟨T33, h33, X33, e33, W33, A33, st33⟩ := ON.st X29 hx hZ e29 A29 (j := 3) (v := (gn 3)) (by decide) (g := (mkF m 102 #[.val (.int x0), .val (.int x1), .val (.ref b1), .val (.int (N k5)), .unset, .unset] [(.int (N (gn 3))), (.int (N 3)), (.ref b16), (.ref b16)])) rfl rfl (hb hby at_102)
    have N34 := Fr.snoc X33 N30 g18
    have f35 := f31.other W33 ne17
    refine OGo.go (U' := T33.setTop (mkF m 103 #[.val (.int x0), .val (.int x1), .val (.ref b1), .val (.int (N k5)), .unset, .unset] [(.ref b16)])) st33 ?_
    refine OGo.go (U' := T33.setTop (mkF m 104 #[.val (.int x0), .val (.int x1), .val (.ref b1), .val (.int (N k5)), .unset, .unset] [(.ref b16), (.ref b16)])) (fun _ k => XS.dup X33.here hx rfl (hb hby at_103) rfl rfl k) ?_
    refine OGo.go (U' := T33.setTop (mkF m 105 #[.val (.int x0), .val (.int x1), .val (.ref b1), .val (.int (N k5)), .unset, .unset] [(.int (N 4)), (.ref b16), (.ref b16)])) (fun _ k => XS.iconst X33.here hx rfl (hb hby at_104) k) ?_
    refine OGo.go (U' := T33.setTop (mkF m 106 #[.val (.int x0), .val (.int x1), .val (.ref b1), .val (.int (N k5)), .unset, .unset] [(.ref b1), (.int (N 4)), (.ref b16), (.ref b16)])) (fun _ k => XS.aloadN X33.here hx rfl (hb hby at_105) rfl rfl k) ?_
    refine OGo.go (U' := T33.setTop (mkF m 107 #[.val (.int x0), .val (.int x1), .val (.ref b1), .val (.int (N k5)), .unset, .unset] [(.int (N 4)), (.ref b1), (.int (N 4)), (.ref b16), (.ref b16)])) (fun _ k => XS.iconst X33.here hx rfl (hb hby at_106) k) ?_
    refine OGo.go (U' := T33.setTop (mkF m 108 #[.val (.int x0), .val (.int x1), .val (.ref b1), .val (.int (N k5)), .unset, .unset] [(.int (N (gn 4))), (.int (N 4)), (.ref b16), (.ref b16)])) (fun _ k => ON.ld X33 hx hZ e33 f35 (j := 4) (by decide) (g := (mkF m 107 #[.val (.int x0), .val (.int x1), .val (.ref b1), .val (.int (N k5)), .unset, .unset] [(.int (N 4)), (.ref b1), (.int (N 4)), (.ref b16), (.ref b16)])) rfl rfl (hb hby at_107) _ k) ?_
    obtain ⟨T37, h37, X37, e37, W37, A37, st37⟩ := ON.st X33 hx hZ e33 A33 (j := 4) (v := (gn 4)) (by decide) (g := (mkF m 108 #[.val (.int x0), .val (.int x1), .val (.ref b1), .val (.int (N k5)), .unset, .unset] [(.int (N (gn 4))), (.int (N 4)), (.ref b16), (.ref b16)])) rfl rfl (hb hby at_108)
    have N38 := Fr.snoc X37 N34 g18
    have f39 := f35.other W37 ne17
    refine OGo.go (U' := T37.setTop (mkF m 109 #[.val (.int x0), .val (.int x1), .val (.ref b1), .val (.int (N k5)), .unset, .unset] [(.ref b16)])) st37 ?_
    obtain ⟨hn, hhn⟩ : ∃ f : Nat → Nat, f = (upd (upd (upd (upd (upd zero5 0 (gn 0)) 1 (gn 1)) 2 (gn 2)) 3 (gn 3)) 4 (gn 4)) := ⟨_, rfl⟩
    have hrhn : R5 hn := by rw [hhn]; exact (R5.upd (R5.upd (R5.upd (R5.upd (R5.upd R5.zero (hrgn _ (by decide))) (hrgn _ (by decide))) (hrgn _ (by decide))) (hrgn _ (by decide))) (hrgn _ (by decide)))
    rw [← hhn] at A37
    refine OGo.go (U' := T37.setTop (mkF m 111 #[.val (.int x0), .val (.int x1), .val (.ref b1), .val (.int (N k5)), .val (.ref b16), .unset] [])) (fun _ k => XS.astore X37.here hx rfl (hb hby at_109) rfl rfl (l' := #[.val (.int x0), .val (.int x1), .val (.ref b1), .val (.int (N k5)), .val (.ref b16), .unset]) rfl k) ?_
    refine OGo.go (U' := T37.setTop (mkF m 113 #[.val (.int x0), .val (.int x1), .val (.ref b1), .val (.int (N k5)), .val (.ref b16), .unset] [(.ref b16)])) (fun _ k => XS.aload X37.here hx rfl (hb hby at_111) rfl rfl k) ?_
    refine OGo.go (U' := T37.setTop (mkF m 114 #[.val (.int x0), .val (.int x1), .val (.ref b1), .val (.int (N k5)), .val (.ref b16), .unset] [(.int (N k5)), (.ref b16)])) (fun _ k => XS.iloadN X37.here hx rfl (hb hby at_113) rfl k) ?_
    obtain ⟨pn, r, hrun, hpr, hr5, hall⟩ := own_plain hk0 hk1 hk2 hk3 hk4 hk5 hgn hhn hy14 hc15
    refine OGo.callS X37 hx hZ (y := (⟨"com/example/sieveplan/sieveplan/plan/JoinOrder", "named", "([II)I"⟩ : MethodName)) hown (hw _ (List.mem_of_getElem? (i := 12) rfl)) (hw _ (List.mem_of_getElem? (i := 13) rfl)) (hw _ (List.mem_of_getElem? (i := 14) rfl)) (hw _ (List.mem_of_getElem? (i := 15) rfl)) (by decide) (g := (mkF m 114 #[.val (.int x0), .val (.int x1), .val (.ref b1), .val (.int (N k5)), .val (.ref b16), .unset] [(.int (N k5)), (.ref b16)])) (argsL := [(.ref b16), (.int (N k5))]) (rest := []) e37 (rm_named l Z a0 hw b16 k5 hn pn r n0 h37 A37 hrhn hk5 g18 hrun) rfl (by rw [hml]; rfl) (lenOf pd_0 rfl) rfl (W := 0) (by show 2 * 0 + _ ≤ _; exact Nat.le_of_eq rfl) (hb hby at_114) (by decide) (by decide) (by decide) (by decide) ?_
    rintro _ T40 L40 X40 ⟨rfl, N40, K40, A40⟩
    have e40 : T40.heap = T40.heap := rfl
    have N41 := Fr.app N38 N40
    have f42 := f39.keep K40 (ninS ne17 nin0)
    refine OGo.go (U' := T40.setTop (mkF m 119 #[.val (.int x0), .val (.int x1), .val (.ref b1), .val (.int (N k5)), .val (.ref b16), .val (.int (N r))] [])) (fun _ k => XS.istore X40.here hx rfl (hb hby at_117) rfl (l' := #[.val (.int x0), .val (.int x1), .val (.ref b1), .val (.int (N k5)), .val (.ref b16), .val (.int (N r))]) rfl k) ?_
    refine OGo.go (U' := T40.setTop (mkF m 121 #[.val (.int x0), .val (.int x1), .val (.ref b1), .val (.int (N k5)), .val (.ref b16), .val (.int (N r))] [(.int (N r))])) (fun _ k => XS.iload X40.here hx rfl (hb hby at_119) rfl k) ?_
    refine OGo.go (U' := T40.setTop (mkF m 124 #[.val (.int x0), .val (.int x1), .val (.ref b1), .val (.int (N k5)), .val (.ref b16), .val (.int (N r))] [])) (fun _ k => XS.ifNo X40.here hx rfl (hb hby at_121) rfl ((if0 _ _).trans (flt (N_nn hr5)).1) k) ?_
    refine OGo.go (U' := T40.setTop (mkF m 126 #[.val (.int x0), .val (.int x1), .val (.ref b1), .val (.int (N k5)), .val (.ref b16), .val (.int (N r))] [(.int (N r))])) (fun _ k => XS.iload X40.here hx rfl (hb hby at_124) rfl k) ?_
    refine OGo.go (U' := T40.setTop (mkF m 127 #[.val (.int x0), .val (.int x1), .val (.ref b1), .val (.int (N k5)), .val (.ref b16), .val (.int (N r))] [(.int (N 4)), (.int (N r))])) (fun _ k => XS.iconst X40.here hx rfl (hb hby at_126) k) ?_
    refine OGo.go (U' := T40.setTop (mkF m 132 #[.val (.int x0), .val (.int x1), .val (.ref b1), .val (.int (N k5)), .val (.ref b16), .val (.int (N r))] [])) (fun _ k => XS.icmpYes X40.here hx rfl (pc0 := 127) (pc' := 132) rfl (hb hby at_127) rfl (flt (N_le4 hr5)).2.2.2 (by decide) (by decide) k) ?_
    refine OGo.go (U' := T40.setTop (mkF m 134 #[.val (.int x0), .val (.int x1), .val (.ref b1), .val (.int (N k5)), .val (.ref b16), .val (.int (N r))] [(.ref b16)])) (fun _ k => XS.aload X40.here hx rfl (hb hby at_132) rfl rfl k) ?_
    refine OGo.callS X40 hx hZ (y := (⟨"com/example/sieveplan/sieveplan/plan/JoinOrderNamedPinLaw", "inRange", "([I)Z"⟩ : MethodName)) hown (hw _ (List.mem_of_getElem? (i := 16) rfl)) (hw _ (List.mem_of_getElem? (i := 17) rfl)) (hw _ (List.mem_of_getElem? (i := 4) rfl)) (hw _ (List.mem_of_getElem? (i := 18) rfl)) (by decide) (g := (mkF m 134 #[.val (.int x0), .val (.int x1), .val (.ref b1), .val (.int (N k5)), .val (.ref b16), .val (.int (N r))] [(.ref b16)])) (argsL := [(.ref b16)]) (rest := []) e40 (rm_inr l Z a0 hw b16 pn T40.heap A40 hpr) rfl (by rw [hml]; rfl) (lenOf pd_3 rfl) rfl (W := 0) (by show 2 * 0 + _ ≤ _; exact Nat.le_of_eq rfl) (hb hby at_134) (by decide) (by decide) (by decide) (by decide) ?_
    rintro _ T43 _ X43 ⟨rfl, e43, rfl⟩
    rw [List.append_nil] at X43
    refine OGo.go (U' := T43.setTop (mkF m 140 #[.val (.int x0), .val (.int x1), .val (.ref b1), .val (.int (N k5)), .val (.ref b16), .val (.int (N r))] [])) (fun _ k => XS.ifNo X43.here hx rfl (hb hby at_137) rfl ((if0 _ _).trans (feq (by decide)).1) k) ?_
    refine OGo.go (U' := T43.setTop (mkF m 142 #[.val (.int x0), .val (.int x1), .val (.ref b1), .val (.int (N k5)), .val (.ref b16), .val (.int (N r))] [(.ref b16)])) (fun _ k => XS.aload X43.here hx rfl (hb hby at_140) rfl rfl k) ?_
    refine OGo.callS X43 hx hZ (y := (⟨"com/example/sieveplan/sieveplan/plan/JoinOrderNamedPinLaw", "forest", "([I)Z"⟩ : MethodName)) hown (hw _ (List.mem_of_getElem? (i := 2) rfl)) (hw _ (List.mem_of_getElem? (i := 3) rfl)) (hw _ (List.mem_of_getElem? (i := 4) rfl)) (hw _ (List.mem_of_getElem? (i := 5) rfl)) (by decide) (g := (mkF m 142 #[.val (.int x0), .val (.int x1), .val (.ref b1), .val (.int (N k5)), .val (.ref b16), .val (.int (N r))] [(.ref b16)])) (argsL := [(.ref b16)]) (rest := []) e43 (rm_forest l Z a0 hw b16  pn T40.heap A40 hpr ) rfl (by rw [hml]; rfl) (lenOf pd_3 rfl) rfl (W := 0) (by show 2 * 0 + _ ≤ _; exact Nat.le_of_eq rfl) (hb hby at_142) (by decide) (by decide) (by decide) (by decide) ?_
    rintro _ T44 _ X44 ⟨rfl, e44, rfl⟩
    rw [List.append_nil] at X44
    refine OGo.nm (fun (y45 : Int32) => T44.setTop (mkF m 145 #[.val (.int x0), .val (.int x1), .val (.ref b1), .val (.int (N k5)), .val (.ref b16), .val (.int (N r))] [(.int y45)])) (x := (F_forest pn )) (fun y45 hy45 => ?_)
    refine OGo.go (U' := T44.setTop (mkF m 150 #[.val (.int x0), .val (.int x1), .val (.ref b1), .val (.int (N k5)), .val (.ref b16), .val (.int (N r))] [])) (fun _ k => XS.ifYes X44.here hx rfl (pc0 := 145) (pc' := 150) rfl (hb hby at_145) rfl ((if0 _ _).trans (feq (own_dec_law_0 hgn hy14 hc15 hhn hr5 hall hy45)).2) (by decide) (by decide) k) ?_
    refine OGo.go (U' := T44.setTop (mkF m 152 #[.val (.int x0), .val (.int x1), .val (.ref b1), .val (.int (N k5)), .val (.ref b16), .val (.int (N r))] [(.int (N r))])) (fun _ k => XS.iload X44.here hx rfl (hb hby at_150) rfl k) ?_
    refine OGo.go (U' := T44.setTop (mkF m 153 #[.val (.int x0), .val (.int x1), .val (.ref b1), .val (.int (N k5)), .val (.ref b16), .val (.int (N r))] [(.ref b1), (.int (N r))])) (fun _ k => XS.aloadN X44.here hx rfl (hb hby at_152) rfl rfl k) ?_
    refine OGo.go (U' := T44.setTop (mkF m 154 #[.val (.int x0), .val (.int x1), .val (.ref b1), .val (.int (N k5)), .val (.ref b16), .val (.int (N r))] [(.int (N k5)), (.ref b1), (.int (N r))])) (fun _ k => XS.iloadN X44.here hx rfl (hb hby at_153) rfl k) ?_
    refine OGo.callS X44 hx hZ (y := (⟨"com/example/sieveplan/sieveplan/plan/JoinOrderNamedPinLaw", "root", "([II)I"⟩ : MethodName)) hown (hw _ (List.mem_of_getElem? (i := 9) rfl)) (hw _ (List.mem_of_getElem? (i := 10) rfl)) (hw _ (List.mem_of_getElem? (i := 4) rfl)) (hw _ (List.mem_of_getElem? (i := 11) rfl)) (by decide) (g := (mkF m 154 #[.val (.int x0), .val (.int x1), .val (.ref b1), .val (.int (N k5)), .val (.ref b16), .val (.int (N r))] [(.int (N k5)), (.ref b1), (.int (N r))])) (argsL := [(.ref b1), (.int (N k5))]) (rest := [(.int (N r))]) e44 (rm_root l Z a0 hw b1 k5 gn T40.heap f42 hrgn hk5) rfl (by rw [hml]; rfl) (lenOf pd_0 rfl) rfl (W := 1) (by show 2 * 0 + _ ≤ _; exact Nat.le_of_eq rfl) (hb hby at_154) (by decide) (by decide) (by decide) (by decide) ?_
    rintro _ T46 _ X46 ⟨rfl, e46, rfl⟩
    rw [List.append_nil] at X46
    refine OGo.go (U' := T46.setTop (mkF m 160 #[.val (.int x0), .val (.int x1), .val (.ref b1), .val (.int (N k5)), .val (.ref b16), .val (.int (N r))] [])) (fun _ k => XS.icmpNo X46.here hx rfl (hb hby at_157) rfl (teq (congrArg N (own_dec_law_1 hgn hy14 hc15 hhn hr5 hall hy45))).2 k) ?_
    refine OGo.go (U' := T46.setTop (mkF m 162 #[.val (.int x0), .val (.int x1), .val (.ref b1), .val (.int (N k5)), .val (.ref b16), .val (.int (N r))] [(.ref b16)])) (fun _ k => XS.aload X46.here hx rfl (hb hby at_160) rfl rfl k) ?_
    refine OGo.go (U' := T46.setTop (mkF m 164 #[.val (.int x0), .val (.int x1), .val (.ref b1), .val (.int (N k5)), .val (.ref b16), .val (.int (N r))] [(.int (N r)), (.ref b16)])) (fun _ k => XS.iload X46.here hx rfl (hb hby at_162) rfl k) ?_
    refine OGo.go (U' := T46.setTop (mkF m 165 #[.val (.int x0), .val (.int x1), .val (.ref b1), .val (.int (N k5)), .val (.ref b16), .val (.int (N r))] [(.int (N (pn r)))])) (fun _ k => ON.ld X46 hx hZ e46 A40 (j := r) hr5 (g := (mkF m 164 #[.val (.int x0), .val (.int x1), .val (.ref b1), .val (.int (N k5)), .val (.ref b16), .val (.int (N r))] [(.int (N r)), (.ref b16)])) rfl rfl (hb hby at_164) _ k) ?_
    refine OGo.go (U' := T46.setTop (mkF m 167 #[.val (.int x0), .val (.int x1), .val (.ref b1), .val (.int (N k5)), .val (.ref b16), .val (.int (N r))] [(.int (N r)), (.int (N (pn r)))])) (fun _ k => XS.iload X46.here hx rfl (hb hby at_165) rfl k) ?_
    refine OGo.go (U' := T46.setTop (mkF m 172 #[.val (.int x0), .val (.int x1), .val (.ref b1), .val (.int (N k5)), .val (.ref b16), .val (.int (N r))] [])) (fun _ k => XS.icmpYes X46.here hx rfl (pc0 := 167) (pc' := 172) rfl (hb hby at_167) rfl (teq (congrArg N (own_dec_law_2 hgn hy14 hc15 hhn hr5 hall hy45))).1 (by decide) (by decide) k) ?_
    refine OGo.go (U' := T46.setTop (mkF m 173 #[.val (.int x0), .val (.int x1), .val (.ref b1), .val (.int (N k5)), .val (.ref b16), .val (.int (N r))] [(.ref b1)])) (fun _ k => XS.aloadN X46.here hx rfl (hb hby at_172) rfl rfl k) ?_
    refine OGo.go (U' := T46.setTop (mkF m 174 #[.val (.int x0), .val (.int x1), .val (.ref b1), .val (.int (N k5)), .val (.ref b16), .val (.int (N r))] [(.int (N k5)), (.ref b1)])) (fun _ k => XS.iloadN X46.here hx rfl (hb hby at_173) rfl k) ?_
    refine OGo.callS X46 hx hZ (y := (⟨"com/example/sieveplan/sieveplan/plan/JoinOrderNamedPinLaw", "depth", "([II)I"⟩ : MethodName)) hown (hw _ (List.mem_of_getElem? (i := 19) rfl)) (hw _ (List.mem_of_getElem? (i := 20) rfl)) (hw _ (List.mem_of_getElem? (i := 4) rfl)) (hw _ (List.mem_of_getElem? (i := 21) rfl)) (by decide) (g := (mkF m 174 #[.val (.int x0), .val (.int x1), .val (.ref b1), .val (.int (N k5)), .val (.ref b16), .val (.int (N r))] [(.int (N k5)), (.ref b1)])) (argsL := [(.ref b1), (.int (N k5))]) (rest := []) e46 (rm_depth l Z a0 hw b1 k5 gn T40.heap f42 hrgn hk5) rfl (by rw [hml]; rfl) (lenOf pd_0 rfl) rfl (W := 0) (by show 2 * 0 + _ ≤ _; exact Nat.le_of_eq rfl) (hb hby at_174) (by decide) (by decide) (by decide) (by decide) ?_
    rintro _ T48 _ X48 ⟨rfl, e48, rfl⟩
    rw [List.append_nil] at X48
    refine OGo.nm (fun (y49 : Int32) => T48.setTop (mkF m 177 #[.val (.int x0), .val (.int x1), .val (.ref b1), .val (.int (N k5)), .val (.ref b16), .val (.int (N r))] [(.int y49)])) (x := (F_depth gn k5)) (fun y49 hy49 => ?_)
    refine OGo.go (U' := T48.setTop (mkF m 178 #[.val (.int x0), .val (.int x1), .val (.ref b1), .val (.int (N k5)), .val (.ref b16), .val (.int (N r))] [(.int (N 2)), (.int y49)])) (fun _ k => XS.iconst X48.here hx rfl (hb hby at_177) k) ?_
    by_cases hc50 : y49 < (N 2)
    · skip
      refine OGo.go (U' := T48.setTop (mkF m 197 #[.val (.int x0), .val (.int x1), .val (.ref b1), .val (.int (N k5)), .val (.ref b16), .val (.int (N r))] [])) (fun _ k => XS.icmpYes X48.here hx rfl (pc0 := 178) (pc' := 197) rfl (hb hby at_178) rfl (tlt hc50).1 (by decide) (by decide) k) ?_
      refine OGo.go (U' := T48.setTop (mkF m 198 #[.val (.int x0), .val (.int x1), .val (.ref b1), .val (.int (N k5)), .val (.ref b16), .val (.int (N r))] [(.ref b1)])) (fun _ k => XS.aloadN X48.here hx rfl (hb hby at_197) rfl rfl k) ?_
      refine OGo.go (U' := T48.setTop (mkF m 200 #[.val (.int x0), .val (.int x1), .val (.ref b1), .val (.int (N k5)), .val (.ref b16), .val (.int (N r))] [(.ref b16), (.ref b1)])) (fun _ k => XS.aload X48.here hx rfl (hb hby at_198) rfl rfl k) ?_
      refine OGo.go (U' := T48.setTop (mkF m 201 #[.val (.int x0), .val (.int x1), .val (.ref b1), .val (.int (N k5)), .val (.ref b16), .val (.int (N r))] [(.int (N k5)), (.ref b16), (.ref b1)])) (fun _ k => XS.iloadN X48.here hx rfl (hb hby at_200) rfl k) ?_
      refine OGo.go (U' := T48.setTop (mkF m 202 #[.val (.int x0), .val (.int x1), .val (.ref b1), .val (.int (N k5)), .val (.ref b16), .val (.int (N r))] [(.int (N 0)), (.int (N k5)), (.ref b16), (.ref b1)])) (fun _ k => XS.iconst X48.here hx rfl (hb hby at_201) k) ?_
      refine OGo.callS X48 hx hZ (y := (⟨"com/example/sieveplan/sieveplan/plan/JoinOrderNamedPinLaw", "check", "([I[III)Z"⟩ : MethodName)) hown (hw _ (List.mem_of_getElem? (i := 22) rfl)) (hw _ (List.mem_of_getElem? (i := 23) rfl)) (hw _ (List.mem_of_getElem? (i := 4) rfl)) (hw _ (List.mem_of_getElem? (i := 24) rfl)) (by decide) (g := (mkF m 202 #[.val (.int x0), .val (.int x1), .val (.ref b1), .val (.int (N k5)), .val (.ref b16), .val (.int (N r))] [(.int (N 0)), (.int (N k5)), (.ref b16), (.ref b1)])) (argsL := [(.ref b1), (.ref b16), (.int (N k5)), (.int (N 0))]) (rest := []) e48 (rm_chk l Z a0 hw b1 b16 k5 0 gn pn T40.heap f42 A40 hrgn hpr hk5 (by decide)) rfl (by rw [hml]; rfl) (lenOf pd_4 rfl) rfl (W := 0) (by show 2 * 0 + _ ≤ _; exact Nat.le_of_eq rfl) (hb hby at_202) (by decide) (by decide) (by decide) (by decide) ?_
      rintro _ T51 _ X51 ⟨rfl, e51, rfl⟩
      rw [List.append_nil] at X51
      refine OGo.nm (fun (y52 : Int32) => T51.setTop (mkF m 205 #[.val (.int x0), .val (.int x1), .val (.ref b1), .val (.int (N k5)), .val (.ref b16), .val (.int (N r))] [(.int y52)])) (x := (F_chk gn pn k5 0)) (fun y52 hy52 => ?_)
      refine OGo.go (U' := T51.setTop (mkF m 208 #[.val (.int x0), .val (.int x1), .val (.ref b1), .val (.int (N k5)), .val (.ref b16), .val (.int (N r))] [])) (fun _ k => XS.ifNo X51.here hx rfl (hb hby at_205) rfl ((if0 _ _).trans (feq (own_dec_law_3 hgn hy14 hc15 hhn hr5 hall hy45 hy49 hc50 hy52)).1) k) ?_
      refine OGo.go (U' := T51.setTop (mkF m 209 #[.val (.int x0), .val (.int x1), .val (.ref b1), .val (.int (N k5)), .val (.ref b16), .val (.int (N r))] [(.ref b1)])) (fun _ k => XS.aloadN X51.here hx rfl (hb hby at_208) rfl rfl k) ?_
      refine OGo.go (U' := T51.setTop (mkF m 211 #[.val (.int x0), .val (.int x1), .val (.ref b1), .val (.int (N k5)), .val (.ref b16), .val (.int (N r))] [(.ref b16), (.ref b1)])) (fun _ k => XS.aload X51.here hx rfl (hb hby at_209) rfl rfl k) ?_
      refine OGo.go (U' := T51.setTop (mkF m 212 #[.val (.int x0), .val (.int x1), .val (.ref b1), .val (.int (N k5)), .val (.ref b16), .val (.int (N r))] [(.int (N k5)), (.ref b16), (.ref b1)])) (fun _ k => XS.iloadN X51.here hx rfl (hb hby at_211) rfl k) ?_
      refine OGo.go (U' := T51.setTop (mkF m 213 #[.val (.int x0), .val (.int x1), .val (.ref b1), .val (.int (N k5)), .val (.ref b16), .val (.int (N r))] [(.int (N 1)), (.int (N k5)), (.ref b16), (.ref b1)])) (fun _ k => XS.iconst X51.here hx rfl (hb hby at_212) k) ?_
      refine OGo.callS X51 hx hZ (y := (⟨"com/example/sieveplan/sieveplan/plan/JoinOrderNamedPinLaw", "check", "([I[III)Z"⟩ : MethodName)) hown (hw _ (List.mem_of_getElem? (i := 22) rfl)) (hw _ (List.mem_of_getElem? (i := 23) rfl)) (hw _ (List.mem_of_getElem? (i := 4) rfl)) (hw _ (List.mem_of_getElem? (i := 24) rfl)) (by decide) (g := (mkF m 213 #[.val (.int x0), .val (.int x1), .val (.ref b1), .val (.int (N k5)), .val (.ref b16), .val (.int (N r))] [(.int (N 1)), (.int (N k5)), (.ref b16), (.ref b1)])) (argsL := [(.ref b1), (.ref b16), (.int (N k5)), (.int (N 1))]) (rest := []) e51 (rm_chk l Z a0 hw b1 b16 k5 1 gn pn T40.heap f42 A40 hrgn hpr hk5 (by decide)) rfl (by rw [hml]; rfl) (lenOf pd_4 rfl) rfl (W := 0) (by show 2 * 0 + _ ≤ _; exact Nat.le_of_eq rfl) (hb hby at_213) (by decide) (by decide) (by decide) (by decide) ?_
      rintro _ T53 _ X53 ⟨rfl, e53, rfl⟩
      rw [List.append_nil] at X53
      refine OGo.nm (fun (y54 : Int32) => T53.setTop (mkF m 216 #[.val (.int x0), .val (.int x1), .val (.ref b1), .val (.int (N k5)), .val (.ref b16), .val (.int (N r))] [(.int y54)])) (x := (F_chk gn pn k5 1)) (fun y54 hy54 => ?_)
      refine OGo.go (U' := T53.setTop (mkF m 219 #[.val (.int x0), .val (.int x1), .val (.ref b1), .val (.int (N k5)), .val (.ref b16), .val (.int (N r))] [])) (fun _ k => XS.ifNo X53.here hx rfl (hb hby at_216) rfl ((if0 _ _).trans (feq (own_dec_law_4 hgn hy14 hc15 hhn hr5 hall hy45 hy49 hc50 hy52 hy54)).1) k) ?_
      refine OGo.go (U' := T53.setTop (mkF m 220 #[.val (.int x0), .val (.int x1), .val (.ref b1), .val (.int (N k5)), .val (.ref b16), .val (.int (N r))] [(.ref b1)])) (fun _ k => XS.aloadN X53.here hx rfl (hb hby at_219) rfl rfl k) ?_
      refine OGo.go (U' := T53.setTop (mkF m 222 #[.val (.int x0), .val (.int x1), .val (.ref b1), .val (.int (N k5)), .val (.ref b16), .val (.int (N r))] [(.ref b16), (.ref b1)])) (fun _ k => XS.aload X53.here hx rfl (hb hby at_220) rfl rfl k) ?_
      refine OGo.go (U' := T53.setTop (mkF m 223 #[.val (.int x0), .val (.int x1), .val (.ref b1), .val (.int (N k5)), .val (.ref b16), .val (.int (N r))] [(.int (N k5)), (.ref b16), (.ref b1)])) (fun _ k => XS.iloadN X53.here hx rfl (hb hby at_222) rfl k) ?_
      refine OGo.go (U' := T53.setTop (mkF m 224 #[.val (.int x0), .val (.int x1), .val (.ref b1), .val (.int (N k5)), .val (.ref b16), .val (.int (N r))] [(.int (N 2)), (.int (N k5)), (.ref b16), (.ref b1)])) (fun _ k => XS.iconst X53.here hx rfl (hb hby at_223) k) ?_
      refine OGo.callS X53 hx hZ (y := (⟨"com/example/sieveplan/sieveplan/plan/JoinOrderNamedPinLaw", "check", "([I[III)Z"⟩ : MethodName)) hown (hw _ (List.mem_of_getElem? (i := 22) rfl)) (hw _ (List.mem_of_getElem? (i := 23) rfl)) (hw _ (List.mem_of_getElem? (i := 4) rfl)) (hw _ (List.mem_of_getElem? (i := 24) rfl)) (by decide) (g := (mkF m 224 #[.val (.int x0), .val (.int x1), .val (.ref b1), .val (.int (N k5)), .val (.ref b16), .val (.int (N r))] [(.int (N 2)), (.int (N k5)), (.ref b16), (.ref b1)])) (argsL := [(.ref b1), (.ref b16), (.int (N k5)), (.int (N 2))]) (rest := []) e53 (rm_chk l Z a0 hw b1 b16 k5 2 gn pn T40.heap f42 A40 hrgn hpr hk5 (by decide)) rfl (by rw [hml]; rfl) (lenOf pd_4 rfl) rfl (W := 0) (by show 2 * 0 + _ ≤ _; exact Nat.le_of_eq rfl) (hb hby at_224) (by decide) (by decide) (by decide) (by decide) ?_
      rintro _ T55 _ X55 ⟨rfl, e55, rfl⟩
      rw [List.append_nil] at X55
      refine OGo.nm (fun (y56 : Int32) => T55.setTop (mkF m 227 #[.val (.int x0), .val (.int x1), .val (.ref b1), .val (.int (N k5)), .val (.ref b16), .val (.int (N r))] [(.int y56)])) (x := (F_chk gn pn k5 2)) (fun y56 hy56 => ?_)
      refine OGo.go (U' := T55.setTop (mkF m 230 #[.val (.int x0), .val (.int x1), .val (.ref b1), .val (.int (N k5)), .val (.ref b16), .val (.int (N r))] [])) (fun _ k => XS.ifNo X55.here hx rfl (hb hby at_227) rfl ((if0 _ _).trans (feq (own_dec_law_5 hgn hy14 hc15 hhn hr5 hall hy45 hy49 hc50 hy52 hy54 hy56)).1) k) ?_
      refine OGo.go (U' := T55.setTop (mkF m 231 #[.val (.int x0), .val (.int x1), .val (.ref b1), .val (.int (N k5)), .val (.ref b16), .val (.int (N r))] [(.ref b1)])) (fun _ k => XS.aloadN X55.here hx rfl (hb hby at_230) rfl rfl k) ?_
      refine OGo.go (U' := T55.setTop (mkF m 233 #[.val (.int x0), .val (.int x1), .val (.ref b1), .val (.int (N k5)), .val (.ref b16), .val (.int (N r))] [(.ref b16), (.ref b1)])) (fun _ k => XS.aload X55.here hx rfl (hb hby at_231) rfl rfl k) ?_
      refine OGo.go (U' := T55.setTop (mkF m 234 #[.val (.int x0), .val (.int x1), .val (.ref b1), .val (.int (N k5)), .val (.ref b16), .val (.int (N r))] [(.int (N k5)), (.ref b16), (.ref b1)])) (fun _ k => XS.iloadN X55.here hx rfl (hb hby at_233) rfl k) ?_
      refine OGo.go (U' := T55.setTop (mkF m 235 #[.val (.int x0), .val (.int x1), .val (.ref b1), .val (.int (N k5)), .val (.ref b16), .val (.int (N r))] [(.int (N 3)), (.int (N k5)), (.ref b16), (.ref b1)])) (fun _ k => XS.iconst X55.here hx rfl (hb hby at_234) k) ?_
      refine OGo.callS X55 hx hZ (y := (⟨"com/example/sieveplan/sieveplan/plan/JoinOrderNamedPinLaw", "check", "([I[III)Z"⟩ : MethodName)) hown (hw _ (List.mem_of_getElem? (i := 22) rfl)) (hw _ (List.mem_of_getElem? (i := 23) rfl)) (hw _ (List.mem_of_getElem? (i := 4) rfl)) (hw _ (List.mem_of_getElem? (i := 24) rfl)) (by decide) (g := (mkF m 235 #[.val (.int x0), .val (.int x1), .val (.ref b1), .val (.int (N k5)), .val (.ref b16), .val (.int (N r))] [(.int (N 3)), (.int (N k5)), (.ref b16), (.ref b1)])) (argsL := [(.ref b1), (.ref b16), (.int (N k5)), (.int (N 3))]) (rest := []) e55 (rm_chk l Z a0 hw b1 b16 k5 3 gn pn T40.heap f42 A40 hrgn hpr hk5 (by decide)) rfl (by rw [hml]; rfl) (lenOf pd_4 rfl) rfl (W := 0) (by show 2 * 0 + _ ≤ _; exact Nat.le_of_eq rfl) (hb hby at_235) (by decide) (by decide) (by decide) (by decide) ?_
      rintro _ T57 _ X57 ⟨rfl, e57, rfl⟩
      rw [List.append_nil] at X57
      refine OGo.nm (fun (y58 : Int32) => T57.setTop (mkF m 238 #[.val (.int x0), .val (.int x1), .val (.ref b1), .val (.int (N k5)), .val (.ref b16), .val (.int (N r))] [(.int y58)])) (x := (F_chk gn pn k5 3)) (fun y58 hy58 => ?_)
      refine OGo.go (U' := T57.setTop (mkF m 241 #[.val (.int x0), .val (.int x1), .val (.ref b1), .val (.int (N k5)), .val (.ref b16), .val (.int (N r))] [])) (fun _ k => XS.ifNo X57.here hx rfl (hb hby at_238) rfl ((if0 _ _).trans (feq (own_dec_law_6 hgn hy14 hc15 hhn hr5 hall hy45 hy49 hc50 hy52 hy54 hy56 hy58)).1) k) ?_
      refine OGo.go (U' := T57.setTop (mkF m 242 #[.val (.int x0), .val (.int x1), .val (.ref b1), .val (.int (N k5)), .val (.ref b16), .val (.int (N r))] [(.ref b1)])) (fun _ k => XS.aloadN X57.here hx rfl (hb hby at_241) rfl rfl k) ?_
      refine OGo.go (U' := T57.setTop (mkF m 244 #[.val (.int x0), .val (.int x1), .val (.ref b1), .val (.int (N k5)), .val (.ref b16), .val (.int (N r))] [(.ref b16), (.ref b1)])) (fun _ k => XS.aload X57.here hx rfl (hb hby at_242) rfl rfl k) ?_
      refine OGo.go (U' := T57.setTop (mkF m 245 #[.val (.int x0), .val (.int x1), .val (.ref b1), .val (.int (N k5)), .val (.ref b16), .val (.int (N r))] [(.int (N k5)), (.ref b16), (.ref b1)])) (fun _ k => XS.iloadN X57.here hx rfl (hb hby at_244) rfl k) ?_
      refine OGo.go (U' := T57.setTop (mkF m 246 #[.val (.int x0), .val (.int x1), .val (.ref b1), .val (.int (N k5)), .val (.ref b16), .val (.int (N r))] [(.int (N 4)), (.int (N k5)), (.ref b16), (.ref b1)])) (fun _ k => XS.iconst X57.here hx rfl (hb hby at_245) k) ?_
      refine OGo.callS X57 hx hZ (y := (⟨"com/example/sieveplan/sieveplan/plan/JoinOrderNamedPinLaw", "check", "([I[III)Z"⟩ : MethodName)) hown (hw _ (List.mem_of_getElem? (i := 22) rfl)) (hw _ (List.mem_of_getElem? (i := 23) rfl)) (hw _ (List.mem_of_getElem? (i := 4) rfl)) (hw _ (List.mem_of_getElem? (i := 24) rfl)) (by decide) (g := (mkF m 246 #[.val (.int x0), .val (.int x1), .val (.ref b1), .val (.int (N k5)), .val (.ref b16), .val (.int (N r))] [(.int (N 4)), (.int (N k5)), (.ref b16), (.ref b1)])) (argsL := [(.ref b1), (.ref b16), (.int (N k5)), (.int (N 4))]) (rest := []) e57 (rm_chk l Z a0 hw b1 b16 k5 4 gn pn T40.heap f42 A40 hrgn hpr hk5 (by decide)) rfl (by rw [hml]; rfl) (lenOf pd_4 rfl) rfl (W := 0) (by show 2 * 0 + _ ≤ _; exact Nat.le_of_eq rfl) (hb hby at_246) (by decide) (by decide) (by decide) (by decide) ?_
      rintro _ T59 _ X59 ⟨rfl, e59, rfl⟩
      rw [List.append_nil] at X59
      refine OGo.nm (fun (y60 : Int32) => T59.setTop (mkF m 249 #[.val (.int x0), .val (.int x1), .val (.ref b1), .val (.int (N k5)), .val (.ref b16), .val (.int (N r))] [(.int y60)])) (x := (F_chk gn pn k5 4)) (fun y60 hy60 => ?_)
      refine OGo.go (U' := T59.setTop (mkF m 252 #[.val (.int x0), .val (.int x1), .val (.ref b1), .val (.int (N k5)), .val (.ref b16), .val (.int (N r))] [])) (fun _ k => XS.ifNo X59.here hx rfl (hb hby at_249) rfl ((if0 _ _).trans (feq (own_dec_law_7 hgn hy14 hc15 hhn hr5 hall hy45 hy49 hc50 hy52 hy54 hy56 hy58 hy60)).1) k) ?_
      refine OGo.go (U' := T59.setTop (mkF m 253 #[.val (.int x0), .val (.int x1), .val (.ref b1), .val (.int (N k5)), .val (.ref b16), .val (.int (N r))] [(.int (N 1))])) (fun _ k => XS.iconst X59.here hx rfl (hb hby at_252) k) ?_
      refine OGo.go (U' := T59.setTop (mkF m 257 #[.val (.int x0), .val (.int x1), .val (.ref b1), .val (.int (N k5)), .val (.ref b16), .val (.int (N r))] [(.int (N 1))])) (fun _ k => XS.goto X59.here hx rfl (pc0 := 253) (pc' := 257) rfl (hb hby at_253) (by decide) (by decide) k) ?_
      refine OGo.retN X59 hx (t := .boolean) hret hlk (by simp) (hb hby at_257) ?_ (by decide) (by decide)
      exact ⟨own_ret_1 hgn hy14 hc15 hhn hr5 hall hy45 hy49 hc50 hy52 hy54 hy56 hy58 hy60, N41⟩
    · skip
      refine OGo.go (U' := T48.setTop (mkF m 181 #[.val (.int x0), .val (.int x1), .val (.ref b1), .val (.int (N k5)), .val (.ref b16), .val (.int (N r))] [])) (fun _ k => XS.icmpNo X48.here hx rfl (hb hby at_178) rfl (flt hc50).1 k) ?_
      refine OGo.go (U' := T48.setTop (mkF m 183 #[.val (.int x0), .val (.int x1), .val (.ref b1), .val (.int (N k5)), .val (.ref b16), .val (.int (N r))] [(.ref b16)])) (fun _ k => XS.aload X48.here hx rfl (hb hby at_181) rfl rfl k) ?_
      refine OGo.go (U' := T48.setTop (mkF m 184 #[.val (.int x0), .val (.int x1), .val (.ref b1), .val (.int (N k5)), .val (.ref b16), .val (.int (N r))] [(.int (N k5)), (.ref b16)])) (fun _ k => XS.iloadN X48.here hx rfl (hb hby at_183) rfl k) ?_
      refine OGo.callS X48 hx hZ (y := (⟨"com/example/sieveplan/sieveplan/plan/JoinOrderNamedPinLaw", "depth", "([II)I"⟩ : MethodName)) hown (hw _ (List.mem_of_getElem? (i := 19) rfl)) (hw _ (List.mem_of_getElem? (i := 20) rfl)) (hw _ (List.mem_of_getElem? (i := 4) rfl)) (hw _ (List.mem_of_getElem? (i := 21) rfl)) (by decide) (g := (mkF m 184 #[.val (.int x0), .val (.int x1), .val (.ref b1), .val (.int (N k5)), .val (.ref b16), .val (.int (N r))] [(.int (N k5)), (.ref b16)])) (argsL := [(.ref b16), (.int (N k5))]) (rest := []) e48 (rm_depth l Z a0 hw b16 k5 pn T40.heap A40 hpr hk5) rfl (by rw [hml]; rfl) (lenOf pd_0 rfl) rfl (W := 0) (by show 2 * 0 + _ ≤ _; exact Nat.le_of_eq rfl) (hb hby at_184) (by decide) (by decide) (by decide) (by decide) ?_
      rintro _ T61 _ X61 ⟨rfl, e61, rfl⟩
      rw [List.append_nil] at X61
      refine OGo.nm (fun (y62 : Int32) => T61.setTop (mkF m 187 #[.val (.int x0), .val (.int x1), .val (.ref b1), .val (.int (N k5)), .val (.ref b16), .val (.int (N r))] [(.int y62)])) (x := (F_depth pn k5)) (fun y62 hy62 => ?_)
      refine OGo.go (U' := T61.setTop (mkF m 188 #[.val (.int x0), .val (.int x1), .val (.ref b1), .val (.int (N k5)), .val (.ref b16), .val (.int (N r))] [(.ref b1), (.int y62)])) (fun _ k => XS.aloadN X61.here hx rfl (hb hby at_187) rfl rfl k) ?_
      refine OGo.go (U' := T61.setTop (mkF m 189 #[.val (.int x0), .val (.int x1), .val (.ref b1), .val (.int (N k5)), .val (.ref b16), .val (.int (N r))] [(.int (N k5)), (.ref b1), (.int y62)])) (fun _ k => XS.iloadN X61.here hx rfl (hb hby at_188) rfl k) ?_
      refine OGo.callS X61 hx hZ (y := (⟨"com/example/sieveplan/sieveplan/plan/JoinOrderNamedPinLaw", "depth", "([II)I"⟩ : MethodName)) hown (hw _ (List.mem_of_getElem? (i := 19) rfl)) (hw _ (List.mem_of_getElem? (i := 20) rfl)) (hw _ (List.mem_of_getElem? (i := 4) rfl)) (hw _ (List.mem_of_getElem? (i := 21) rfl)) (by decide) (g := (mkF m 189 #[.val (.int x0), .val (.int x1), .val (.ref b1), .val (.int (N k5)), .val (.ref b16), .val (.int (N r))] [(.int (N k5)), (.ref b1), (.int y62)])) (argsL := [(.ref b1), (.int (N k5))]) (rest := [(.int y62)]) e61 (rm_depth l Z a0 hw b1 k5 gn T40.heap f42 hrgn hk5) rfl (by rw [hml]; rfl) (lenOf pd_0 rfl) rfl (W := 1) (by show 2 * 0 + _ ≤ _; exact Nat.le_of_eq rfl) (hb hby at_189) (by decide) (by decide) (by decide) (by decide) ?_
      rintro _ T63 _ X63 ⟨rfl, e63, rfl⟩
      rw [List.append_nil] at X63
      refine OGo.nm (fun (y64 : Int32) => T63.setTop (mkF m 192 #[.val (.int x0), .val (.int x1), .val (.ref b1), .val (.int (N k5)), .val (.ref b16), .val (.int (N r))] [(.int y64), (.int y62)])) (x := (F_depth gn k5)) (fun y64 hy64 => ?_)
      refine OGo.go (U' := T63.setTop (mkF m 197 #[.val (.int x0), .val (.int x1), .val (.ref b1), .val (.int (N k5)), .val (.ref b16), .val (.int (N r))] [])) (fun _ k => XS.icmpYes X63.here hx rfl (pc0 := 192) (pc' := 197) rfl (hb hby at_192) rfl (tlt (own_dec_law_8 hgn hy14 hc15 hhn hr5 hall hy45 hy49 hc50 hy62 hy64)).1 (by decide) (by decide) k) ?_
      refine OGo.go (U' := T63.setTop (mkF m 198 #[.val (.int x0), .val (.int x1), .val (.ref b1), .val (.int (N k5)), .val (.ref b16), .val (.int (N r))] [(.ref b1)])) (fun _ k => XS.aloadN X63.here hx rfl (hb hby at_197) rfl rfl k) ?_
      refine OGo.go (U' := T63.setTop (mkF m 200 #[.val (.int x0), .val (.int x1), .val (.ref b1), .val (.int (N k5)), .val (.ref b16), .val (.int (N r))] [(.ref b16), (.ref b1)])) (fun _ k => XS.aload X63.here hx rfl (hb hby at_198) rfl rfl k) ?_
      refine OGo.go (U' := T63.setTop (mkF m 201 #[.val (.int x0), .val (.int x1), .val (.ref b1), .val (.int (N k5)), .val (.ref b16), .val (.int (N r))] [(.int (N k5)), (.ref b16), (.ref b1)])) (fun _ k => XS.iloadN X63.here hx rfl (hb hby at_200) rfl k) ?_
      refine OGo.go (U' := T63.setTop (mkF m 202 #[.val (.int x0), .val (.int x1), .val (.ref b1), .val (.int (N k5)), .val (.ref b16), .val (.int (N r))] [(.int (N 0)), (.int (N k5)), (.ref b16), (.ref b1)])) (fun _ k => XS.iconst X63.here hx rfl (hb hby at_201) k) ?_
      refine OGo.callS X63 hx hZ (y := (⟨"com/example/sieveplan/sieveplan/plan/JoinOrderNamedPinLaw", "check", "([I[III)Z"⟩ : MethodName)) hown (hw _ (List.mem_of_getElem? (i := 22) rfl)) (hw _ (List.mem_of_getElem? (i := 23) rfl)) (hw _ (List.mem_of_getElem? (i := 4) rfl)) (hw _ (List.mem_of_getElem? (i := 24) rfl)) (by decide) (g := (mkF m 202 #[.val (.int x0), .val (.int x1), .val (.ref b1), .val (.int (N k5)), .val (.ref b16), .val (.int (N r))] [(.int (N 0)), (.int (N k5)), (.ref b16), (.ref b1)])) (argsL := [(.ref b1), (.ref b16), (.int (N k5)), (.int (N 0))]) (rest := []) e63 (rm_chk l Z a0 hw b1 b16 k5 0 gn pn T40.heap f42 A40 hrgn hpr hk5 (by decide)) rfl (by rw [hml]; rfl) (lenOf pd_4 rfl) rfl (W := 0) (by show 2 * 0 + _ ≤ _; exact Nat.le_of_eq rfl) (hb hby at_202) (by decide) (by decide) (by decide) (by decide) ?_
      rintro _ T65 _ X65 ⟨rfl, e65, rfl⟩
      rw [List.append_nil] at X65
      refine OGo.nm (fun (y66 : Int32) => T65.setTop (mkF m 205 #[.val (.int x0), .val (.int x1), .val (.ref b1), .val (.int (N k5)), .val (.ref b16), .val (.int (N r))] [(.int y66)])) (x := (F_chk gn pn k5 0)) (fun y66 hy66 => ?_)
      refine OGo.go (U' := T65.setTop (mkF m 208 #[.val (.int x0), .val (.int x1), .val (.ref b1), .val (.int (N k5)), .val (.ref b16), .val (.int (N r))] [])) (fun _ k => XS.ifNo X65.here hx rfl (hb hby at_205) rfl ((if0 _ _).trans (feq (own_dec_law_9 hgn hy14 hc15 hhn hr5 hall hy45 hy49 hc50 hy62 hy64 hy66)).1) k) ?_
      refine OGo.go (U' := T65.setTop (mkF m 209 #[.val (.int x0), .val (.int x1), .val (.ref b1), .val (.int (N k5)), .val (.ref b16), .val (.int (N r))] [(.ref b1)])) (fun _ k => XS.aloadN X65.here hx rfl (hb hby at_208) rfl rfl k) ?_
      refine OGo.go (U' := T65.setTop (mkF m 211 #[.val (.int x0), .val (.int x1), .val (.ref b1), .val (.int (N k5)), .val (.ref b16), .val (.int (N r))] [(.ref b16), (.ref b1)])) (fun _ k => XS.aload X65.here hx rfl (hb hby at_209) rfl rfl k) ?_
      refine OGo.go (U' := T65.setTop (mkF m 212 #[.val (.int x0), .val (.int x1), .val (.ref b1), .val (.int (N k5)), .val (.ref b16), .val (.int (N r))] [(.int (N k5)), (.ref b16), (.ref b1)])) (fun _ k => XS.iloadN X65.here hx rfl (hb hby at_211) rfl k) ?_
      refine OGo.go (U' := T65.setTop (mkF m 213 #[.val (.int x0), .val (.int x1), .val (.ref b1), .val (.int (N k5)), .val (.ref b16), .val (.int (N r))] [(.int (N 1)), (.int (N k5)), (.ref b16), (.ref b1)])) (fun _ k => XS.iconst X65.here hx rfl (hb hby at_212) k) ?_
      refine OGo.callS X65 hx hZ (y := (⟨"com/example/sieveplan/sieveplan/plan/JoinOrderNamedPinLaw", "check", "([I[III)Z"⟩ : MethodName)) hown (hw _ (List.mem_of_getElem? (i := 22) rfl)) (hw _ (List.mem_of_getElem? (i := 23) rfl)) (hw _ (List.mem_of_getElem? (i := 4) rfl)) (hw _ (List.mem_of_getElem? (i := 24) rfl)) (by decide) (g := (mkF m 213 #[.val (.int x0), .val (.int x1), .val (.ref b1), .val (.int (N k5)), .val (.ref b16), .val (.int (N r))] [(.int (N 1)), (.int (N k5)), (.ref b16), (.ref b1)])) (argsL := [(.ref b1), (.ref b16), (.int (N k5)), (.int (N 1))]) (rest := []) e65 (rm_chk l Z a0 hw b1 b16 k5 1 gn pn T40.heap f42 A40 hrgn hpr hk5 (by decide)) rfl (by rw [hml]; rfl) (lenOf pd_4 rfl) rfl (W := 0) (by show 2 * 0 + _ ≤ _; exact Nat.le_of_eq rfl) (hb hby at_213) (by decide) (by decide) (by decide) (by decide) ?_
      rintro _ T67 _ X67 ⟨rfl, e67, rfl⟩
      rw [List.append_nil] at X67
      refine OGo.nm (fun (y68 : Int32) => T67.setTop (mkF m 216 #[.val (.int x0), .val (.int x1), .val (.ref b1), .val (.int (N k5)), .val (.ref b16), .val (.int (N r))] [(.int y68)])) (x := (F_chk gn pn k5 1)) (fun y68 hy68 => ?_)
      refine OGo.go (U' := T67.setTop (mkF m 219 #[.val (.int x0), .val (.int x1), .val (.ref b1), .val (.int (N k5)), .val (.ref b16), .val (.int (N r))] [])) (fun _ k => XS.ifNo X67.here hx rfl (hb hby at_216) rfl ((if0 _ _).trans (feq (own_dec_law_10 hgn hy14 hc15 hhn hr5 hall hy45 hy49 hc50 hy62 hy64 hy66 hy68)).1) k) ?_
      refine OGo.go (U' := T67.setTop (mkF m 220 #[.val (.int x0), .val (.int x1), .val (.ref b1), .val (.int (N k5)), .val (.ref b16), .val (.int (N r))] [(.ref b1)])) (fun _ k => XS.aloadN X67.here hx rfl (hb hby at_219) rfl rfl k) ?_
      refine OGo.go (U' := T67.setTop (mkF m 222 #[.val (.int x0), .val (.int x1), .val (.ref b1), .val (.int (N k5)), .val (.ref b16), .val (.int (N r))] [(.ref b16), (.ref b1)])) (fun _ k => XS.aload X67.here hx rfl (hb hby at_220) rfl rfl k) ?_
      refine OGo.go (U' := T67.setTop (mkF m 223 #[.val (.int x0), .val (.int x1), .val (.ref b1), .val (.int (N k5)), .val (.ref b16), .val (.int (N r))] [(.int (N k5)), (.ref b16), (.ref b1)])) (fun _ k => XS.iloadN X67.here hx rfl (hb hby at_222) rfl k) ?_
      refine OGo.go (U' := T67.setTop (mkF m 224 #[.val (.int x0), .val (.int x1), .val (.ref b1), .val (.int (N k5)), .val (.ref b16), .val (.int (N r))] [(.int (N 2)), (.int (N k5)), (.ref b16), (.ref b1)])) (fun _ k => XS.iconst X67.here hx rfl (hb hby at_223) k) ?_
      refine OGo.callS X67 hx hZ (y := (⟨"com/example/sieveplan/sieveplan/plan/JoinOrderNamedPinLaw", "check", "([I[III)Z"⟩ : MethodName)) hown (hw _ (List.mem_of_getElem? (i := 22) rfl)) (hw _ (List.mem_of_getElem? (i := 23) rfl)) (hw _ (List.mem_of_getElem? (i := 4) rfl)) (hw _ (List.mem_of_getElem? (i := 24) rfl)) (by decide) (g := (mkF m 224 #[.val (.int x0), .val (.int x1), .val (.ref b1), .val (.int (N k5)), .val (.ref b16), .val (.int (N r))] [(.int (N 2)), (.int (N k5)), (.ref b16), (.ref b1)])) (argsL := [(.ref b1), (.ref b16), (.int (N k5)), (.int (N 2))]) (rest := []) e67 (rm_chk l Z a0 hw b1 b16 k5 2 gn pn T40.heap f42 A40 hrgn hpr hk5 (by decide)) rfl (by rw [hml]; rfl) (lenOf pd_4 rfl) rfl (W := 0) (by show 2 * 0 + _ ≤ _; exact Nat.le_of_eq rfl) (hb hby at_224) (by decide) (by decide) (by decide) (by decide) ?_
      rintro _ T69 _ X69 ⟨rfl, e69, rfl⟩
      rw [List.append_nil] at X69
      refine OGo.nm (fun (y70 : Int32) => T69.setTop (mkF m 227 #[.val (.int x0), .val (.int x1), .val (.ref b1), .val (.int (N k5)), .val (.ref b16), .val (.int (N r))] [(.int y70)])) (x := (F_chk gn pn k5 2)) (fun y70 hy70 => ?_)
      refine OGo.go (U' := T69.setTop (mkF m 230 #[.val (.int x0), .val (.int x1), .val (.ref b1), .val (.int (N k5)), .val (.ref b16), .val (.int (N r))] [])) (fun _ k => XS.ifNo X69.here hx rfl (hb hby at_227) rfl ((if0 _ _).trans (feq (own_dec_law_11 hgn hy14 hc15 hhn hr5 hall hy45 hy49 hc50 hy62 hy64 hy66 hy68 hy70)).1) k) ?_
      refine OGo.go (U' := T69.setTop (mkF m 231 #[.val (.int x0), .val (.int x1), .val (.ref b1), .val (.int (N k5)), .val (.ref b16), .val (.int (N r))] [(.ref b1)])) (fun _ k => XS.aloadN X69.here hx rfl (hb hby at_230) rfl rfl k) ?_
      refine OGo.go (U' := T69.setTop (mkF m 233 #[.val (.int x0), .val (.int x1), .val (.ref b1), .val (.int (N k5)), .val (.ref b16), .val (.int (N r))] [(.ref b16), (.ref b1)])) (fun _ k => XS.aload X69.here hx rfl (hb hby at_231) rfl rfl k) ?_
      refine OGo.go (U' := T69.setTop (mkF m 234 #[.val (.int x0), .val (.int x1), .val (.ref b1), .val (.int (N k5)), .val (.ref b16), .val (.int (N r))] [(.int (N k5)), (.ref b16), (.ref b1)])) (fun _ k => XS.iloadN X69.here hx rfl (hb hby at_233) rfl k) ?_
      refine OGo.go (U' := T69.setTop (mkF m 235 #[.val (.int x0), .val (.int x1), .val (.ref b1), .val (.int (N k5)), .val (.ref b16), .val (.int (N r))] [(.int (N 3)), (.int (N k5)), (.ref b16), (.ref b1)])) (fun _ k => XS.iconst X69.here hx rfl (hb hby at_234) k) ?_
      refine OGo.callS X69 hx hZ (y := (⟨"com/example/sieveplan/sieveplan/plan/JoinOrderNamedPinLaw", "check", "([I[III)Z"⟩ : MethodName)) hown (hw _ (List.mem_of_getElem? (i := 22) rfl)) (hw _ (List.mem_of_getElem? (i := 23) rfl)) (hw _ (List.mem_of_getElem? (i := 4) rfl)) (hw _ (List.mem_of_getElem? (i := 24) rfl)) (by decide) (g := (mkF m 235 #[.val (.int x0), .val (.int x1), .val (.ref b1), .val (.int (N k5)), .val (.ref b16), .val (.int (N r))] [(.int (N 3)), (.int (N k5)), (.ref b16), (.ref b1)])) (argsL := [(.ref b1), (.ref b16), (.int (N k5)), (.int (N 3))]) (rest := []) e69 (rm_chk l Z a0 hw b1 b16 k5 3 gn pn T40.heap f42 A40 hrgn hpr hk5 (by decide)) rfl (by rw [hml]; rfl) (lenOf pd_4 rfl) rfl (W := 0) (by show 2 * 0 + _ ≤ _; exact Nat.le_of_eq rfl) (hb hby at_235) (by decide) (by decide) (by decide) (by decide) ?_
      rintro _ T71 _ X71 ⟨rfl, e71, rfl⟩
      rw [List.append_nil] at X71
      refine OGo.nm (fun (y72 : Int32) => T71.setTop (mkF m 238 #[.val (.int x0), .val (.int x1), .val (.ref b1), .val (.int (N k5)), .val (.ref b16), .val (.int (N r))] [(.int y72)])) (x := (F_chk gn pn k5 3)) (fun y72 hy72 => ?_)
      refine OGo.go (U' := T71.setTop (mkF m 241 #[.val (.int x0), .val (.int x1), .val (.ref b1), .val (.int (N k5)), .val (.ref b16), .val (.int (N r))] [])) (fun _ k => XS.ifNo X71.here hx rfl (hb hby at_238) rfl ((if0 _ _).trans (feq (own_dec_law_12 hgn hy14 hc15 hhn hr5 hall hy45 hy49 hc50 hy62 hy64 hy66 hy68 hy70 hy72)).1) k) ?_
      refine OGo.go (U' := T71.setTop (mkF m 242 #[.val (.int x0), .val (.int x1), .val (.ref b1), .val (.int (N k5)), .val (.ref b16), .val (.int (N r))] [(.ref b1)])) (fun _ k => XS.aloadN X71.here hx rfl (hb hby at_241) rfl rfl k) ?_
      refine OGo.go (U' := T71.setTop (mkF m 244 #[.val (.int x0), .val (.int x1), .val (.ref b1), .val (.int (N k5)), .val (.ref b16), .val (.int (N r))] [(.ref b16), (.ref b1)])) (fun _ k => XS.aload X71.here hx rfl (hb hby at_242) rfl rfl k) ?_
      refine OGo.go (U' := T71.setTop (mkF m 245 #[.val (.int x0), .val (.int x1), .val (.ref b1), .val (.int (N k5)), .val (.ref b16), .val (.int (N r))] [(.int (N k5)), (.ref b16), (.ref b1)])) (fun _ k => XS.iloadN X71.here hx rfl (hb hby at_244) rfl k) ?_
      refine OGo.go (U' := T71.setTop (mkF m 246 #[.val (.int x0), .val (.int x1), .val (.ref b1), .val (.int (N k5)), .val (.ref b16), .val (.int (N r))] [(.int (N 4)), (.int (N k5)), (.ref b16), (.ref b1)])) (fun _ k => XS.iconst X71.here hx rfl (hb hby at_245) k) ?_
      refine OGo.callS X71 hx hZ (y := (⟨"com/example/sieveplan/sieveplan/plan/JoinOrderNamedPinLaw", "check", "([I[III)Z"⟩ : MethodName)) hown (hw _ (List.mem_of_getElem? (i := 22) rfl)) (hw _ (List.mem_of_getElem? (i := 23) rfl)) (hw _ (List.mem_of_getElem? (i := 4) rfl)) (hw _ (List.mem_of_getElem? (i := 24) rfl)) (by decide) (g := (mkF m 246 #[.val (.int x0), .val (.int x1), .val (.ref b1), .val (.int (N k5)), .val (.ref b16), .val (.int (N r))] [(.int (N 4)), (.int (N k5)), (.ref b16), (.ref b1)])) (argsL := [(.ref b1), (.ref b16), (.int (N k5)), (.int (N 4))]) (rest := []) e71 (rm_chk l Z a0 hw b1 b16 k5 4 gn pn T40.heap f42 A40 hrgn hpr hk5 (by decide)) rfl (by rw [hml]; rfl) (lenOf pd_4 rfl) rfl (W := 0) (by show 2 * 0 + _ ≤ _; exact Nat.le_of_eq rfl) (hb hby at_246) (by decide) (by decide) (by decide) (by decide) ?_
      rintro _ T73 _ X73 ⟨rfl, e73, rfl⟩
      rw [List.append_nil] at X73
      refine OGo.nm (fun (y74 : Int32) => T73.setTop (mkF m 249 #[.val (.int x0), .val (.int x1), .val (.ref b1), .val (.int (N k5)), .val (.ref b16), .val (.int (N r))] [(.int y74)])) (x := (F_chk gn pn k5 4)) (fun y74 hy74 => ?_)
      refine OGo.go (U' := T73.setTop (mkF m 252 #[.val (.int x0), .val (.int x1), .val (.ref b1), .val (.int (N k5)), .val (.ref b16), .val (.int (N r))] [])) (fun _ k => XS.ifNo X73.here hx rfl (hb hby at_249) rfl ((if0 _ _).trans (feq (own_dec_law_13 hgn hy14 hc15 hhn hr5 hall hy45 hy49 hc50 hy62 hy64 hy66 hy68 hy70 hy72 hy74)).1) k) ?_
      refine OGo.go (U' := T73.setTop (mkF m 253 #[.val (.int x0), .val (.int x1), .val (.ref b1), .val (.int (N k5)), .val (.ref b16), .val (.int (N r))] [(.int (N 1))])) (fun _ k => XS.iconst X73.here hx rfl (hb hby at_252) k) ?_
      refine OGo.go (U' := T73.setTop (mkF m 257 #[.val (.int x0), .val (.int x1), .val (.ref b1), .val (.int (N k5)), .val (.ref b16), .val (.int (N r))] [(.int (N 1))])) (fun _ k => XS.goto X73.here hx rfl (pc0 := 253) (pc' := 257) rfl (hb hby at_253) (by decide) (by decide) k) ?_
      refine OGo.retN X73 hx (t := .boolean) hret hlk (by simp) (hb hby at_257) ?_ (by decide) (by decide)
      exact ⟨own_ret_2 hgn hy14 hc15 hhn hr5 hall hy45 hy49 hc50 hy62 hy64 hy66 hy68 hy70 hy72 hy74, N41⟩
set_option maxRecDepth 65536 in
set_option maxHeartbeats 40000000 in
theorem comes_1 {Post : Tables → Env → Array Value → State → Outcome → State → Prop} (hpost : ∀ tb e args s v u, (limb_1_1.after args s (.returned v) u = true ∧ limb_1_2.after args s (.returned v) u = true ∧ True) → FrameEnd s (.returned v) u (Jvm.fieldLocs frame_1_writes args s ++ Jvm.arrayLocs frame_1_arrays args s ++ Jvm.staticLocs frame_1_statics s) 16 128 → Post tb e args s (.returned v) u) :
    ArmFor flags0 classFile x code maxLocals ret World_1 tables_1 room_1 Calls_1 rest_1 Pre_1 Post := by
  intro l hfl _ _ p e ha hc hk s m args below hf hA hF happ hP
  obtain ⟨hcalls, hrest, hpre⟩ := hP
  obtain ⟨-, -, -, hnamed, -, -, -, hat⟩ := (Spec.applies_iff hf).mp happ
  obtain ⟨hg, hn⟩ := and_e (Cond.before_iff.mp (show (Jvm.Cond.and given_1 narrow_1).before args s = true from hpre))
  obtain ⟨g0, g1⟩ := and_e hg
  obtain ⟨w0, w1, rfl⟩ : ∃ w0 w1 : Value, args = #[w0, w1] := by
    have hs : args.size = 2 := by simpa [Cond.value, given_1] using g0
    obtain ⟨L⟩ := args
    match L, hs with
    | [w0, w1], _ => exact ⟨w0, w1, rfl⟩
  have hw := fun d (hd : d ∈ tables_1) => atoms_spec (ws := Jvm.Cond.code x code maxLocals ret :: tables_1) hat d (List.mem_cons_of_mem _ hd)
  have hfit : Fit s := fun {y c} hc i hi => by
    obtain ⟨ha, rfl⟩ := Array.getElem?_eq_some_iff.mp hc
    have q := List.all_eq_true.mp ((Array.all_eq_true_iff_forall_mem.mp hF) _ (Array.getElem_mem ha)) i (List.mem_range.mpr hi)
    simpa [Array.getElem?_eq_getElem hi] using q
  obtain ⟨v0, g2⟩ := and_e g1
  obtain ⟨i0, q0⟩ := is_v v0
  obtain rfl : w0 = (.int i0) := Option.some.inj q0
  obtain ⟨i1, q1⟩ := is_v g2
  obtain rfl : w1 = (.int i1) := Option.some.inj q1
  obtain ⟨n, o, h1, h2, h3, _, L, rfl, ⟨rfl, N⟩, hq⟩ := rm_law l s _ hw i0 i1 s.heap.size s.heap (Nat.le_refl _) p e ha hc hk s m _ below hf ((Spec.applies_iff_loose hf).mp happ).1 ⟨rfl, State.Warmed39.refl s, rfl⟩ trivial
  refine ⟨n, _, h1, h2, h3, hpost _ _ _ _ _ _ ⟨Cond.after_iff.mpr rfl, Cond.after_iff.mpr (eq_i res_at (Term.int_eval (1)) rfl), trivial⟩ ⟨hq.1, hq.2.1, (hq.2.2.sift fun y hy => Or.inr (N y hy)).mono (by decide) (by decide)⟩⟩
theorem main_1_1 : Claimed_1_1 := comes_1 fun _ _ _ _ _ _ h hF => ⟨h.1, hF⟩
theorem main_1_2 : Claimed_1_2 := comes_1 fun _ _ _ _ _ _ h hF => ⟨h.2.1, hF⟩
end Jvm.Pilot.@@N@@
namespace Jvm.Pilot.@@N@@
open Jvm Jvm.ClassFile Sem Op Lib Jvm.Free Jvm.Stand Jvm.Pilot.@@N@@.Jvm.D
/-! MADE BY PROGRAM (witnessworld.py) out of the Statement's table words and the real class files: 9 classes; the members and pool entries that the words name. The judged class is class 1, her method 8. -/
namespace start1
open Jvm.ClassFile
def u (s : String) : CpInfo := .utf8 (stringToUtf16 s)
/-- a pool by its gaps: so many unusable entries, then the entry; so many at the end -/
def gap : Nat → List CpInfo → List CpInfo
  | 0, r => r
  | n + 1, r => .unusable :: gap n r
def poolList (es : List (Nat × CpInfo)) (last : Nat) : List CpInfo := es.foldr (fun e r => gap e.1 (e.2 :: r)) (gap last [])
def pool (es : List (Nat × CpInfo)) (last : Nat) : Array CpInfo := ⟨poolList es last⟩
def fileOf (pool : Array CpInfo) (this : Nat) (attrs : Array Attribute := #[]) (ms : Array MethodInfo := #[]) (fl : Nat := 33) (sup : Nat := 0) (ifs : Array Nat := #[]) (fds : Array FieldInfo := #[]) : ClassFile where
  minorVersion := 0
  majorVersion := 65
  constantPool := pool
  accessFlags := fl
  thisClass := this
  superClass := sup
  interfaces := ifs
  fields := fds
  methods := ms
  attributes := attrs
def plain (name : String) (sup : Option ClassId) : Class where
  name := name
  kind := .ordinary
  loader := none
  accessFlags := 33
  super := sup
  interfaces := #[]
  cf := none
  fields := #[]
  methods := #[]
  instanceTypes := #[]
  staticTypes := #[]
  resolved := #[]
  callSites := []
  init := .initialized
  statics := none
  mirror := none

def pool0 : Array CpInfo := pool [(5, u "<init>"), (0, u "()V"), (1, .class_ 10), (1, u "java/lang/Object")] 113

def k0m0 : Method := { name := "<init>", desc := "()V", sig := { parameters := [], returnType := none }, accessFlags := 1, code := none }
/-- java/lang/Object -/
def k0 : Class := { plain "java/lang/Object" none with
  accessFlags := 33
  interfaces := #[]
  cf := some (fileOf pool0 8 #[] #[{ accessFlags := 1, nameIndex := 5, descriptorIndex := 6, attributes := #[] }] 33 0 #[] #[])
  fields := #[]
  methods := #[k0m0]
  instanceTypes := #[]
  staticTypes := #[]
  resolved := Array.replicate 124 none
  statics := none }

def pool1 : Array CpInfo := pool [(2, .class_ 4), (1, u "java/lang/Object"), (0, u "<init>"), (0, u "()V"), (0, .methodref 8 9), (0, .class_ 10), (0, .nameAndType 11 12), (0, u "com/example/sieveplan/sieveplan/plan/JoinOrderNamedPinLaw"), (0, u "root"), (0, u "([II)I"), (0, .methodref 8 14), (0, .nameAndType 15 16), (0, u "isRoot"), (0, u "([II)Z"), (0, .methodref 8 18), (0, .nameAndType 19 12), (0, u "depth"), (0, .methodref 8 21), (0, .nameAndType 22 23), (0, u "onPath"), (0, u "([III)Z"), (0, .integer 2147483647), (0, .methodref 8 26), (0, .nameAndType 27 28), (0, u "forest"), (0, u "([I)Z"), (0, .methodref 30 31), (0, .class_ 32), (0, .nameAndType 33 12), (0, u "com/example/sieveplan/sieveplan/plan/JoinOrder"), (0, u "named"), (0, .methodref 8 35), (0, .nameAndType 36 28), (0, u "inRange"), (0, .methodref 8 38), (0, .nameAndType 39 40), (0, u "check"), (0, u "([I[III)Z"), (5, u "law"), (0, u "(II)Z")] 2

def k1m0 : Method := { name := "<init>", desc := "()V", sig := { parameters := [], returnType := none }, accessFlags := 1, code := none }
def k1c1 : Code := { maxStack := 5, maxLocals := 2, code := method_2_code, exceptionTable := #[], attributes := #[] }
def k1m1 : Method := { name := "root", desc := "([II)I", sig := { parameters := [(.array .int), .int], returnType := some .int }, accessFlags := 10, code := some k1c1 }
def k1c2 : Code := { maxStack := 2, maxLocals := 3, code := method_3_code, exceptionTable := #[], attributes := #[] }
def k1m2 : Method := { name := "isRoot", desc := "([II)Z", sig := { parameters := [(.array .int), .int], returnType := some .boolean }, accessFlags := 10, code := some k1c2 }
def k1c3 : Code := { maxStack := 2, maxLocals := 1, code := method_4_code, exceptionTable := #[], attributes := #[] }
def k1m3 : Method := { name := "forest", desc := "([I)Z", sig := { parameters := [(.array .int)], returnType := some .boolean }, accessFlags := 10, code := some k1c3 }
def k1c4 : Code := { maxStack := 2, maxLocals := 1, code := method_5_code, exceptionTable := #[], attributes := #[] }
def k1m4 : Method := { name := "inRange", desc := "([I)Z", sig := { parameters := [(.array .int)], returnType := some .boolean }, accessFlags := 10, code := some k1c4 }
def k1c5 : Code := { maxStack := 2, maxLocals := 4, code := method_6_code, exceptionTable := #[], attributes := #[] }
def k1m5 : Method := { name := "depth", desc := "([II)I", sig := { parameters := [(.array .int), .int], returnType := some .int }, accessFlags := 10, code := some k1c5 }
def k1c6 : Code := { maxStack := 2, maxLocals := 8, code := method_7_code, exceptionTable := #[], attributes := #[] }
def k1m6 : Method := { name := "onPath", desc := "([III)Z", sig := { parameters := [(.array .int), .int, .int], returnType := some .boolean }, accessFlags := 10, code := some k1c6 }
def k1c7 : Code := { maxStack := 4, maxLocals := 4, code := method_8_code, exceptionTable := #[], attributes := #[] }
def k1m7 : Method := { name := "check", desc := "([I[III)Z", sig := { parameters := [(.array .int), (.array .int), .int, .int], returnType := some .boolean }, accessFlags := 10, code := some k1c7 }
def k1c8 : Code := { maxStack := 5, maxLocals := 6, code := code, exceptionTable := #[], attributes := #[] }
def k1m8 : Method := { name := "law", desc := "(II)Z", sig := { parameters := [.int, .int], returnType := some .boolean }, accessFlags := 9, code := some k1c8 }
/-- com/example/sieveplan/sieveplan/plan/JoinOrderNamedPinLaw -/
def k1 : Class := { plain "com/example/sieveplan/sieveplan/plan/JoinOrderNamedPinLaw" (some 0) with
  accessFlags := 49
  interfaces := #[]
  cf := some (fileOf pool1 8 #[] #[{ accessFlags := 1, nameIndex := 5, descriptorIndex := 6, attributes := #[] }, { accessFlags := 10, nameIndex := 11, descriptorIndex := 12, attributes := #[] }, { accessFlags := 10, nameIndex := 15, descriptorIndex := 16, attributes := #[] }, { accessFlags := 10, nameIndex := 27, descriptorIndex := 28, attributes := #[] }, { accessFlags := 10, nameIndex := 36, descriptorIndex := 28, attributes := #[] }, { accessFlags := 10, nameIndex := 19, descriptorIndex := 12, attributes := #[] }, { accessFlags := 10, nameIndex := 22, descriptorIndex := 23, attributes := #[] }, { accessFlags := 10, nameIndex := 39, descriptorIndex := 40, attributes := #[] }, { accessFlags := 9, nameIndex := 46, descriptorIndex := 47, attributes := #[] }] 49 2 #[] #[])
  fields := #[]
  methods := #[k1m0, k1m1, k1m2, k1m3, k1m4, k1m5, k1m6, k1m7, k1m8]
  instanceTypes := #[]
  staticTypes := #[]
  resolved := Array.replicate 50 none
  statics := none }

def pool2 : Array CpInfo := pool [(2, .class_ 4), (1, u "java/lang/Object"), (9, .class_ 16), (1, u "com/example/sieveplan/sieveplan/plan/JoinOrder"), (0, u "relations"), (0, u "Ljava/util/List;"), (2, u "joining"), (2, u "composites"), (124, u "named"), (0, u "([II)I"), (10, .class_ 162), (0, u "com/example/sieveplan/sieveplan/plan/JoinOrder$CompositeAt")] 73

def k2c0 : Code := { maxStack := 5, maxLocals := 3, code := prog_102_method_4_code, exceptionTable := #[], attributes := #[] }
def k2m0 : Method := { name := "named", desc := "([II)I", sig := { parameters := [(.array .int), .int], returnType := some .int }, accessFlags := 8, code := some k2c0 }
/-- com/example/sieveplan/sieveplan/plan/JoinOrder -/
def k2 : Class := { plain "com/example/sieveplan/sieveplan/plan/JoinOrder" (some 0) with
  accessFlags := 48
  interfaces := #[]
  cf := some (fileOf pool2 14 #[.nestMembers #[161]] #[{ accessFlags := 8, nameIndex := 149, descriptorIndex := 150, attributes := #[] }] 48 2 #[] #[{ accessFlags := 18, nameIndex := 17, descriptorIndex := 18, attributes := #[] }, { accessFlags := 18, nameIndex := 21, descriptorIndex := 18, attributes := #[] }, { accessFlags := 18, nameIndex := 24, descriptorIndex := 18, attributes := #[] }])
  fields := #[{ name := "relations", type := (.object "java/util/List"), accessFlags := 18, slot := 0, constantValue := 0 }, { name := "joining", type := (.object "java/util/List"), accessFlags := 18, slot := 1, constantValue := 0 }, { name := "composites", type := (.object "java/util/List"), accessFlags := 18, slot := 2, constantValue := 0 }]
  methods := #[k2m0]
  instanceTypes := #[(.object "java/util/List"), (.object "java/util/List"), (.object "java/util/List")]
  staticTypes := #[]
  resolved := Array.replicate 236 none
  statics := none }

def pool3 : Array CpInfo := pool [(1, u "java/lang/Cloneable"), (0, .class_ 1), (0, u "java/lang/Object"), (0, .class_ 3)] 3

/-- java/lang/Cloneable -/
def k3 : Class := { plain "java/lang/Cloneable" (some 0) with
  accessFlags := 1537
  interfaces := #[]
  cf := some (fileOf pool3 2 #[] #[] 1537 4 #[] #[])
  fields := #[]
  methods := #[]
  instanceTypes := #[]
  staticTypes := #[]
  resolved := Array.replicate 8 none
  statics := none }

def pool4 : Array CpInfo := pool [(1, u "java/io/Serializable"), (0, .class_ 1), (0, u "java/lang/Object"), (0, .class_ 3)] 3

/-- java/io/Serializable -/
def k4 : Class := { plain "java/io/Serializable" (some 0) with
  accessFlags := 1537
  interfaces := #[]
  cf := some (fileOf pool4 2 #[] #[] 1537 4 #[] #[])
  fields := #[]
  methods := #[]
  instanceTypes := #[]
  staticTypes := #[]
  resolved := Array.replicate 8 none
  statics := none }

/-- the primitive byte -/
def k5 : Class := { plain "byte" none with kind := .primitive 'B', accessFlags := 0x411 }
/-- [B -/
def k6 : Class := { plain "[B" (some 0) with kind := .array 5 .byte, interfaces := #[3, 4], accessFlags := 1041 }

/-- the primitive int -/
def k7 : Class := { plain "int" none with kind := .primitive 'I', accessFlags := 0x411 }
/-- [I -/
def k8 : Class := { plain "[I" (some 0) with kind := .array 7 .int, interfaces := #[3, 4], accessFlags := 1041 }

def heap : Heap := #[]
def classes : Array Class := #[k0, k1, k2, k3, k4, k5, k6, k7, k8]
def interned : List (Array UInt16 × Addr) := []
def slotsUsed : Nat := 0
def theMethod : MethodId := ⟨1, 8⟩
def args0 : Array Value := #[.int 5, .int 7]
def aboutOver (below : List Frame) : State where
  vm := { classes := classes, interned := interned.toArray }
  heap := heap
  slotsUsed := slotsUsed
  threads := #[{ frames := .invoking theMethod args0 :: below }]
def below0 : List Frame := [.native { method := ⟨0, 0⟩, args := #[] }]
def about1 : State := aboutOver below0
def p0 : Program := .bare "" "" ""
def e0 : Env := launch0.env 0 0 0
theorem w_frames : about1.frames = Frame.invoking theMethod args0 :: below0 := rfl
set_option maxRecDepth 65536 in
theorem w_args : argsFit about1.vm theMethod args0 = true := by decide +kernel
set_option maxRecDepth 65536 in
theorem w_heap : heapFits about1 = true := by decide +kernel
set_option maxRecDepth 65536 in
theorem w_runnable : about1.curStatus? = some .runnable := by decide +kernel
set_option maxRecDepth 65536 in
theorem w_alone : about1.alone = true := by decide +kernel
set_option maxRecDepth 65536 in
theorem w_named : about1.methodNamed? x = some theMethod := by decide +kernel
set_option maxRecDepth 65536 in
theorem w_hears : about1.hears theMethod below0 = true := by decide +kernel
set_option maxRecDepth 65536 in
theorem w_ripe : about1.ripe theMethod args0 below0 = true := by decide +kernel
theorem w_running : about1.status = .running := rfl
set_option maxRecDepth 65536 in
theorem w_room : about1.hasRoom e0.platform room_1 = true :=
  launch0.hasRoom_least _ room_1 (by decide +kernel) (by decide +kernel) (by decide +kernel) (by decide +kernel) (by decide +kernel) (by decide +kernel)
theorem allAtoms_all (ts : List Jvm.Cond) (a : Array Jvm.Value) (st : Jvm.State) : (allAtoms ts).before a st = ts.all (fun c => c.before a st) := by
  induction ts with
  | nil => rfl
  | cons c t ih =>
    show (Jvm.Cond.and c (allAtoms t)).before a st = _
    rw [Jvm.Cond.before_and, ih, List.all_cons]
def words1 : List Jvm.Cond := Jvm.Cond.code x code maxLocals ret :: tables_1
/-- a 'code' word, met by the world's own term for the bytes: nothing is compared byte by byte -/
theorem code_word {y : MethodName} {bytes : ByteArray} {mx : Nat} {rt : Option FieldType} {a : Array Value} {s : State} {m : MethodId} {meth : Method} {c : Code} (h1 : s.methodNamed? y = some m) (h2 : s.vm.method? m = some meth) (h3 : meth.code = some c) (h4 : c.code = bytes)
    (h5 : (c.maxLocals == mx && c.exceptionTable.isEmpty && decide (c.maxStack ≤ mostOperands) && decide (meth.sig.returnType = rt) && !meth.locks && decide (parseMethodDescriptor y.desc = some meth.sig)) = true) : (Jvm.Cond.code y bytes mx rt).before a s = true := by
  simp only [Bool.and_eq_true, beq_iff_eq, Bool.not_eq_true', decide_eq_true_eq] at h5
  obtain ⟨⟨⟨⟨⟨g1, g2⟩, g3⟩, g4⟩, g5⟩, g6⟩ := h5
  simp [Cond.before, Cond.holds, Cond.value, h1, h2, h3, h4, g1, g2, g3, g4, g5, g6]
def isCode : Jvm.Cond → Bool
  | .code _ _ _ _ => true
  | _ => false
theorem all_split {L : List Jvm.Cond} {P : Jvm.Cond → Bool} (h1 : L.all (fun c => isCode c || P c) = true) (h2 : ∀ c ∈ L.filter isCode, P c = true) : L.all P = true := by
  refine List.all_eq_true.mpr fun c hc => ?_
  have h := List.all_eq_true.mp h1 c hc
  rcases Bool.eq_false_or_eq_true (isCode c) with hi | hi
  · exact h2 c (List.mem_filter.mpr ⟨hc, hi⟩)
  · simpa [hi] using h
set_option maxRecDepth 65536 in
theorem w_c0 : (Jvm.Cond.code x code maxLocals ret).before args0 about1 = true := code_word (m := ⟨1, 8⟩) (meth := k1m8) (c := k1c8) (by decide +kernel) rfl rfl rfl (by decide +kernel)
set_option maxRecDepth 65536 in
theorem w_c1 : (Jvm.Cond.code ({ cls := "com/example/sieveplan/sieveplan/plan/JoinOrderNamedPinLaw", name := "forest", desc := "([I)Z" } : Jvm.MethodName) method_4_code (1 : Nat) (Option.some Jvm.ClassFile.FieldType.boolean)).before args0 about1 = true := code_word (m := ⟨1, 3⟩) (meth := k1m3) (c := k1c3) (by decide +kernel) rfl rfl rfl (by decide +kernel)
set_option maxRecDepth 65536 in
theorem w_c2 : (Jvm.Cond.code ({ cls := "com/example/sieveplan/sieveplan/plan/JoinOrderNamedPinLaw", name := "isRoot", desc := "([II)Z" } : Jvm.MethodName) method_3_code (3 : Nat) (Option.some Jvm.ClassFile.FieldType.boolean)).before args0 about1 = true := code_word (m := ⟨1, 2⟩) (meth := k1m2) (c := k1c2) (by decide +kernel) rfl rfl rfl (by decide +kernel)
set_option maxRecDepth 65536 in
theorem w_c3 : (Jvm.Cond.code ({ cls := "com/example/sieveplan/sieveplan/plan/JoinOrderNamedPinLaw", name := "root", desc := "([II)I" } : Jvm.MethodName) method_2_code (2 : Nat) (Option.some Jvm.ClassFile.FieldType.int)).before args0 about1 = true := code_word (m := ⟨1, 1⟩) (meth := k1m1) (c := k1c1) (by decide +kernel) rfl rfl rfl (by decide +kernel)
set_option maxRecDepth 65536 in
theorem w_c4 : (Jvm.Cond.code ({ cls := "com/example/sieveplan/sieveplan/plan/JoinOrder", name := "named", desc := "([II)I" } : Jvm.MethodName) prog_102_method_4_code (3 : Nat) (Option.some Jvm.ClassFile.FieldType.int)).before args0 about1 = true := code_word (m := ⟨2, 0⟩) (meth := k2m0) (c := k2c0) (by decide +kernel) rfl rfl rfl (by decide +kernel)
set_option maxRecDepth 65536 in
theorem w_c5 : (Jvm.Cond.code ({ cls := "com/example/sieveplan/sieveplan/plan/JoinOrderNamedPinLaw", name := "inRange", desc := "([I)Z" } : Jvm.MethodName) method_5_code (1 : Nat) (Option.some Jvm.ClassFile.FieldType.boolean)).before args0 about1 = true := code_word (m := ⟨1, 4⟩) (meth := k1m4) (c := k1c4) (by decide +kernel) rfl rfl rfl (by decide +kernel)
set_option maxRecDepth 65536 in
theorem w_c6 : (Jvm.Cond.code ({ cls := "com/example/sieveplan/sieveplan/plan/JoinOrderNamedPinLaw", name := "depth", desc := "([II)I" } : Jvm.MethodName) method_6_code (4 : Nat) (Option.some Jvm.ClassFile.FieldType.int)).before args0 about1 = true := code_word (m := ⟨1, 5⟩) (meth := k1m5) (c := k1c5) (by decide +kernel) rfl rfl rfl (by decide +kernel)
set_option maxRecDepth 65536 in
theorem w_c7 : (Jvm.Cond.code ({ cls := "com/example/sieveplan/sieveplan/plan/JoinOrderNamedPinLaw", name := "check", desc := "([I[III)Z" } : Jvm.MethodName) method_8_code (4 : Nat) (Option.some Jvm.ClassFile.FieldType.boolean)).before args0 about1 = true := code_word (m := ⟨1, 7⟩) (meth := k1m7) (c := k1c7) (by decide +kernel) rfl rfl rfl (by decide +kernel)
set_option maxRecDepth 65536 in
theorem w_c8 : (Jvm.Cond.code ({ cls := "com/example/sieveplan/sieveplan/plan/JoinOrderNamedPinLaw", name := "onPath", desc := "([III)Z" } : Jvm.MethodName) method_7_code (8 : Nat) (Option.some Jvm.ClassFile.FieldType.boolean)).before args0 about1 = true := code_word (m := ⟨1, 6⟩) (meth := k1m6) (c := k1c6) (by decide +kernel) rfl rfl rfl (by decide +kernel)
def codes1 : List Jvm.Cond := [Jvm.Cond.code x code maxLocals ret, Jvm.Cond.code ({ cls := "com/example/sieveplan/sieveplan/plan/JoinOrderNamedPinLaw", name := "forest", desc := "([I)Z" } : Jvm.MethodName) method_4_code (1 : Nat) (Option.some Jvm.ClassFile.FieldType.boolean), Jvm.Cond.code ({ cls := "com/example/sieveplan/sieveplan/plan/JoinOrderNamedPinLaw", name := "isRoot", desc := "([II)Z" } : Jvm.MethodName) method_3_code (3 : Nat) (Option.some Jvm.ClassFile.FieldType.boolean), Jvm.Cond.code ({ cls := "com/example/sieveplan/sieveplan/plan/JoinOrderNamedPinLaw", name := "root", desc := "([II)I" } : Jvm.MethodName) method_2_code (2 : Nat) (Option.some Jvm.ClassFile.FieldType.int), Jvm.Cond.code ({ cls := "com/example/sieveplan/sieveplan/plan/JoinOrder", name := "named", desc := "([II)I" } : Jvm.MethodName) prog_102_method_4_code (3 : Nat) (Option.some Jvm.ClassFile.FieldType.int), Jvm.Cond.code ({ cls := "com/example/sieveplan/sieveplan/plan/JoinOrderNamedPinLaw", name := "inRange", desc := "([I)Z" } : Jvm.MethodName) method_5_code (1 : Nat) (Option.some Jvm.ClassFile.FieldType.boolean), Jvm.Cond.code ({ cls := "com/example/sieveplan/sieveplan/plan/JoinOrderNamedPinLaw", name := "depth", desc := "([II)I" } : Jvm.MethodName) method_6_code (4 : Nat) (Option.some Jvm.ClassFile.FieldType.int), Jvm.Cond.code ({ cls := "com/example/sieveplan/sieveplan/plan/JoinOrderNamedPinLaw", name := "check", desc := "([I[III)Z" } : Jvm.MethodName) method_8_code (4 : Nat) (Option.some Jvm.ClassFile.FieldType.boolean), Jvm.Cond.code ({ cls := "com/example/sieveplan/sieveplan/plan/JoinOrderNamedPinLaw", name := "onPath", desc := "([III)Z" } : Jvm.MethodName) method_7_code (8 : Nat) (Option.some Jvm.ClassFile.FieldType.boolean)]
set_option maxRecDepth 65536 in
theorem codes_eq : words1.filter isCode = codes1 := rfl
theorem w_codes : ∀ c ∈ words1.filter isCode, c.before args0 about1 = true := by
  rw [codes_eq]
  intro c hc
  simp only [codes1, List.mem_cons, List.not_mem_nil, or_false] at hc
  rcases hc with rfl | rfl | rfl | rfl | rfl | rfl | rfl | rfl | rfl
  · exact w_c0
  · exact w_c1
  · exact w_c2
  · exact w_c3
  · exact w_c4
  · exact w_c5
  · exact w_c6
  · exact w_c7
  · exact w_c8
set_option maxRecDepth 65536 in
theorem w_t1 : (words1.take 24).all (fun c => isCode c || c.before args0 about1) = true := by decide +kernel
set_option maxRecDepth 65536 in
theorem w_t2 : (words1.drop 24).all (fun c => isCode c || c.before args0 about1) = true := by decide +kernel
theorem w_tables : (allAtoms (Jvm.Cond.code x code maxLocals ret :: tables_1)).before args0 about1 = true := by
  rw [allAtoms_all]
  show words1.all (fun c => c.before args0 about1) = true
  refine all_split ?_ w_codes
  rw [← List.take_append_drop 24 words1, List.all_append, w_t1, w_t2]
  rfl
set_option maxRecDepth 65536 in
theorem w_case : (Jvm.Cond.and given_1 narrow_1).before args0 about1 = true := by decide +kernel
theorem w_applies : (headSpec (Jvm.Cond.code x code maxLocals ret :: tables_1) room_1).applies x e0.platform about1 = true :=
  (Spec.applies_iff w_frames).mpr ⟨w_running, w_runnable, w_alone, w_named, w_hears, w_ripe, w_room, w_tables⟩
theorem atStart : AtStart classFile x code maxLocals ret World_1 tables_1 room_1 Calls_1 rest_1 Pre_1 launch0 p0 e0 about1 theMethod args0 below0 :=
  ⟨lists_1, trivial, launch0.admits_env _ _ _, launch0.least_env, fairChoices_fair.cas, fairChoices_fair.clock, w_frames, w_args, w_heap, w_applies, trivial, trivial, w_case⟩
end start1
theorem witness_1 : WitnessClaimed_1 := ⟨start1.p0, start1.e0, start1.about1, start1.theMethod, start1.args0, start1.below0, start1.atStart⟩
end Jvm.Pilot.@@N@@
