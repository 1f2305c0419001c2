import JvmDerived
import JvmDerived.Pilot.@@N@@Statement
import JvmDerived.Pilot.@@N@@Code
set_option linter.unusedVariables false
set_option linter.unusedSimpArgs false
@@BLOCK:NumsL.lean.txt@@
namespace Jvm.Pilot.@@N@@
open Jvm Jvm.ClassFile Sem Op Lib Jvm.Free Jvm.Stand Jvm.LawKit Jvm.RoadKit Bundle Jvm.Pilot.@@N@@.Jvm.D
section Own
variable {p : Program} {l : Launch} {e : Env} {R : Room} {s : State} {m : MethodId} {args : Array Value} {below : List Frame} {meth : Method} {c : Code} {T : State} {locs : List Loc} {cells slots : Nat} {Z : State} {a0 : Array Value} {h : Heap}
/-- from S the invocation ends, and G holds of the end -/
def Gl (p : Program) (e : Env) (below : List Frame) (G : State → Outcome → Prop) (S : State) : Prop :=
  ∃ s₂ o, Steps p.tables e below S s₂ ∧ s₂.status = .running ∧ Ended s₂ below o ∧ G s₂ o
theorem Gl.of {G : State → Outcome → Prop} {S S' : State} (h : ∀ t, Steps p.tables e below S' t → Steps p.tables e below S t) (g : Gl p e below G S') : Gl p e below G S := by
  obtain ⟨s2, o, a, b⟩ := g
  exact ⟨s2, o, h _ a, b⟩
def Gd (s : State) (Q : Option Value → Heap → List Loc → Prop) (C N : Nat) (t : State) (o : Outcome) : Prop := ∃ v L, o = .returned v ∧ Q v t.heap L ∧ FrameEnd s o t L C N
def Con (l : Launch) (Z : State) (y : MethodName) (bytes : ByteArray) (maxL : Nat) (rt : Option FieldType) (ws : List Jvm.Cond) (rm : Room) (C N : Nat) (as : Array Value) (h : Heap) (Q : Option Value → Heap → List Loc → Prop) : Prop :=
  MetFree l y (head1 (Jvm.Cond.code y bytes maxL rt :: ws) rm) (fun a U => a = as ∧ Z.Warmed39 U.vm ∧ U.heap = h) (fun _ _ _ _ _ => True) (fun _ U o U' => ∃ v L, o = .returned v ∧ Q v U'.heap L ∧ FrameEnd U o U' L C N)
theorem Con.intro {y : MethodName} {bytes : ByteArray} {maxL : Nat} {rt : Option FieldType} {ws : List Jvm.Cond} {rm : Room} {C N : Nat} {as : Array Value} {Q : Option Value → Heap → List Loc → Prop} (hp : plainFor y = true)
    (body : ∀ p e s m below meth c s₁, Stand p l e rm s m as below meth c s₁ [] 0 0 → p.tables.exec = Jvm.exec → c.code = bytes → c.maxLocals = maxL → Z.Warmed39 s.vm → s.vm.findClass y.cls = some m.cls → meth.name = y.name → meth.sig.returnType = rt → meth.locks = false → s₁.heap = h → s.heap = h →
      Gl p e below (Gd s Q C N) (s₁.setTop (entryFrame m as maxL))) : Con l Z y bytes maxL rt ws rm C N as h Q := by
  refine MetFree.of_bodySF hp hisR ?_
  intro p e s m args below meth c s₁ Bd hml0 hP hK
  obtain ⟨rfl, hZ, hh⟩ := hP
  exact body p e s m below meth c s₁ (Stand.of_body Bd) Bd.exec Bd.bytes hml0 hZ (findClass_of_methodNamed Bd.named) (name_of_methodNamed Bd.named Bd.method).1 Bd.returns (BodyLoose.notSynchronized Bd) (by rw [← hh, Bd.state]; rfl) hh
theorem Gl.leaf {Q : Option Value → Heap → List Loc → Prop} {C N : Nat} (X : Stand p l e R s m args below meth c T locs cells slots) (hlk : meth.locks = false) {v : Option Value} (hv : meth.sig.returnType = none → v = none) {S : State}
    (st : ∀ fs, (∀ (f : JFrame) (acts : List Action), f.method = m → f.locked = none → f.entered = [] → (doReturn e (T.setTop f) acts v).1 = T.setFrames fs) → Steps p.tables e below S (T.setFrames fs)) (eT : T.heap = h) (hQ : Q v h locs) (hC : cells ≤ C) (hN : slots ≤ N) : Gl p e below (Gd s Q C N) S := by
  obtain ⟨fs, hr, hrun, hended, hW, hsame⟩ := X.leave (v := v) hv hlk
  exact ⟨_, _, st fs hr, hrun, hended, v, locs, rfl, by show Q v T.heap locs; rw [eT]; exact hQ, ⟨_, rfl⟩, hW, hsame.mono hC hN⟩
/-- ireturn of an int -/
theorem Gl.retI {Q : Option Value → Heap → List Loc → Prop} {C N : Nat} (X : Stand p l e R s m args below meth c T locs cells slots) (hx : p.tables.exec = Jvm.exec) (hlk : meth.locks = false) (hret : meth.sig.returnType = some .int) {pc : Nat} {Ls : Array Slot} {z : Int32} {rest : List Value} (hd : decode c.code pc = .ok (.ireturn, 1))
    (eT : T.heap = h) (hQ : Q (some (.int z)) h locs) (hC : cells ≤ C) (hN : slots ≤ N) : Gl p e below (Gd s Q C N) (T.setTop (mkF m pc Ls (.int z :: rest))) :=
  Gl.leaf X hlk (fun q => by rw [hret] at q; cases q) (fun fs hr => retOut X hx hret rfl (Or.inl ⟨rfl, Or.inl rfl, z, rfl⟩) hd hr) eT hQ hC hN
/-- ireturn of a boolean, byte, char, short -/
theorem Gl.retN {Q : Option Value → Heap → List Loc → Prop} {C N : Nat} (X : Stand p l e R s m args below meth c T locs cells slots) (hx : p.tables.exec = Jvm.exec) (hlk : meth.locks = false) {t : FieldType} (hret : meth.sig.returnType = some t) (ht : t = .boolean ∨ t = .byte ∨ t = .char ∨ t = .short) {pc : Nat} {Ls : Array Slot} {z : Int32} {rest : List Value} (hd : decode c.code pc = .ok (.ireturn, 1))
    (eT : T.heap = h) (hQ : Q (some (.int (nar t z))) h locs) (hC : cells ≤ C) (hN : slots ≤ N) : Gl p e below (Gd s Q C N) (T.setTop (mkF m pc Ls (.int z :: rest))) :=
  Gl.leaf X hlk (fun q => by rw [hret] at q; cases q) (fun fs hr => Jvm.RoadKit.retN X hx hret ht hd hr) eT hQ hC hN
/-- areturn -/
theorem Gl.retR {Q : Option Value → Heap → List Loc → Prop} {C N : Nat} (X : Stand p l e R s m args below meth c T locs cells slots) (hx : p.tables.exec = Jvm.exec) (hlk : meth.locks = false) {t : FieldType} (hret : meth.sig.returnType = some t) (ht : t.isReference = true) {pc : Nat} {Ls : Array Slot} {w : Value} (hw : w.isRef = true) {rest : List Value} (hd : decode c.code pc = .ok (.areturn, 1))
    (eT : T.heap = h) (hQ : Q (some w) h locs) (hC : cells ≤ C) (hN : slots ≤ N) : Gl p e below (Gd s Q C N) (T.setTop (mkF m pc Ls (w :: rest))) :=
  Gl.leaf X hlk (fun q => by rw [hret] at q; cases q) (fun fs hr => retOut X hx hret (by cases t <;> first | (cases ht; done) | (rcases ref_cases hw with rfl | ⟨_, rfl⟩ <;> rfl)) (Or.inr (Or.inr (Or.inr (Or.inr ⟨rfl, ht, hw⟩)))) hd hr) eT hQ hC hN
/-- dreturn -/
theorem Gl.retD {Q : Option Value → Heap → List Loc → Prop} {C N : Nat} (X : Stand p l e R s m args below meth c T locs cells slots) (hx : p.tables.exec = Jvm.exec) (hlk : meth.locks = false) (hret : meth.sig.returnType = some .double) {pc : Nat} {Ls : Array Slot} {z : UInt64} {rest : List Value} (hd : decode c.code pc = .ok (.dreturn, 1))
    (eT : T.heap = h) (hQ : Q (some (.double z)) h locs) (hC : cells ≤ C) (hN : slots ≤ N) : Gl p e below (Gd s Q C N) (T.setTop (mkF m pc Ls (.double z :: rest))) :=
  Gl.leaf X hlk (fun q => by rw [hret] at q; cases q) (fun fs hr => retOut X hx hret rfl (Or.inr (Or.inr (Or.inl ⟨rfl, rfl, z, rfl⟩))) hd hr) eT hQ hC hN
/-- return -/
theorem Gl.ret0 {Q : Option Value → Heap → List Loc → Prop} {C N : Nat} (X : Stand p l e R s m args below meth c T locs cells slots) (hx : p.tables.exec = Jvm.exec) (hlk : meth.locks = false) (hret : meth.sig.returnType = none) {pc : Nat} {Ls : Array Slot} (hd : decode c.code pc = .ok (.return_, 1))
    (eT : T.heap = h) (hQ : Q none h locs) (hC : cells ≤ C) (hN : slots ≤ N) : Gl p e below (Gd s Q C N) (T.setTop (mkF m pc Ls [])) :=
  Gl.leaf X hlk (fun _ => rfl) (fun fs hr => X.returnOut hx hret hd hr) eT hQ hC hN
/-- the end of a walk that may have interned -/
def GdW (s : State) (Q : Option Value → Heap → List Loc → Prop) (C N : Nat) (t : State) (o : Outcome) : Prop := ∃ v L, o = .returned v ∧ Q v t.heap L ∧ ReturnedEndW s o t L C N
def ConW (l : Launch) (Z : State) (y : MethodName) (bytes : ByteArray) (maxL : Nat) (rt : Option FieldType) (ws : List Jvm.Cond) (rm : Room) (C N : Nat) (as : Array Value) (h : Heap) (Q : Option Value → Heap → List Loc → Prop) : Prop :=
  MetFree l y (head1 (Jvm.Cond.code y bytes maxL rt :: ws) rm) (fun a U => a = as ∧ Z.Warmed39 U.vm ∧ U.heap = h) (fun _ _ _ _ _ => True) (fun _ U o U' => ∃ v L, o = .returned v ∧ Q v U'.heap L ∧ ReturnedEndW U o U' L C N)
theorem ConW.intro {y : MethodName} {bytes : ByteArray} {maxL : Nat} {rt : Option FieldType} {ws : List Jvm.Cond} {rm : Room} {C N : Nat} {as : Array Value} {Q : Option Value → Heap → List Loc → Prop} (hp : plainFor y = true)
    (body : ∀ p e s m below meth c s₁, Stand p l e rm s m as below meth c s₁ [] 0 0 → p.tables.exec = Jvm.exec → c.code = bytes → c.maxLocals = maxL → Z.Warmed39 s.vm → s.vm.findClass y.cls = some m.cls → meth.name = y.name → meth.sig.returnType = rt → meth.locks = false → s₁.heap = h → s.heap = h →
      Gl p e below (GdW s Q C N) (s₁.setTop (entryFrame m as maxL))) : ConW l Z y bytes maxL rt ws rm C N as h Q := by
  refine MetFree.of_bodySF hp hisR ?_
  intro p e s m args below meth c s₁ Bd hml0 hP hK
  obtain ⟨rfl, hZ, hh⟩ := hP
  exact body p e s m below meth c s₁ (Stand.of_body Bd) Bd.exec Bd.bytes hml0 hZ (findClass_of_methodNamed Bd.named) (name_of_methodNamed Bd.named Bd.method).1 Bd.returns (BodyLoose.notSynchronized Bd) (by rw [← hh, Bd.state]; rfl) hh
theorem Gl.leafW {Q : Option Value → Heap → List Loc → Prop} {C N n : Nat} {vm₁ : Vm} (X : Stand p l e R (s.setVm vm₁) m args below meth c T locs cells slots) (hlk : meth.locks = false) {v : Option Value} (hv : meth.sig.returnType = none → v = none) {S : State}
    (st : ∀ fs, (∀ (f : JFrame) (acts : List Action), f.method = m → f.locked = none → f.entered = [] → (doReturn e (T.setTop f) acts v).1 = T.setFrames fs) → Steps p.tables e below S (T.setFrames fs)) (eT : T.heap = h) (hQ : Q v h locs) (hS : s.Since vm₁ n) (hn : n ≤ h.size) (hC : cells ≤ C) (hN : slots ≤ N) : Gl p e below (GdW s Q C N) S := by
  obtain ⟨fs, hr, hrun, hended, hW⟩ := X.leaveW hS (by rw [eT]; exact hn) (v := v) hv hlk
  exact ⟨_, _, st fs hr, hrun, hended, v, locs, rfl, by show Q v T.heap locs; rw [eT]; exact hQ, hW.1, hW.2.1, hW.2.2.1, hW.2.2.2.mono hC hN⟩
theorem Gl.retNW {Q : Option Value → Heap → List Loc → Prop} {C N n : Nat} {vm₁ : Vm} (X : Stand p l e R (s.setVm vm₁) m args below meth c T locs cells slots) (hx : p.tables.exec = Jvm.exec) (hlk : meth.locks = false) {t : FieldType} (hret : meth.sig.returnType = some t) (ht : t = .boolean ∨ t = .byte ∨ t = .char ∨ t = .short) {pc : Nat} {Ls : Array Slot} {z : Int32} {rest : List Value} (hd : decode c.code pc = .ok (.ireturn, 1))
    (eT : T.heap = h) (hQ : Q (some (.int (nar t z))) h locs) (hS : s.Since vm₁ n) (hn : n ≤ h.size) (hC : cells ≤ C) (hN : slots ≤ N) : Gl p e below (GdW s Q C N) (T.setTop (mkF m pc Ls (.int z :: rest))) :=
  Gl.leafW X hlk (fun q => by rw [hret] at q; cases q) (fun fs hr => Jvm.RoadKit.retN X hx hret ht hd hr) eT hQ hS hn hC hN
theorem Gl.retRW {Q : Option Value → Heap → List Loc → Prop} {C N n : Nat} {vm₁ : Vm} (X : Stand p l e R (s.setVm vm₁) m args below meth c T locs cells slots) (hx : p.tables.exec = Jvm.exec) (hlk : meth.locks = false) {t : FieldType} (hret : meth.sig.returnType = some t) (ht : t.isReference = true) {pc : Nat} {Ls : Array Slot} {w : Value} (hw : w.isRef = true) {rest : List Value} (hd : decode c.code pc = .ok (.areturn, 1))
    (eT : T.heap = h) (hQ : Q (some w) h locs) (hS : s.Since vm₁ n) (hn : n ≤ h.size) (hC : cells ≤ C) (hN : slots ≤ N) : Gl p e below (GdW s Q C N) (T.setTop (mkF m pc Ls (w :: rest))) :=
  Gl.leafW X hlk (fun q => by rw [hret] at q; cases q) (fun fs hr => retOut X hx hret (by cases t <;> first | (cases ht; done) | (rcases ref_cases hw with rfl | ⟨_, rfl⟩ <;> rfl)) (Or.inr (Or.inr (Or.inr (Or.inr ⟨rfl, ht, hw⟩)))) hd hr) eT hQ hS hn hC hN
theorem ref_nar {r : Value} {C : String} (h : r.isRef = true) : narrow (.object C) r = r := by rcases ref_cases h with rfl | ⟨_, rfl⟩ <;> rfl
theorem ref_fit {r : Value} {C : String} (h : r.isRef = true) : fits (.object C) r = true := by rcases ref_cases h with rfl | ⟨_, rfl⟩ <;> rfl
theorem cat_ref {r : Value} (h : r.isRef = true) : r.category = 1 := by rcases ref_cases h with rfl | ⟨_, rfl⟩ <;> rfl
/-- what a callee that writes and makes nothing leaves -/
def Pur (F : Option Value → Prop) (h0 : Heap) (v : Option Value) (h : Heap) (L : List Loc) : Prop := F v ∧ h = h0 ∧ L = []
theorem desc_ne {n : String} (h : (n == "java/lang/invoke/MethodHandle" || n == "java/lang/invoke/VarHandle") = false) : n ≠ "java/lang/invoke/MethodHandle" ∧ n ≠ "java/lang/invoke/VarHandle" := by
  simp only [Bool.or_eq_false_iff, beq_eq_false_iff_ne, ne_eq] at h
  exact h
/-- a static call by its contract -/
theorem Gl.callS {G : State → Outcome → Prop} (X : Stand p l e R s m args below meth c T locs cells slots) (hx : p.tables.exec = Jvm.exec) (hZ : Z.Warmed39 s.vm) {own : String} {index : Nat} {y : MethodName} {bytes : ByteArray} {maxL : Nat} {rt : Option FieldType} (hown : s.vm.findClass own = some m.cls)
    (w1 : (Jvm.Cond.methodLink own index y).before a0 Z = true) (w2 : (Jvm.Cond.static y).before a0 Z = true) (w3 : (Jvm.Cond.initialized y.cls).before a0 Z = true) (w4 : (Jvm.Cond.code y bytes maxL rt).before a0 Z = true) (hy : y.cls ≠ "java/lang/invoke/MethodHandle" ∧ y.cls ≠ "java/lang/invoke/VarHandle")
    {rm : Room} {Q : Option Value → Heap → List Loc → Prop} {argsL rest : List Value} (hM : Con l Z y bytes maxL rt [] rm rm.cells rm.slots argsL.toArray h Q) (W : Nat) (hf : rm.frames + 1 ≤ R.frames) (hl : W + (maxL + 11) + rm.locals ≤ R.locals) (hcl : cells + rm.cells ≤ R.cells) (hsl : slots + rm.slots ≤ R.slots) (eT : T.heap = h)
    {pc : Nat} {Ls : Array Slot} {st : List Value} (hsz : Ls.size = c.maxLocals) {ps : List FieldType} {r' : Option FieldType} (hds : parseMethodDescriptor y.desc = some ⟨ps, r'⟩) (hlen : argsL.length = ps.length) (hst : st = argsL.reverse ++ rest) (hW : 2 * 0 + (rest.map fun v => v.category).sum ≤ W) (hd : decode c.code pc = .ok (.invokestatic index, 3))
    (k : ∀ (v : Option Value) (T' : State) (L : List Loc), Stand p l e R s m args below meth c T' (locs ++ L) (cells + rm.cells) (slots + rm.slots) → Q v T'.heap L → Gl p e below G (T'.setTop (mkF m (pc + 3) Ls (v.toList ++ rest)))) : Gl p e below G (T.setTop (mkF m pc Ls st)) := by
  obtain ⟨v, _, ⟨T', L', k', n'⟩, -, X', ⟨Lc, hQ, l1, y1, z1⟩, stp⟩ := Jvm.LawKit.callS X hx (y := y) hown (mvT hZ w1) (mvT hZ w2) (mvT hZ w3) (mvT hZ w4) hy (backOf (W := W) hM hZ w4 w3 hf hl) (g := mkF m pc Ls st) rfl hsz (argsL := argsL) (rest := rest) (lenOf hds hlen) hst hW hd (fun _ _ => ⟨rfl, eT, hcl, hsl⟩)
  dsimp only [Pt.U, Pt.locs, Pt.cells, Pt.slots] at X' l1 y1 z1 stp hQ
  subst l1 y1 z1
  exact Gl.of stp (k v T' Lc X' hQ)
theorem Gl.callS0 {G : State → Outcome → Prop} (X : Stand p l e R s m args below meth c T locs cells slots) (hx : p.tables.exec = Jvm.exec) (hZ : Z.Warmed39 s.vm) {own : String} {index : Nat} {y : MethodName} {bytes : ByteArray} {maxL : Nat} {rt : Option FieldType} (hown : s.vm.findClass own = some m.cls)
    (w1 : (Jvm.Cond.methodLink own index y).before a0 Z = true) (w2 : (Jvm.Cond.static y).before a0 Z = true) (w3 : (Jvm.Cond.initialized y.cls).before a0 Z = true) (w4 : (Jvm.Cond.code y bytes maxL rt).before a0 Z = true) (hy : y.cls ≠ "java/lang/invoke/MethodHandle" ∧ y.cls ≠ "java/lang/invoke/VarHandle")
    {fr lo : Nat} {F : Option Value → Prop} {argsL rest : List Value} (hM : Con l Z y bytes maxL rt [] ({ frames := fr, cells := 0, slots := 0, locals := lo } : Room) 0 0 argsL.toArray h (Pur F h)) (W : Nat) (hf : fr + 1 ≤ R.frames) (hl : W + (maxL + 11) + lo ≤ R.locals) (eT : T.heap = h)
    {pc : Nat} {Ls : Array Slot} {st : List Value} (hsz : Ls.size = c.maxLocals) {ps : List FieldType} {r' : Option FieldType} (hds : parseMethodDescriptor y.desc = some ⟨ps, r'⟩) (hlen : argsL.length = ps.length) (hst : st = argsL.reverse ++ rest) (hW : 2 * 0 + (rest.map fun v => v.category).sum ≤ W) (hd : decode c.code pc = .ok (.invokestatic index, 3)) (hcl : cells ≤ R.cells) (hsl : slots ≤ R.slots)
    (k : ∀ (v : Option Value) (T' : State), Stand p l e R s m args below meth c T' locs cells slots → T'.heap = h → F v → Gl p e below G (T'.setTop (mkF m (pc + 3) Ls (v.toList ++ rest)))) : Gl p e below G (T.setTop (mkF m pc Ls st)) := by
  refine Gl.callS X hx hZ hown w1 w2 w3 w4 hy hM W hf hl hcl hsl eT hsz hds hlen hst hW hd ?_
  intro v T' L X' hQ
  obtain ⟨q1, q2, rfl⟩ := hQ
  rw [List.append_nil] at X'
  exact k v T' X' q2 q1
/-- an instance method that the receiver's class selects, by its contract -/
theorem Gl.callV {G : State → Outcome → Prop} (X : Stand p l e R s m args below meth c T locs cells slots) (hx : p.tables.exec = Jvm.exec) (hZ : Z.Warmed39 s.vm) {own C : String} {index : Nat} {y z : MethodName} {bytes : ByteArray} {maxL : Nat} {rt : Option FieldType} (hown : s.vm.findClass own = some m.cls)
    (w1 : (Jvm.Cond.methodLink own index y).before a0 Z = true) (w2 : (Jvm.Cond.declares y).before a0 Z = true) (nf : NotFace s y) (w3 : (Jvm.Cond.selects C y z).before a0 Z = true) (w4 : (Jvm.Cond.instanceMethod z).before a0 Z = true) (w5 : (Jvm.Cond.code z bytes maxL rt).before a0 Z = true) (w6 : (Jvm.Cond.initialized z.cls).before a0 Z = true) (hy : y.cls ≠ "java/lang/invoke/MethodHandle" ∧ y.cls ≠ "java/lang/invoke/VarHandle")
    {rm : Room} {Q : Option Value → Heap → List Loc → Prop} {b : Addr} {argsL rest : List Value} (hE : Exa Z h b C) (hM : Con l Z z bytes maxL rt [] rm rm.cells rm.slots (.ref b :: argsL).toArray h Q) (W : Nat) (hf : rm.frames + 1 ≤ R.frames) (hl : W + (maxL + 11) + rm.locals ≤ R.locals) (hcl : cells + rm.cells ≤ R.cells) (hsl : slots + rm.slots ≤ R.slots) (eT : T.heap = h)
    {pc : Nat} {Ls : Array Slot} {st : List Value} (hsz : Ls.size = c.maxLocals) {ps : List FieldType} {r' : Option FieldType} (hds : parseMethodDescriptor y.desc = some ⟨ps, r'⟩) (hlen : argsL.length = ps.length) (hst : st = argsL.reverse ++ .ref b :: rest) (hW : 2 * 0 + (rest.map fun v => v.category).sum ≤ W) (hd : decode c.code pc = .ok (.invokevirtual index, 3))
    (k : ∀ (v : Option Value) (T' : State) (L : List Loc), Stand p l e R s m args below meth c T' (locs ++ L) (cells + rm.cells) (slots + rm.slots) → Q v T'.heap L → Gl p e below G (T'.setTop (mkF m (pc + 3) Ls (v.toList ++ rest)))) : Gl p e below G (T.setTop (mkF m pc Ls st)) := by
  obtain ⟨cq, kq, qa, qb, qc⟩ := isOf hZ eT hE
  obtain ⟨v, _, ⟨T', L', k', n'⟩, -, X', ⟨Lc, hQ, l1, y1, z1⟩, stp⟩ := X.virtualBack hx (y := y) (z := z) hown (mvT hZ w1) (mvT hZ w2) nf (mvT hZ w3) (mvT hZ w4) hy (backOf (W := W) hM hZ w5 w6 hf hl) qa qc (g := mkF m pc Ls st) rfl hsz (Steps.refl _) (argsL := argsL) (rest := rest) (lenOf hds hlen) hst hW hd (fun _ _ => ⟨rfl, eT, hcl, hsl⟩)
  dsimp only [Pt.U, Pt.locs, Pt.cells, Pt.slots] at X' l1 y1 z1 stp hQ
  subst l1 y1 z1
  exact Gl.of (fun t q => stp.trans q) (k v T' Lc X' hQ)
theorem Gl.callV0 {G : State → Outcome → Prop} (X : Stand p l e R s m args below meth c T locs cells slots) (hx : p.tables.exec = Jvm.exec) (hZ : Z.Warmed39 s.vm) {own C : String} {index : Nat} {y z : MethodName} {bytes : ByteArray} {maxL : Nat} {rt : Option FieldType} (hown : s.vm.findClass own = some m.cls)
    (w1 : (Jvm.Cond.methodLink own index y).before a0 Z = true) (w2 : (Jvm.Cond.declares y).before a0 Z = true) (nf : NotFace s y) (w3 : (Jvm.Cond.selects C y z).before a0 Z = true) (w4 : (Jvm.Cond.instanceMethod z).before a0 Z = true) (w5 : (Jvm.Cond.code z bytes maxL rt).before a0 Z = true) (w6 : (Jvm.Cond.initialized z.cls).before a0 Z = true) (hy : y.cls ≠ "java/lang/invoke/MethodHandle" ∧ y.cls ≠ "java/lang/invoke/VarHandle")
    {fr lo : Nat} {F : Option Value → Prop} {b : Addr} {argsL rest : List Value} (hE : Exa Z h b C) (hM : Con l Z z bytes maxL rt [] ({ frames := fr, cells := 0, slots := 0, locals := lo } : Room) 0 0 (.ref b :: argsL).toArray h (Pur F h)) (W : Nat) (hf : fr + 1 ≤ R.frames) (hl : W + (maxL + 11) + lo ≤ R.locals) (eT : T.heap = h)
    {pc : Nat} {Ls : Array Slot} {st : List Value} (hsz : Ls.size = c.maxLocals) {ps : List FieldType} {r' : Option FieldType} (hds : parseMethodDescriptor y.desc = some ⟨ps, r'⟩) (hlen : argsL.length = ps.length) (hst : st = argsL.reverse ++ .ref b :: rest) (hW : 2 * 0 + (rest.map fun v => v.category).sum ≤ W) (hd : decode c.code pc = .ok (.invokevirtual index, 3)) (hcl : cells ≤ R.cells) (hsl : slots ≤ R.slots)
    (k : ∀ (v : Option Value) (T' : State), Stand p l e R s m args below meth c T' locs cells slots → T'.heap = h → F v → Gl p e below G (T'.setTop (mkF m (pc + 3) Ls (v.toList ++ rest)))) : Gl p e below G (T.setTop (mkF m pc Ls st)) := by
  refine Gl.callV X hx hZ hown w1 w2 nf w3 w4 w5 w6 hy hE hM W hf hl hcl hsl eT hsz hds hlen hst hW hd ?_
  intro v T' L X' hQ
  obtain ⟨q1, q2, rfl⟩ := hQ
  rw [List.append_nil] at X'
  exact k v T' X' q2 q1
/-- a private instance method by its contract -/
theorem Gl.callP {G : State → Outcome → Prop} (X : Stand p l e R s m args below meth c T locs cells slots) (hx : p.tables.exec = Jvm.exec) (hZ : Z.Warmed39 s.vm) {own C : String} {index : Nat} {y : MethodName} {bytes : ByteArray} {maxL : Nat} {rt : Option FieldType} (hown : s.vm.findClass own = some m.cls)
    (w1 : (Jvm.Cond.methodLink own index y).before a0 Z = true) (nf : NotFace s y) (w3 : (Jvm.Cond.privateMethod y).before a0 Z = true) (w4 : (Jvm.Cond.instanceMethod y).before a0 Z = true) (w5 : (Jvm.Cond.code y bytes maxL rt).before a0 Z = true) (w6 : (Jvm.Cond.initialized y.cls).before a0 Z = true) (hy : y.cls ≠ "java/lang/invoke/MethodHandle" ∧ y.cls ≠ "java/lang/invoke/VarHandle")
    {rm : Room} {Q : Option Value → Heap → List Loc → Prop} {b : Addr} {argsL rest : List Value} (hE : Exa Z h b C) (hM : Con l Z y bytes maxL rt [] rm rm.cells rm.slots (.ref b :: argsL).toArray h Q) (W : Nat) (hf : rm.frames + 1 ≤ R.frames) (hl : W + (maxL + 11) + rm.locals ≤ R.locals) (hcl : cells + rm.cells ≤ R.cells) (hsl : slots + rm.slots ≤ R.slots) (eT : T.heap = h)
    {pc : Nat} {Ls : Array Slot} {st : List Value} (hsz : Ls.size = c.maxLocals) {ps : List FieldType} {r' : Option FieldType} (hds : parseMethodDescriptor y.desc = some ⟨ps, r'⟩) (hlen : argsL.length = ps.length) (hst : st = argsL.reverse ++ .ref b :: rest) (hW : 2 * 0 + (rest.map fun v => v.category).sum ≤ W) (hd : decode c.code pc = .ok (.invokevirtual index, 3))
    (k : ∀ (v : Option Value) (T' : State) (L : List Loc), Stand p l e R s m args below meth c T' (locs ++ L) (cells + rm.cells) (slots + rm.slots) → Q v T'.heap L → Gl p e below G (T'.setTop (mkF m (pc + 3) Ls (v.toList ++ rest)))) : Gl p e below G (T.setTop (mkF m pc Ls st)) := by
  obtain ⟨cq, q, q'⟩ := hE.cell
  have hpv := Cond.privateMethod_at (mvP hZ w3 (args := #[]))
  have hin : (Jvm.Cond.instanceMethod y).before args s = true := mvT hZ w4
  obtain ⟨mk, methM, hnamed, hmethM, -, -⟩ := Cond.instanceMethod_spec hin
  obtain ⟨kc, hkc, hkni⟩ := nf mk hnamed
  have hsel : (Jvm.Cond.selects y.cls y y).before args s = true := selects_self_of_private (findClass_of_methodNamed hnamed) hkc hkni hpv hin hy
  obtain ⟨v, _, ⟨T', L', k', n'⟩, -, X', ⟨Lc, hQ, l1, y1, z1⟩, stp⟩ := X.privateBack hx (y := y) hown (mvT hZ w1) hin hsel hpv (mvT hZ w5) hy (backOf (W := W) hM hZ w5 w6 hf hl) (g := mkF m pc Ls st) rfl hsz (Steps.refl _) (a := b) (by rw [eT]; exact q) q' (argsL := argsL) (rest := rest) (lenOf hds hlen) hst hW hd (fun _ _ => ⟨rfl, eT, hcl, hsl⟩)
  dsimp only [Pt.U, Pt.locs, Pt.cells, Pt.slots] at X' l1 y1 z1 stp hQ
  subst l1 y1 z1
  exact Gl.of (fun t q => stp.trans q) (k v T' Lc X' hQ)
theorem Gl.callP0 {G : State → Outcome → Prop} (X : Stand p l e R s m args below meth c T locs cells slots) (hx : p.tables.exec = Jvm.exec) (hZ : Z.Warmed39 s.vm) {own C : String} {index : Nat} {y : MethodName} {bytes : ByteArray} {maxL : Nat} {rt : Option FieldType} (hown : s.vm.findClass own = some m.cls)
    (w1 : (Jvm.Cond.methodLink own index y).before a0 Z = true) (nf : NotFace s y) (w3 : (Jvm.Cond.privateMethod y).before a0 Z = true) (w4 : (Jvm.Cond.instanceMethod y).before a0 Z = true) (w5 : (Jvm.Cond.code y bytes maxL rt).before a0 Z = true) (w6 : (Jvm.Cond.initialized y.cls).before a0 Z = true) (hy : y.cls ≠ "java/lang/invoke/MethodHandle" ∧ y.cls ≠ "java/lang/invoke/VarHandle")
    {fr lo : Nat} {F : Option Value → Prop} {b : Addr} {argsL rest : List Value} (hE : Exa Z h b C) (hM : Con l Z y bytes maxL rt [] ({ frames := fr, cells := 0, slots := 0, locals := lo } : Room) 0 0 (.ref b :: argsL).toArray h (Pur F h)) (W : Nat) (hf : fr + 1 ≤ R.frames) (hl : W + (maxL + 11) + lo ≤ R.locals) (eT : T.heap = h)
    {pc : Nat} {Ls : Array Slot} {st : List Value} (hsz : Ls.size = c.maxLocals) {ps : List FieldType} {r' : Option FieldType} (hds : parseMethodDescriptor y.desc = some ⟨ps, r'⟩) (hlen : argsL.length = ps.length) (hst : st = argsL.reverse ++ .ref b :: rest) (hW : 2 * 0 + (rest.map fun v => v.category).sum ≤ W) (hd : decode c.code pc = .ok (.invokevirtual index, 3)) (hcl : cells ≤ R.cells) (hsl : slots ≤ R.slots)
    (k : ∀ (v : Option Value) (T' : State), Stand p l e R s m args below meth c T' locs cells slots → T'.heap = h → F v → Gl p e below G (T'.setTop (mkF m (pc + 3) Ls (v.toList ++ rest)))) : Gl p e below G (T.setTop (mkF m pc Ls st)) := by
  refine Gl.callP X hx hZ hown w1 nf w3 w4 w5 w6 hy hE hM W hf hl hcl hsl eT hsz hds hlen hst hW hd ?_
  intro v T' L X' hQ
  obtain ⟨q1, q2, rfl⟩ := hQ
  rw [List.append_nil] at X'
  exact k v T' X' q2 q1
/-- a constructor by its contract -/
theorem Gl.callI {G : State → Outcome → Prop} (X : Stand p l e R s m args below meth c T locs cells slots) (hx : p.tables.exec = Jvm.exec) (hZ : Z.Warmed39 s.vm) {own : String} {index : Nat} {y : MethodName} {bytes : ByteArray} {maxL : Nat} (hy1 : y.name = "<init>") (hown : s.vm.findClass own = some m.cls)
    (w1 : (Jvm.Cond.methodLink own index y).before a0 Z = true) (w2 : (Jvm.Cond.instanceMethod y).before a0 Z = true) (w3 : (Jvm.Cond.initialized y.cls).before a0 Z = true) (w4 : (Jvm.Cond.code y bytes maxL none).before a0 Z = true) (hy : y.cls ≠ "java/lang/invoke/MethodHandle" ∧ y.cls ≠ "java/lang/invoke/VarHandle")
    {rm : Room} {Q : Option Value → Heap → List Loc → Prop} {b : Addr} {argsL rest : List Value} (hM : Con l Z y bytes maxL none [] rm rm.cells rm.slots (.ref b :: argsL).toArray h Q) (W : Nat) (hf : rm.frames + 1 ≤ R.frames) (hl : W + (maxL + 11) + rm.locals ≤ R.locals) (hcl : cells + rm.cells ≤ R.cells) (hsl : slots + rm.slots ≤ R.slots) (eT : T.heap = h)
    {pc : Nat} {Ls : Array Slot} {st : List Value} (hsz : Ls.size = c.maxLocals) {ps : List FieldType} {r' : Option FieldType} (hds : parseMethodDescriptor y.desc = some ⟨ps, r'⟩) (hlen : argsL.length = ps.length) (hst : st = argsL.reverse ++ .ref b :: rest) (hW : 2 * 0 + (rest.map fun v => v.category).sum ≤ W) (hd : decode c.code pc = .ok (.invokespecial index, 3))
    (k : ∀ (v : Option Value) (T' : State) (L : List Loc), Stand p l e R s m args below meth c T' (locs ++ L) (cells + rm.cells) (slots + rm.slots) → Q v T'.heap L → Gl p e below G (T'.setTop (mkF m (pc + 3) Ls (v.toList ++ rest)))) : Gl p e below G (T.setTop (mkF m pc Ls st)) := by
  obtain ⟨v, _, ⟨T', L', k', n'⟩, -, X', ⟨Lc, hQ, l1, y1, z1⟩, stp⟩ := X.specialBack hx (y := y) hy1 hown (mvT hZ w1) (mvT hZ w2) (mvT hZ w4) hy (backOf (W := W) hM hZ w4 w3 hf hl) (g := mkF m pc Ls st) rfl hsz (Steps.refl _) (a := b) (argsL := argsL) (rest := rest) (lenOf hds hlen) hst hW hd (fun _ _ => ⟨rfl, eT, hcl, hsl⟩)
  dsimp only [Pt.U, Pt.locs, Pt.cells, Pt.slots] at X' l1 y1 z1 stp hQ
  subst l1 y1 z1
  exact Gl.of (fun t q => stp.trans q) (k v T' Lc X' hQ)
theorem Gl.callI0 {G : State → Outcome → Prop} (X : Stand p l e R s m args below meth c T locs cells slots) (hx : p.tables.exec = Jvm.exec) (hZ : Z.Warmed39 s.vm) {own : String} {index : Nat} {y : MethodName} {bytes : ByteArray} {maxL : Nat} (hy1 : y.name = "<init>") (hown : s.vm.findClass own = some m.cls)
    (w1 : (Jvm.Cond.methodLink own index y).before a0 Z = true) (w2 : (Jvm.Cond.instanceMethod y).before a0 Z = true) (w3 : (Jvm.Cond.initialized y.cls).before a0 Z = true) (w4 : (Jvm.Cond.code y bytes maxL none).before a0 Z = true) (hy : y.cls ≠ "java/lang/invoke/MethodHandle" ∧ y.cls ≠ "java/lang/invoke/VarHandle")
    {fr lo : Nat} {F : Option Value → Prop} {b : Addr} {argsL rest : List Value} (hM : Con l Z y bytes maxL none [] ({ frames := fr, cells := 0, slots := 0, locals := lo } : Room) 0 0 (.ref b :: argsL).toArray h (Pur F h)) (W : Nat) (hf : fr + 1 ≤ R.frames) (hl : W + (maxL + 11) + lo ≤ R.locals) (eT : T.heap = h)
    {pc : Nat} {Ls : Array Slot} {st : List Value} (hsz : Ls.size = c.maxLocals) {ps : List FieldType} {r' : Option FieldType} (hds : parseMethodDescriptor y.desc = some ⟨ps, r'⟩) (hlen : argsL.length = ps.length) (hst : st = argsL.reverse ++ .ref b :: rest) (hW : 2 * 0 + (rest.map fun v => v.category).sum ≤ W) (hd : decode c.code pc = .ok (.invokespecial index, 3)) (hcl : cells ≤ R.cells) (hsl : slots ≤ R.slots)
    (k : ∀ (v : Option Value) (T' : State), Stand p l e R s m args below meth c T' locs cells slots → T'.heap = h → F v → Gl p e below G (T'.setTop (mkF m (pc + 3) Ls (v.toList ++ rest)))) : Gl p e below G (T.setTop (mkF m pc Ls st)) := by
  refine Gl.callI X hx hZ hy1 hown w1 w2 w3 w4 hy hM W hf hl hcl hsl eT hsz hds hlen hst hW hd ?_
  intro v T' L X' hQ
  obtain ⟨q1, q2, rfl⟩ := hQ
  rw [List.append_nil] at X'
  exact k v T' X' q2 q1
/-- a constructor, by a Back -/
theorem Gl.callIB {G : State → Outcome → Prop} (X : Stand p l e R s m args below meth c T locs cells slots) (hx : p.tables.exec = Jvm.exec) (hZ : Z.Warmed39 s.vm) {own : String} {index : Nat} {y : MethodName} {bytes : ByteArray} {maxL : Nat} (hy1 : y.name = "<init>") (hown : s.vm.findClass own = some m.cls)
    (w1 : (Jvm.Cond.methodLink own index y).before a0 Z = true) (w2 : (Jvm.Cond.instanceMethod y).before a0 Z = true) (w4 : (Jvm.Cond.code y bytes maxL none).before a0 Z = true) (hy : y.cls ≠ "java/lang/invoke/MethodHandle" ∧ y.cls ≠ "java/lang/invoke/VarHandle")
    {C N W : Nat} (Q : Option Value → Heap → List Loc → Prop) {b : Addr} {argsL rest : List Value} (hK : Back l R p e below s args y 3 W (fun A a => a = (Value.ref b :: argsL).toArray ∧ A.U.heap = h ∧ A.cells + C ≤ R.cells ∧ A.slots + N ≤ R.slots) (fun A _ v B => ∃ L, Q v B.U.heap L ∧ B.locs = A.locs ++ L ∧ B.cells = A.cells + C ∧ B.slots = A.slots + N)) (hcl : cells + C ≤ R.cells) (hsl : slots + N ≤ R.slots) (eT : T.heap = h)
    {pc : Nat} {Ls : Array Slot} {st : List Value} (hsz : Ls.size = c.maxLocals) {ps : List FieldType} {r' : Option FieldType} (hds : parseMethodDescriptor y.desc = some ⟨ps, r'⟩) (hlen : argsL.length = ps.length) (hst : st = argsL.reverse ++ .ref b :: rest) (hW : 2 * 0 + (rest.map fun v => v.category).sum ≤ W) (hd : decode c.code pc = .ok (.invokespecial index, 3))
    (k : ∀ (v : Option Value) (T' : State) (L : List Loc), Stand p l e R s m args below meth c T' (locs ++ L) (cells + C) (slots + N) → Q v T'.heap L → Gl p e below G (T'.setTop (mkF m (pc + 3) Ls (v.toList ++ rest)))) : Gl p e below G (T.setTop (mkF m pc Ls st)) := by
  obtain ⟨v, _, ⟨T', L', k', n'⟩, -, X', ⟨Lc, hQ, l1, y1, z1⟩, stp⟩ := X.specialBack hx (y := y) hy1 hown (mvT hZ w1) (mvT hZ w2) (mvT hZ w4) hy hK (g := mkF m pc Ls st) rfl hsz (Steps.refl _) (a := b) (argsL := argsL) (rest := rest) (lenOf hds hlen) hst hW hd (fun _ _ => ⟨rfl, eT, hcl, hsl⟩)
  dsimp only [Pt.U, Pt.locs, Pt.cells, Pt.slots] at X' l1 y1 z1 stp hQ
  subst l1 y1 z1
  exact Gl.of (fun t q => stp.trans q) (k v T' Lc X' hQ)
/-- an instance method that writes and makes nothing, by a Back -/
theorem Gl.callVB {G : State → Outcome → Prop} (X : Stand p l e R s m args below meth c T locs cells slots) (hx : p.tables.exec = Jvm.exec) (hZ : Z.Warmed39 s.vm) {own C : String} {index : Nat} {y z : MethodName} (hown : s.vm.findClass own = some m.cls)
    (w1 : (Jvm.Cond.methodLink own index y).before a0 Z = true) (w2 : (Jvm.Cond.declares y).before a0 Z = true) (nf : NotFace s y) (w3 : (Jvm.Cond.selects C y z).before a0 Z = true) (w4 : (Jvm.Cond.instanceMethod z).before a0 Z = true) (hy : y.cls ≠ "java/lang/invoke/MethodHandle" ∧ y.cls ≠ "java/lang/invoke/VarHandle")
    {W : Nat} (F : Option Value → Prop) {b : Addr} {argsL rest : List Value} (hE : Exa Z h b C) (hK : Back l R p e below s args z 3 W (fun A a => a = (Value.ref b :: argsL).toArray ∧ A.U.heap = h ∧ A.cells + 0 ≤ R.cells ∧ A.slots + 0 ≤ R.slots) (fun A _ v B => ∃ L, (F v ∧ L = [] ∧ B.U.heap = h) ∧ B.locs = A.locs ++ L ∧ B.cells = A.cells + 0 ∧ B.slots = A.slots + 0)) (hcl : cells ≤ R.cells) (hsl : slots ≤ R.slots) (eT : T.heap = h)
    {pc : Nat} {Ls : Array Slot} {st : List Value} (hsz : Ls.size = c.maxLocals) {ps : List FieldType} {r' : Option FieldType} (hds : parseMethodDescriptor y.desc = some ⟨ps, r'⟩) (hlen : argsL.length = ps.length) (hst : st = argsL.reverse ++ .ref b :: rest) (hW : 2 * 0 + (rest.map fun v => v.category).sum ≤ W) (hd : decode c.code pc = .ok (.invokevirtual index, 3))
    (k : ∀ (v : Option Value) (T' : State), Stand p l e R s m args below meth c T' locs cells slots → T'.heap = h → F v → Gl p e below G (T'.setTop (mkF m (pc + 3) Ls (v.toList ++ rest)))) : Gl p e below G (T.setTop (mkF m pc Ls st)) := by
  obtain ⟨cq, kq, qa, qb, qc⟩ := isOf hZ eT hE
  obtain ⟨v, _, ⟨T', L', k', n'⟩, -, X', ⟨Lc, ⟨hF, hL, hH⟩, l1, y1, z1⟩, stp⟩ := X.virtualBack hx (y := y) (z := z) hown (mvT hZ w1) (mvT hZ w2) nf (mvT hZ w3) (mvT hZ w4) hy hK qa qc (g := mkF m pc Ls st) rfl hsz (Steps.refl _) (argsL := argsL) (rest := rest) (lenOf hds hlen) hst hW hd (fun _ _ => ⟨rfl, eT, hcl, hsl⟩)
  dsimp only [Pt.U, Pt.locs, Pt.cells, Pt.slots] at X' l1 y1 z1 stp hH
  subst l1 y1 z1 hL
  rw [List.append_nil] at X'
  exact Gl.of (fun t q => stp.trans q) (k v T' X' hH hF)
theorem nf_same {y y' : MethodName} {C : String} (hc : y'.cls = y.cls) (w : (Jvm.Cond.selects C y y).before args s = true) : NotFace s y' := fun r0 h0 => by
  obtain ⟨c2, r2, m2, q1, q2, q3, q4, kP, hkP, hkPi⟩ := Cond.selects_spec w
  have a := findClass_of_methodNamed h0
  rw [hc] at a
  have b := Option.some.inj (a.symm.trans (findClass_of_methodNamed q3))
  exact ⟨kP, by rw [b]; exact hkP, hkPi⟩
theorem fld_ne {a b : Addr} {C n d : String} {v w : Value} (F : Fld Z h a C n d v) (G : Fld Z h b C n d w) (hn : v ≠ w) : ¬ a = b := fun e => by
  subst e
  obtain ⟨c1, cf, k, i, f, h1, h2, -, -, -, -, h7⟩ := F
  obtain ⟨c2, cf', k', i', f', g1, g2, -, -, -, -, g7⟩ := G
  cases h1.symm.trans g1
  cases h2.symm.trans g2
  exact hn (Option.some.inj (h7.symm.trans g7))
theorem own_nb1 : nar .boolean 1 = 1 := rfl
theorem own_nb0 : nar .boolean 0 = 0 := rfl
/-- the words of a case: an equation with an int -/
theorem eq_at {args : Array Value} {s : State} {t : Term} {idx : List Nat} {z : Int32} (h : (Jvm.Cond.eq t (.int z)).value args s none s idx = some true) : t.eval args s none idx s = some (.int z) := by
  obtain ⟨x, y', e1, e2, k1, k2⟩ := cmp_v (Or.inl h)
  cases (Term.int_eval z).symm.trans e2
  obtain ⟨z', rfl⟩ : ∃ z', x = .int z' := k2
  exact e1.trans (congrArg (fun z => some (Value.int z)) (gotT (Cond.eq_ints e1 (Term.int_eval z)) h))
theorem eqR_at {args : Array Value} {s : State} {t u : Term} {idx : List Nat} {a : Addr} (h : (Jvm.Cond.eq t u).value args s none s idx = some true) (hu : u.eval args s none idx s = some (.ref a)) : t.eval args s none idx s = some (.ref a) := by
  obtain ⟨x, y', e1, e2, k1, k2⟩ := cmp_v (Or.inl h)
  cases hu.symm.trans e2
  have hx : x.isRef = true := k2.2
  have q := gotT (eq_R e1 hu hx rfl) h
  rw [q] at e1
  exact e1
theorem len_at {args : Array Value} {s : State} {t : Term} {z : Int32} {a : Addr} {cl : Cell} (h : (Term.length t).eval args s none [] s = some (.int z)) (ht : t.eval args s none [] s = some (.ref a)) (ha : s.arrayAt? a = some cl) : cl.slots.size.toInt32 = z ∧ cl.slots.size < 2 ^ 31 := by
  by_cases q : cl.slots.size < 2 ^ 31
  · rw [len_f ht ha q] at h
    cases h
    exact ⟨rfl, q⟩
  · simp [Term.eval, ht, ha, q] at h
theorem len_sz {n : Nat} {z : Int32} (h : n.toInt32 = z) (q : n < 2 ^ 31) : n = z.toNatClampNeg := by
  rw [← h]; simp only [Int32.toNatClampNeg, len_toInt q]; rfl
end Own
def own_for (ec0 ec1 ec2 ec3 ec4 ec5 : Addr) (p : Int32) : Addr := if (400 : Int32) = p then ec0 else if (404 : Int32) = p then ec1 else if (405 : Int32) = p then ec2 else if (409 : Int32) = p then ec3 else if (413 : Int32) = p then ec4 else if (500 : Int32) = p then ec5 else if p < (400 : Int32) then ec5 else if p < (500 : Int32) then ec0 else ec5
def own_exp (ec0 ec1 ec2 ec3 ec4 ec5 : Addr) (p : Int32) : Addr := if p = (400 : Int32) then ec0 else if p = (404 : Int32) then ec1 else if p = (405 : Int32) then ec2 else if p = (409 : Int32) then ec3 else if p = (413 : Int32) then ec4 else if p = (500 : Int32) then ec5 else if p < (400 : Int32) then ec5 else if (499 : Int32) < p then ec5 else ec0
theorem own_fe (ec0 ec1 ec2 ec3 ec4 ec5 : Addr) (p : Int32) : own_for ec0 ec1 ec2 ec3 ec4 ec5 p = own_exp ec0 ec1 ec2 ec3 ec4 ec5 p := by
  unfold own_for own_exp
  by_cases h400 : p = (400 : Int32)
  · subst h400; simp
  by_cases h404 : p = (404 : Int32)
  · subst h404; simp
  by_cases h405 : p = (405 : Int32)
  · subst h405; simp
  by_cases h409 : p = (409 : Int32)
  · subst h409; simp
  by_cases h413 : p = (413 : Int32)
  · subst h413; simp
  by_cases h500 : p = (500 : Int32)
  · subst h500; simp
  rw [if_neg (fun e => h400 (Eq.symm e)), if_neg (fun e => h404 (Eq.symm e)), if_neg (fun e => h405 (Eq.symm e)), if_neg (fun e => h409 (Eq.symm e)), if_neg (fun e => h413 (Eq.symm e)), if_neg (fun e => h500 (Eq.symm e))]
  rw [if_neg h400, if_neg h404, if_neg h405, if_neg h409, if_neg h413, if_neg h500]
  by_cases g : p < (400 : Int32)
  · rw [if_pos g, if_pos g]
  rw [if_neg g, if_neg g]
  by_cases g' : p < (500 : Int32)
  · rw [if_pos g', if_neg (by rw [Int32.lt_iff_toInt_lt] at g' ⊢; have e1 : (500 : Int32).toInt = 500 := rfl; have e2 : (499 : Int32).toInt = 499 := rfl; omega)]
  · rw [if_neg g', if_pos (by rw [Int32.lt_iff_toInt_lt] at g' ⊢; have e1 : (500 : Int32).toInt = 500 := rfl; have e2 : (499 : Int32).toInt = 499 := rfl; omega)]
theorem own_and7 (x : Int32) : ¬ (x &&& (7 : Int32)) < 0 ∧ (x &&& (7 : Int32)) < (8 : Int32) := by
  have h : (x &&& (7 : Int32)).toInt = x.toInt % 2 ^ 3 := Jvm.Kit.i32_mask x 7 (k := 3) (by decide) (by decide)
  rw [Int32.lt_iff_toInt_lt, Int32.lt_iff_toInt_lt, h]
  have e0 : (0 : Int32).toInt = 0 := rfl
  have e1 : (8 : Int32).toInt = 8 := rfl
  omega
theorem own_lt8 {v : Int32} (h : ¬ v < 0 ∧ v < (8 : Int32)) : v.toNatClampNeg < 8 := by
  obtain ⟨h0, h⟩ := h
  rw [Int32.lt_iff_toInt_lt] at h h0
  have q := Int32.toNat_toInt v
  have e1 : (8 : Int32).toInt = 8 := rfl
  have e2 : (0 : Int32).toInt = 0 := rfl
  omega
theorem own_pick {c : Cell} {x0 x1 x2 x3 x4 x5 x6 x7 : Int32} {d : Value} (sz : c.slots.size = (8 : Int32).toNatClampNeg) (H : Has c [.int x0, .int x1, .int x2, .int x3, .int x4, .int x5, .int x6, .int x7] d) {k : Nat} (hk : k < 8) : ∃ z : Int32, c.slots[k]? = some (.int z) := by
  have s8 : c.slots.size = 8 := sz
  match k, hk with
  | 0, _ => exact ⟨_, H 0 (by omega)⟩
  | 1, _ => exact ⟨_, H 1 (by omega)⟩
  | 2, _ => exact ⟨_, H 2 (by omega)⟩
  | 3, _ => exact ⟨_, H 3 (by omega)⟩
  | 4, _ => exact ⟨_, H 4 (by omega)⟩
  | 5, _ => exact ⟨_, H 5 (by omega)⟩
  | 6, _ => exact ⟨_, H 6 (by omega)⟩
  | 7, _ => exact ⟨_, H 7 (by omega)⟩
theorem ef_1 (m : MethodId)  : entryFrame m #[] 0 = mkF m 0 #[] [] := by first | (simp [entryFrame, mkF, argsToLocals, Value.category, maxLocals]; done) | rfl
theorem pn_0 : plainName "com/example/jobd/jobd/http/ErrorCode" = true := by first | (simp [plainName, overriddenIn]; done) | decide +kernel
theorem d2_0 : decode prog_10_method_1_code 0 = .ok (.getstatic 22, 3) := by decide +kernel
theorem w8 {Z : State} {a0 : Array Value} (hw : ∀ d ∈ tables_1, d.before a0 Z = true) : (Jvm.Cond.fieldLink "com/example/jobd/jobd/http/ErrorCode" (22 : Nat) "com/example/jobd/jobd/http/ErrorCode" "$VALUES" "[Lcom/example/jobd/jobd/http/ErrorCode;").before a0 Z = true := hw _ (List.mem_of_getElem? (i := 8) rfl)
theorem d2_3 : decode prog_10_method_1_code 3 = .ok (.invokevirtual 26, 3) := by decide +kernel
theorem w10 {Z : State} {a0 : Array Value} (hw : ∀ d ∈ tables_1, d.before a0 Z = true) : (Jvm.Cond.methodLink "com/example/jobd/jobd/http/ErrorCode" (26 : Nat) ({ cls := "[Lcom/example/jobd/jobd/http/ErrorCode;", name := "clone", desc := "()Ljava/lang/Object;" } : Jvm.MethodName)).before a0 Z = true := hw _ (List.mem_of_getElem? (i := 10) rfl)
theorem w11 {Z : State} {a0 : Array Value} (hw : ∀ d ∈ tables_1, d.before a0 Z = true) : (Jvm.Cond.sameMethod "[Lcom/example/jobd/jobd/http/ErrorCode;" "java/lang/Object" "clone" "()Ljava/lang/Object;").before a0 Z = true := hw _ (List.mem_of_getElem? (i := 11) rfl)
theorem w15 {Z : State} {a0 : Array Value} (hw : ∀ d ∈ tables_1, d.before a0 Z = true) : (Jvm.Cond.native ({ cls := "java/lang/Object", name := "clone", desc := "()Ljava/lang/Object;" } : Jvm.MethodName)).before a0 Z = true := hw _ (List.mem_of_getElem? (i := 15) rfl)
theorem w13 {Z : State} {a0 : Array Value} (hw : ∀ d ∈ tables_1, d.before a0 Z = true) : (Jvm.Cond.instanceMethod ({ cls := "java/lang/Object", name := "clone", desc := "()Ljava/lang/Object;" } : Jvm.MethodName)).before a0 Z = true := hw _ (List.mem_of_getElem? (i := 13) rfl)
theorem w14 {Z : State} {a0 : Array Value} (hw : ∀ d ∈ tables_1, d.before a0 Z = true) : (Jvm.Cond.selects "[Lcom/example/jobd/jobd/http/ErrorCode;" ({ cls := "[Lcom/example/jobd/jobd/http/ErrorCode;", name := "clone", desc := "()Ljava/lang/Object;" } : Jvm.MethodName) ({ cls := "java/lang/Object", name := "clone", desc := "()Ljava/lang/Object;" } : Jvm.MethodName)).before a0 Z = true := hw _ (List.mem_of_getElem? (i := 14) rfl)
theorem w16 {Z : State} {a0 : Array Value} (hw : ∀ d ∈ tables_1, d.before a0 Z = true) : (Jvm.Cond.castable "[Lcom/example/jobd/jobd/http/ErrorCode;" "java/lang/Cloneable").before a0 Z = true := hw _ (List.mem_of_getElem? (i := 16) rfl)
theorem d2_6 : decode prog_10_method_1_code 6 = .ok (.checkcast 27, 3) := by decide +kernel
theorem w24 {Z : State} {a0 : Array Value} (hw : ∀ d ∈ tables_1, d.before a0 Z = true) : (Jvm.Cond.classLink "com/example/jobd/jobd/http/ErrorCode" (27 : Nat) "[Lcom/example/jobd/jobd/http/ErrorCode;").before a0 Z = true := hw _ (List.mem_of_getElem? (i := 24) rfl)
theorem d2_9 : decode prog_10_method_1_code 9 = .ok (.areturn, 1) := by decide +kernel
set_option maxRecDepth 65536 in
set_option maxHeartbeats 40000000 in
theorem rm1 (l : Launch) (Z : State) (a0 : Array Value) (hw : ∀ d ∈ tables_1, d.before a0 Z = true) (h0 : Heap) (ac : Addr) (clc : Cell) (n0 : Nat) (Sv : Sta Z Z.heap "com/example/jobd/jobd/http/ErrorCode" "$VALUES" "[Lcom/example/jobd/jobd/http/ErrorCode;" (.ref ac)) (Av : Arr Z Z.heap ac clc (.object "com/example/jobd/jobd/http/ErrorCode")) (Ev : Exa Z Z.heap ac "[Lcom/example/jobd/jobd/http/ErrorCode;") (Fv : FitC Z clc) (zv : clc.slots.size = (6 : Int32).toNatClampNeg) (O0 : Old Z n0 h0) : Con l Z (⟨"com/example/jobd/jobd/http/ErrorCode", "values", "()[Lcom/example/jobd/jobd/http/ErrorCode;"⟩ : MethodName) prog_10_method_1_code 0 (some (.array (.object "com/example/jobd/jobd/http/ErrorCode"))) [] ({ frames := 1, cells := 1, slots := 6, locals := 14 } : Room) 1 6 #[] h0 (fun v h L => ∃ b, v = some (.ref b) ∧ Arr Z h b (cloneOf clc) (.object "com/example/jobd/jobd/http/ErrorCode") ∧ Ext h0 h ∧ L = []) := by
  refine Con.intro (plainFor_of_name pn_0) ?_
  intro p e s m below meth c s₁ X0 hx hby hml hZ hown hnm hret hlk e0 hs0
  refine Gl.of (fun _ k => castTop (ef_1 m ) k) ?_
  show Gl p e below _ (s₁.setTop (mkF m 0 #[] []))
  obtain ⟨T1, X1, e1, st1⟩ := getS2 X0 hx hZ hown (host := "") (Or.inl (w8 hw)) Via.refl e0 (Sv.ext O0.2) (g := (mkF m 0 #[] [])) rfl (hb hby d2_0)
  refine Gl.of st1 ?_
  show Gl p e below _ (T1.setTop (mkF m 3 #[] [(.ref ac)]))
  obtain ⟨T2, h2, X2, e2, E2, A2, B2, st2⟩ := cloneA X1 hx hZ hown (w10 hw) (w11 hw) (w15 hw) (w13 hw) (w14 hw) (w16 hw) e1 (Av.ext O0.2) (Ev.ext O0.2) Fv (g := (mkF m 3 #[] [(.ref ac)])) rfl (by rw [hml]; rfl) rfl (hb hby d2_3) (by decide) (W := 0) (cap := 6) (Nat.le_of_eq rfl) (by decide) (by rw [zv]; decide) (by decide) (by decide)
  obtain ⟨b2, g2⟩ : ∃ z, z = h0.size := ⟨_, rfl⟩
  rw [← g2] at A2 B2 st2
  refine Gl.of st2 ?_
  have O2 := O0.ext E2
  show Gl p e below _ (T2.setTop (mkF m 6 #[] [(.ref b2)]))
  obtain ⟨T3, X3, e3, st3⟩ := castY X2 hx hZ hown (w24 hw) e2 (Ins.self B2) (g := (mkF m 6 #[] [(.ref b2)])) rfl rfl (hb hby d2_6)
  refine Gl.of st3 ?_
  show Gl p e below _ (T3.setTop (mkF m 9 #[] [(.ref b2)]))
  exact Gl.retR X3 hx hlk hret rfl rfl (hb hby d2_9) e3 (⟨_, rfl, A2, E2, rfl⟩) (by decide) (by decide)
theorem ef_2 (m : MethodId) (x0 : Int32) : entryFrame m #[(.int x0)] 5 = mkF m 0 #[.val (.int x0), .unset, .unset, .unset, .unset] [] := by first | (simp [entryFrame, mkF, argsToLocals, Value.category, maxLocals]; done) | rfl
theorem d1_0 : decode prog_10_method_6_code 0 = .ok (.invokestatic 61, 3) := by decide +kernel
theorem pd_0 : parseMethodDescriptor "()[Lcom/example/jobd/jobd/http/ErrorCode;" = some ⟨[], some (.array (.object "com/example/jobd/jobd/http/ErrorCode"))⟩ := by decide +kernel
theorem w5 {Z : State} {a0 : Array Value} (hw : ∀ d ∈ tables_1, d.before a0 Z = true) : (Jvm.Cond.methodLink "com/example/jobd/jobd/http/ErrorCode" (61 : Nat) ({ cls := "com/example/jobd/jobd/http/ErrorCode", name := "values", desc := "()[Lcom/example/jobd/jobd/http/ErrorCode;" } : Jvm.MethodName)).before a0 Z = true := hw _ (List.mem_of_getElem? (i := 5) rfl)
theorem w6 {Z : State} {a0 : Array Value} (hw : ∀ d ∈ tables_1, d.before a0 Z = true) : (Jvm.Cond.static ({ cls := "com/example/jobd/jobd/http/ErrorCode", name := "values", desc := "()[Lcom/example/jobd/jobd/http/ErrorCode;" } : Jvm.MethodName)).before a0 Z = true := hw _ (List.mem_of_getElem? (i := 6) rfl)
theorem w3 {Z : State} {a0 : Array Value} (hw : ∀ d ∈ tables_1, d.before a0 Z = true) : (Jvm.Cond.initialized "com/example/jobd/jobd/http/ErrorCode").before a0 Z = true := hw _ (List.mem_of_getElem? (i := 3) rfl)
theorem w7 {Z : State} {a0 : Array Value} (hw : ∀ d ∈ tables_1, d.before a0 Z = true) : (Jvm.Cond.code ({ cls := "com/example/jobd/jobd/http/ErrorCode", name := "values", desc := "()[Lcom/example/jobd/jobd/http/ErrorCode;" } : Jvm.MethodName) prog_10_method_1_code (0 : Nat) (Option.some (Jvm.ClassFile.FieldType.array (Jvm.ClassFile.FieldType.object "com/example/jobd/jobd/http/ErrorCode")))).before a0 Z = true := hw _ (List.mem_of_getElem? (i := 7) rfl)
theorem d1_3 : decode prog_10_method_6_code 3 = .ok (.astore_n 1, 1) := by decide +kernel
theorem d1_4 : decode prog_10_method_6_code 4 = .ok (.aload_n 1, 1) := by decide +kernel
theorem d1_5 : decode prog_10_method_6_code 5 = .ok (.arraylength, 1) := by decide +kernel
theorem d1_6 : decode prog_10_method_6_code 6 = .ok (.istore_n 2, 1) := by decide +kernel
theorem d1_7 : decode prog_10_method_6_code 7 = .ok (.iconst 0, 1) := by decide +kernel
theorem d1_8 : decode prog_10_method_6_code 8 = .ok (.istore_n 3, 1) := by decide +kernel
theorem d1_9 : decode prog_10_method_6_code 9 = .ok (.iload_n 3, 1) := by decide +kernel
theorem d1_10 : decode prog_10_method_6_code 10 = .ok (.iload_n 2, 1) := by decide +kernel
theorem d1_11 : decode prog_10_method_6_code 11 = .ok (.if_icmp .ge 26, 3) := by decide +kernel
theorem d1_14 : decode prog_10_method_6_code 14 = .ok (.aload_n 1, 1) := by decide +kernel
theorem d1_15 : decode prog_10_method_6_code 15 = .ok (.iload_n 3, 1) := by decide +kernel
theorem d1_16 : decode prog_10_method_6_code 16 = .ok (.aaload, 1) := by decide +kernel
theorem d1_17 : decode prog_10_method_6_code 17 = .ok (.astore 4, 2) := by decide +kernel
theorem d1_19 : decode prog_10_method_6_code 19 = .ok (.aload 4, 2) := by decide +kernel
theorem d1_21 : decode prog_10_method_6_code 21 = .ok (.getfield 41, 3) := by decide +kernel
theorem w26 {Z : State} {a0 : Array Value} (hw : ∀ d ∈ tables_1, d.before a0 Z = true) : (Jvm.Cond.fieldLink "com/example/jobd/jobd/http/ErrorCode" (41 : Nat) "com/example/jobd/jobd/http/ErrorCode" "status" "I").before a0 Z = true := hw _ (List.mem_of_getElem? (i := 26) rfl)
theorem d1_24 : decode prog_10_method_6_code 24 = .ok (.iload_n 0, 1) := by decide +kernel
theorem d1_25 : decode prog_10_method_6_code 25 = .ok (.if_icmp .ne 6, 3) := by decide +kernel
theorem d1_28 : decode prog_10_method_6_code 28 = .ok (.aload 4, 2) := by decide +kernel
theorem d1_30 : decode prog_10_method_6_code 30 = .ok (.areturn, 1) := by decide +kernel
theorem d1_31 : decode prog_10_method_6_code 31 = .ok (.iinc 3 1, 3) := by decide +kernel
theorem d1_34 : decode prog_10_method_6_code 34 = .ok (.goto (-25), 3) := by decide +kernel
theorem d1_37 : decode prog_10_method_6_code 37 = .ok (.iload_n 0, 1) := by decide +kernel
theorem d1_38 : decode prog_10_method_6_code 38 = .ok (.sipush 400, 3) := by decide +kernel
theorem d1_41 : decode prog_10_method_6_code 41 = .ok (.if_icmp .lt 16, 3) := by decide +kernel
theorem d1_57 : decode prog_10_method_6_code 57 = .ok (.getstatic 19, 3) := by decide +kernel
theorem w28 {Z : State} {a0 : Array Value} (hw : ∀ d ∈ tables_1, d.before a0 Z = true) : (Jvm.Cond.fieldLink "com/example/jobd/jobd/http/ErrorCode" (19 : Nat) "com/example/jobd/jobd/http/ErrorCode" "INTERNAL_ERROR" "Lcom/example/jobd/jobd/http/ErrorCode;").before a0 Z = true := hw _ (List.mem_of_getElem? (i := 28) rfl)
theorem d1_60 : decode prog_10_method_6_code 60 = .ok (.areturn, 1) := by decide +kernel
theorem d1_44 : decode prog_10_method_6_code 44 = .ok (.iload_n 0, 1) := by decide +kernel
theorem d1_45 : decode prog_10_method_6_code 45 = .ok (.sipush 500, 3) := by decide +kernel
theorem d1_48 : decode prog_10_method_6_code 48 = .ok (.if_icmp .ge 9, 3) := by decide +kernel
theorem d1_51 : decode prog_10_method_6_code 51 = .ok (.getstatic 3, 3) := by decide +kernel
theorem w36 {Z : State} {a0 : Array Value} (hw : ∀ d ∈ tables_1, d.before a0 Z = true) : (Jvm.Cond.fieldLink "com/example/jobd/jobd/http/ErrorCode" (3 : Nat) "com/example/jobd/jobd/http/ErrorCode" "BAD_REQUEST" "Lcom/example/jobd/jobd/http/ErrorCode;").before a0 Z = true := hw _ (List.mem_of_getElem? (i := 36) rfl)
theorem d1_54 : decode prog_10_method_6_code 54 = .ok (.goto 6, 3) := by decide +kernel
set_option maxRecDepth 65536 in
set_option maxHeartbeats 40000000 in
theorem rm2 (l : Launch) (Z : State) (a0 : Array Value) (hw : ∀ d ∈ tables_1, d.before a0 Z = true) (h0 : Heap) (p1 : Int32) (ec0 ec1 ec2 ec3 ec4 ec5 : Addr) (ac : Addr) (clc : Cell) (n0 : Nat) (Sv : Sta Z Z.heap "com/example/jobd/jobd/http/ErrorCode" "$VALUES" "[Lcom/example/jobd/jobd/http/ErrorCode;" (.ref ac)) (Av : Arr Z Z.heap ac clc (.object "com/example/jobd/jobd/http/ErrorCode")) (Ev : Exa Z Z.heap ac "[Lcom/example/jobd/jobd/http/ErrorCode;") (Fv : FitC Z clc) (zv : clc.slots.size = (6 : Int32).toNatClampNeg) (S0 : Sta Z Z.heap "com/example/jobd/jobd/http/ErrorCode" "BAD_REQUEST" "Lcom/example/jobd/jobd/http/ErrorCode;" (.ref ec0)) (S1 : Sta Z Z.heap "com/example/jobd/jobd/http/ErrorCode" "NOT_FOUND" "Lcom/example/jobd/jobd/http/ErrorCode;" (.ref ec1)) (S2 : Sta Z Z.heap "com/example/jobd/jobd/http/ErrorCode" "METHOD_NOT_ALLOWED" "Lcom/example/jobd/jobd/http/ErrorCode;" (.ref ec2)) (S3 : Sta Z Z.heap "com/example/jobd/jobd/http/ErrorCode" "CONFLICT" "Lcom/example/jobd/jobd/http/ErrorCode;" (.ref ec3)) (S4 : Sta Z Z.heap "com/example/jobd/jobd/http/ErrorCode" "PAYLOAD_TOO_LARGE" "Lcom/example/jobd/jobd/http/ErrorCode;" (.ref ec4)) (S5 : Sta Z Z.heap "com/example/jobd/jobd/http/ErrorCode" "INTERNAL_ERROR" "Lcom/example/jobd/jobd/http/ErrorCode;" (.ref ec5)) (F0 : Fld Z Z.heap ec0 "com/example/jobd/jobd/http/ErrorCode" "status" "I" (.int (400 : Int32))) (F1 : Fld Z Z.heap ec1 "com/example/jobd/jobd/http/ErrorCode" "status" "I" (.int (404 : Int32))) (F2 : Fld Z Z.heap ec2 "com/example/jobd/jobd/http/ErrorCode" "status" "I" (.int (405 : Int32))) (F3 : Fld Z Z.heap ec3 "com/example/jobd/jobd/http/ErrorCode" "status" "I" (.int (409 : Int32))) (F4 : Fld Z Z.heap ec4 "com/example/jobd/jobd/http/ErrorCode" "status" "I" (.int (413 : Int32))) (F5 : Fld Z Z.heap ec5 "com/example/jobd/jobd/http/ErrorCode" "status" "I" (.int (500 : Int32))) (hv0 : clc.slots[0]? = some (.ref ec0)) (hv1 : clc.slots[1]? = some (.ref ec1)) (hv2 : clc.slots[2]? = some (.ref ec2)) (hv3 : clc.slots[3]? = some (.ref ec3)) (hv4 : clc.slots[4]? = some (.ref ec4)) (hv5 : clc.slots[5]? = some (.ref ec5)) (O0 : Old Z n0 h0) : Con l Z (⟨"com/example/jobd/jobd/http/ErrorCode", "forStatus", "(I)Lcom/example/jobd/jobd/http/ErrorCode;"⟩ : MethodName) prog_10_method_6_code 5 (some (.object "com/example/jobd/jobd/http/ErrorCode")) [] ({ frames := 2, cells := 1, slots := 6, locals := 25 } : Room) 1 6 #[(.int p1)] h0 (fun v h L => v = some (.ref (own_for ec0 ec1 ec2 ec3 ec4 ec5 p1)) ∧ Ext h0 h ∧ L = []) := by
  refine Con.intro (plainFor_of_name pn_0) ?_
  intro p e s m below meth c s₁ X0 hx hby hml hZ hown hnm hret hlk e0 hs0
  refine Gl.of (fun _ k => castTop (ef_2 m p1) k) ?_
  have f0 := F0.ext O0.2
  have f1 := F1.ext O0.2
  have f2 := F2.ext O0.2
  have f3 := F3.ext O0.2
  have f4 := F4.ext O0.2
  have f5 := F5.ext O0.2
  show Gl p e below _ (s₁.setTop (mkF m 0 #[.val (.int p1), .unset, .unset, .unset, .unset] []))
  refine Gl.callS X0 hx hZ (y := (⟨"com/example/jobd/jobd/http/ErrorCode", "values", "()[Lcom/example/jobd/jobd/http/ErrorCode;"⟩ : MethodName)) hown (w5 hw) (w6 hw) (w3 hw) (w7 hw) (desc_ne (by decide)) (rm := { frames := 1, cells := 1, slots := 6, locals := 14 }) (argsL := []) (rest := []) (rm1 l Z a0 hw _ ac clc n0 Sv Av Ev Fv zv O0) 0 (by decide) (by decide) (by decide) (by decide) e0 (pc := 0) (Ls := #[.val (.int p1), .unset, .unset, .unset, .unset]) (st := []) (by rw [hml]; rfl) pd_0 rfl rfl (Nat.le_of_eq rfl) (hb hby d1_0) ?_
  intro v1 T1 L1 X1 hQ1
  obtain ⟨b1, rfl, Ar1, E1, rfl⟩ := hQ1
  have fc2 := f0.ext E1
  have fc3 := f1.ext E1
  have fc4 := f2.ext E1
  have fc5 := f3.ext E1
  have fc6 := f4.ext E1
  have fc7 := f5.ext E1
  have O1 := O0.ext E1
  show Gl p e below _ (T1.setTop (mkF m 3 #[.val (.int p1), .unset, .unset, .unset, .unset] [(.ref b1)]))
  refine Gl.of (fun _ k => XS.astoreN X1.here hx rfl (hb hby d1_3) rfl rfl (l' := #[.val (.int p1), .val (.ref b1), .unset, .unset, .unset]) rfl k) ?_
  show Gl p e below _ (T1.setTop (mkF m 4 #[.val (.int p1), .val (.ref b1), .unset, .unset, .unset] []))
  refine Gl.of (fun _ k => XS.aloadN X1.here hx rfl (hb hby d1_4) rfl rfl k) ?_
  show Gl p e below _ (T1.setTop (mkF m 5 #[.val (.int p1), .val (.ref b1), .unset, .unset, .unset] [(.ref b1)]))
  refine Gl.of (fun _ k => X1.arraylength hx (Ar1).1 (State.isArrayOf_alike hZ.alike (Ar1).2.1) (g := (mkF m 5 #[.val (.int p1), .val (.ref b1), .unset, .unset, .unset] [(.ref b1)])) rfl rfl (hb hby d1_5) _ k) ?_
  rw [len_of (show (cloneOf clc).slots.size = (6 : Int32).toNatClampNeg from zv) (by decide)]
  show Gl p e below _ (T1.setTop (mkF m 6 #[.val (.int p1), .val (.ref b1), .unset, .unset, .unset] [(.int (6 : Int32))]))
  refine Gl.of (fun _ k => XS.istoreN X1.here hx rfl (hb hby d1_6) rfl (l' := #[.val (.int p1), .val (.ref b1), .val (.int (6 : Int32)), .unset, .unset]) rfl k) ?_
  show Gl p e below _ (T1.setTop (mkF m 7 #[.val (.int p1), .val (.ref b1), .val (.int (6 : Int32)), .unset, .unset] []))
  refine Gl.of (fun _ k => XS.iconst X1.here hx rfl (hb hby d1_7) k) ?_
  show Gl p e below _ (T1.setTop (mkF m 8 #[.val (.int p1), .val (.ref b1), .val (.int (6 : Int32)), .unset, .unset] [(.int (0 : Int32))]))
  refine Gl.of (fun _ k => XS.istoreN X1.here hx rfl (hb hby d1_8) rfl (l' := #[.val (.int p1), .val (.ref b1), .val (.int (6 : Int32)), .val (.int (0 : Int32)), .unset]) rfl k) ?_
  show Gl p e below _ (T1.setTop (mkF m 9 #[.val (.int p1), .val (.ref b1), .val (.int (6 : Int32)), .val (.int (0 : Int32)), .unset] []))
  refine Gl.of (fun _ k => XS.iloadN X1.here hx rfl (hb hby d1_9) rfl k) ?_
  show Gl p e below _ (T1.setTop (mkF m 10 #[.val (.int p1), .val (.ref b1), .val (.int (6 : Int32)), .val (.int (0 : Int32)), .unset] [(.int (0 : Int32))]))
  refine Gl.of (fun _ k => XS.iloadN X1.here hx rfl (hb hby d1_10) rfl k) ?_
  show Gl p e below _ (T1.setTop (mkF m 11 #[.val (.int p1), .val (.ref b1), .val (.int (6 : Int32)), .val (.int (0 : Int32)), .unset] [(.int (6 : Int32)), (.int (0 : Int32))]))
  refine Gl.of (fun _ k => XS.icmpNo X1.here hx rfl (hb hby d1_11) rfl (tlt (by decide : (0 : Int32) < (6 : Int32))).2.1 k) ?_
  show Gl p e below _ (T1.setTop (mkF m 14 #[.val (.int p1), .val (.ref b1), .val (.int (6 : Int32)), .val (.int (0 : Int32)), .unset] []))
  refine Gl.of (fun _ k => XS.aloadN X1.here hx rfl (hb hby d1_14) rfl rfl k) ?_
  show Gl p e below _ (T1.setTop (mkF m 15 #[.val (.int p1), .val (.ref b1), .val (.int (6 : Int32)), .val (.int (0 : Int32)), .unset] [(.ref b1)]))
  refine Gl.of (fun _ k => XS.iloadN X1.here hx rfl (hb hby d1_15) rfl k) ?_
  show Gl p e below _ (T1.setTop (mkF m 16 #[.val (.int p1), .val (.ref b1), .val (.int (6 : Int32)), .val (.int (0 : Int32)), .unset] [(.int (0 : Int32)), (.ref b1)]))
  refine Gl.of (fun _ k => X1.aaload hx (j := (0 : Int32)) (v := (.ref ec0)) (Ar1).1 (State.isArrayOf_alike hZ.alike (Ar1).2.1) rfl (Ar1).2.2 (inb_of (c := cloneOf clc) zv ⟨by decide, by decide⟩) (show (cloneOf clc).slots[((0 : Int32)).toNatClampNeg]? = some (.ref ec0) from hv0) (g := (mkF m 16 #[.val (.int p1), .val (.ref b1), .val (.int (6 : Int32)), .val (.int (0 : Int32)), .unset] [(.int (0 : Int32)), (.ref b1)])) rfl rfl (hb hby d1_16) _ k) ?_
  show Gl p e below _ (T1.setTop (mkF m 17 #[.val (.int p1), .val (.ref b1), .val (.int (6 : Int32)), .val (.int (0 : Int32)), .unset] [(.ref ec0)]))
  refine Gl.of (fun _ k => XS.astore X1.here hx rfl (hb hby d1_17) rfl rfl (l' := #[.val (.int p1), .val (.ref b1), .val (.int (6 : Int32)), .val (.int (0 : Int32)), .val (.ref ec0)]) rfl k) ?_
  show Gl p e below _ (T1.setTop (mkF m 19 #[.val (.int p1), .val (.ref b1), .val (.int (6 : Int32)), .val (.int (0 : Int32)), .val (.ref ec0)] []))
  refine Gl.of (fun _ k => XS.aload X1.here hx rfl (hb hby d1_19) rfl rfl k) ?_
  show Gl p e below _ (T1.setTop (mkF m 21 #[.val (.int p1), .val (.ref b1), .val (.int (6 : Int32)), .val (.int (0 : Int32)), .val (.ref ec0)] [(.ref ec0)]))
  obtain ⟨T8, X8, e8, st8⟩ := getF X1 hx hZ hown (host := "") (Or.inl (w26 hw)) Via.refl rfl fc2 (g := (mkF m 21 #[.val (.int p1), .val (.ref b1), .val (.int (6 : Int32)), .val (.int (0 : Int32)), .val (.ref ec0)] [(.ref ec0)])) rfl rfl (hb hby d1_21)
  refine Gl.of st8 ?_
  show Gl p e below _ (T8.setTop (mkF m 24 #[.val (.int p1), .val (.ref b1), .val (.int (6 : Int32)), .val (.int (0 : Int32)), .val (.ref ec0)] [(.int (400 : Int32))]))
  refine Gl.of (fun _ k => XS.iloadN X8.here hx rfl (hb hby d1_24) rfl k) ?_
  show Gl p e below _ (T8.setTop (mkF m 25 #[.val (.int p1), .val (.ref b1), .val (.int (6 : Int32)), .val (.int (0 : Int32)), .val (.ref ec0)] [(.int p1), (.int (400 : Int32))]))
  by_cases hc25_9 : (400 : Int32) = p1
  · refine Gl.of (fun _ k => XS.icmpNo X8.here hx rfl (hb hby d1_25) rfl (teq hc25_9).2 k) ?_
    show Gl p e below _ (T8.setTop (mkF m 28 #[.val (.int p1), .val (.ref b1), .val (.int (6 : Int32)), .val (.int (0 : Int32)), .val (.ref ec0)] []))
    refine Gl.of (fun _ k => XS.aload X8.here hx rfl (hb hby d1_28) rfl rfl k) ?_
    show Gl p e below _ (T8.setTop (mkF m 30 #[.val (.int p1), .val (.ref b1), .val (.int (6 : Int32)), .val (.int (0 : Int32)), .val (.ref ec0)] [(.ref ec0)]))
    exact Gl.retR X8 hx hlk hret rfl rfl (hb hby d1_30) e8 (⟨by unfold own_for; rw [if_pos hc25_9], E1, rfl⟩) (by decide) (by decide)
  · refine Gl.of (fun _ k => XS.icmpYes X8.here hx rfl (pc0 := 25) (pc' := 31) rfl (hb hby d1_25) rfl (feq hc25_9).2 (by decide) (by decide) k) ?_
    show Gl p e below _ (T8.setTop (mkF m 31 #[.val (.int p1), .val (.ref b1), .val (.int (6 : Int32)), .val (.int (0 : Int32)), .val (.ref ec0)] []))
    refine Gl.of (fun _ k => XS.iinc X8.here hx rfl (hb hby d1_31) rfl (l' := #[.val (.int p1), .val (.ref b1), .val (.int (6 : Int32)), .val (.int (1 : Int32)), .val (.ref ec0)]) rfl k) ?_
    show Gl p e below _ (T8.setTop (mkF m 34 #[.val (.int p1), .val (.ref b1), .val (.int (6 : Int32)), .val (.int (1 : Int32)), .val (.ref ec0)] []))
    refine Gl.of (fun _ k => XS.goto X8.here hx rfl (pc0 := 34) (pc' := 9) rfl (hb hby d1_34) (by decide) (by decide) k) ?_
    show Gl p e below _ (T8.setTop (mkF m 9 #[.val (.int p1), .val (.ref b1), .val (.int (6 : Int32)), .val (.int (1 : Int32)), .val (.ref ec0)] []))
    refine Gl.of (fun _ k => XS.iloadN X8.here hx rfl (hb hby d1_9) rfl k) ?_
    show Gl p e below _ (T8.setTop (mkF m 10 #[.val (.int p1), .val (.ref b1), .val (.int (6 : Int32)), .val (.int (1 : Int32)), .val (.ref ec0)] [(.int (1 : Int32))]))
    refine Gl.of (fun _ k => XS.iloadN X8.here hx rfl (hb hby d1_10) rfl k) ?_
    show Gl p e below _ (T8.setTop (mkF m 11 #[.val (.int p1), .val (.ref b1), .val (.int (6 : Int32)), .val (.int (1 : Int32)), .val (.ref ec0)] [(.int (6 : Int32)), (.int (1 : Int32))]))
    refine Gl.of (fun _ k => XS.icmpNo X8.here hx rfl (hb hby d1_11) rfl (tlt (by decide : (1 : Int32) < (6 : Int32))).2.1 k) ?_
    show Gl p e below _ (T8.setTop (mkF m 14 #[.val (.int p1), .val (.ref b1), .val (.int (6 : Int32)), .val (.int (1 : Int32)), .val (.ref ec0)] []))
    refine Gl.of (fun _ k => XS.aloadN X8.here hx rfl (hb hby d1_14) rfl rfl k) ?_
    show Gl p e below _ (T8.setTop (mkF m 15 #[.val (.int p1), .val (.ref b1), .val (.int (6 : Int32)), .val (.int (1 : Int32)), .val (.ref ec0)] [(.ref b1)]))
    refine Gl.of (fun _ k => XS.iloadN X8.here hx rfl (hb hby d1_15) rfl k) ?_
    show Gl p e below _ (T8.setTop (mkF m 16 #[.val (.int p1), .val (.ref b1), .val (.int (6 : Int32)), .val (.int (1 : Int32)), .val (.ref ec0)] [(.int (1 : Int32)), (.ref b1)]))
    refine Gl.of (fun _ k => X8.aaload hx (j := (1 : Int32)) (v := (.ref ec1)) (by rw [e8]; exact (Ar1).1) (State.isArrayOf_alike hZ.alike (Ar1).2.1) rfl (Ar1).2.2 (inb_of (c := cloneOf clc) zv ⟨by decide, by decide⟩) (show (cloneOf clc).slots[((1 : Int32)).toNatClampNeg]? = some (.ref ec1) from hv1) (g := (mkF m 16 #[.val (.int p1), .val (.ref b1), .val (.int (6 : Int32)), .val (.int (1 : Int32)), .val (.ref ec0)] [(.int (1 : Int32)), (.ref b1)])) rfl rfl (hb hby d1_16) _ k) ?_
    show Gl p e below _ (T8.setTop (mkF m 17 #[.val (.int p1), .val (.ref b1), .val (.int (6 : Int32)), .val (.int (1 : Int32)), .val (.ref ec0)] [(.ref ec1)]))
    refine Gl.of (fun _ k => XS.astore X8.here hx rfl (hb hby d1_17) rfl rfl (l' := #[.val (.int p1), .val (.ref b1), .val (.int (6 : Int32)), .val (.int (1 : Int32)), .val (.ref ec1)]) rfl k) ?_
    show Gl p e below _ (T8.setTop (mkF m 19 #[.val (.int p1), .val (.ref b1), .val (.int (6 : Int32)), .val (.int (1 : Int32)), .val (.ref ec1)] []))
    refine Gl.of (fun _ k => XS.aload X8.here hx rfl (hb hby d1_19) rfl rfl k) ?_
    show Gl p e below _ (T8.setTop (mkF m 21 #[.val (.int p1), .val (.ref b1), .val (.int (6 : Int32)), .val (.int (1 : Int32)), .val (.ref ec1)] [(.ref ec1)]))
    obtain ⟨T10, X10, e10, st10⟩ := getF X8 hx hZ hown (host := "") (Or.inl (w26 hw)) Via.refl e8 fc3 (g := (mkF m 21 #[.val (.int p1), .val (.ref b1), .val (.int (6 : Int32)), .val (.int (1 : Int32)), .val (.ref ec1)] [(.ref ec1)])) rfl rfl (hb hby d1_21)
    refine Gl.of st10 ?_
    show Gl p e below _ (T10.setTop (mkF m 24 #[.val (.int p1), .val (.ref b1), .val (.int (6 : Int32)), .val (.int (1 : Int32)), .val (.ref ec1)] [(.int (404 : Int32))]))
    refine Gl.of (fun _ k => XS.iloadN X10.here hx rfl (hb hby d1_24) rfl k) ?_
    show Gl p e below _ (T10.setTop (mkF m 25 #[.val (.int p1), .val (.ref b1), .val (.int (6 : Int32)), .val (.int (1 : Int32)), .val (.ref ec1)] [(.int p1), (.int (404 : Int32))]))
    by_cases hc25_11 : (404 : Int32) = p1
    · refine Gl.of (fun _ k => XS.icmpNo X10.here hx rfl (hb hby d1_25) rfl (teq hc25_11).2 k) ?_
      show Gl p e below _ (T10.setTop (mkF m 28 #[.val (.int p1), .val (.ref b1), .val (.int (6 : Int32)), .val (.int (1 : Int32)), .val (.ref ec1)] []))
      refine Gl.of (fun _ k => XS.aload X10.here hx rfl (hb hby d1_28) rfl rfl k) ?_
      show Gl p e below _ (T10.setTop (mkF m 30 #[.val (.int p1), .val (.ref b1), .val (.int (6 : Int32)), .val (.int (1 : Int32)), .val (.ref ec1)] [(.ref ec1)]))
      exact Gl.retR X10 hx hlk hret rfl rfl (hb hby d1_30) e10 (⟨by unfold own_for; rw [if_neg hc25_9, if_pos hc25_11], E1, rfl⟩) (by decide) (by decide)
    · refine Gl.of (fun _ k => XS.icmpYes X10.here hx rfl (pc0 := 25) (pc' := 31) rfl (hb hby d1_25) rfl (feq hc25_11).2 (by decide) (by decide) k) ?_
      show Gl p e below _ (T10.setTop (mkF m 31 #[.val (.int p1), .val (.ref b1), .val (.int (6 : Int32)), .val (.int (1 : Int32)), .val (.ref ec1)] []))
      refine Gl.of (fun _ k => XS.iinc X10.here hx rfl (hb hby d1_31) rfl (l' := #[.val (.int p1), .val (.ref b1), .val (.int (6 : Int32)), .val (.int (2 : Int32)), .val (.ref ec1)]) rfl k) ?_
      show Gl p e below _ (T10.setTop (mkF m 34 #[.val (.int p1), .val (.ref b1), .val (.int (6 : Int32)), .val (.int (2 : Int32)), .val (.ref ec1)] []))
      refine Gl.of (fun _ k => XS.goto X10.here hx rfl (pc0 := 34) (pc' := 9) rfl (hb hby d1_34) (by decide) (by decide) k) ?_
      show Gl p e below _ (T10.setTop (mkF m 9 #[.val (.int p1), .val (.ref b1), .val (.int (6 : Int32)), .val (.int (2 : Int32)), .val (.ref ec1)] []))
      refine Gl.of (fun _ k => XS.iloadN X10.here hx rfl (hb hby d1_9) rfl k) ?_
      show Gl p e below _ (T10.setTop (mkF m 10 #[.val (.int p1), .val (.ref b1), .val (.int (6 : Int32)), .val (.int (2 : Int32)), .val (.ref ec1)] [(.int (2 : Int32))]))
      refine Gl.of (fun _ k => XS.iloadN X10.here hx rfl (hb hby d1_10) rfl k) ?_
      show Gl p e below _ (T10.setTop (mkF m 11 #[.val (.int p1), .val (.ref b1), .val (.int (6 : Int32)), .val (.int (2 : Int32)), .val (.ref ec1)] [(.int (6 : Int32)), (.int (2 : Int32))]))
      refine Gl.of (fun _ k => XS.icmpNo X10.here hx rfl (hb hby d1_11) rfl (tlt (by decide : (2 : Int32) < (6 : Int32))).2.1 k) ?_
      show Gl p e below _ (T10.setTop (mkF m 14 #[.val (.int p1), .val (.ref b1), .val (.int (6 : Int32)), .val (.int (2 : Int32)), .val (.ref ec1)] []))
      refine Gl.of (fun _ k => XS.aloadN X10.here hx rfl (hb hby d1_14) rfl rfl k) ?_
      show Gl p e below _ (T10.setTop (mkF m 15 #[.val (.int p1), .val (.ref b1), .val (.int (6 : Int32)), .val (.int (2 : Int32)), .val (.ref ec1)] [(.ref b1)]))
      refine Gl.of (fun _ k => XS.iloadN X10.here hx rfl (hb hby d1_15) rfl k) ?_
      show Gl p e below _ (T10.setTop (mkF m 16 #[.val (.int p1), .val (.ref b1), .val (.int (6 : Int32)), .val (.int (2 : Int32)), .val (.ref ec1)] [(.int (2 : Int32)), (.ref b1)]))
      refine Gl.of (fun _ k => X10.aaload hx (j := (2 : Int32)) (v := (.ref ec2)) (by rw [e10]; exact (Ar1).1) (State.isArrayOf_alike hZ.alike (Ar1).2.1) rfl (Ar1).2.2 (inb_of (c := cloneOf clc) zv ⟨by decide, by decide⟩) (show (cloneOf clc).slots[((2 : Int32)).toNatClampNeg]? = some (.ref ec2) from hv2) (g := (mkF m 16 #[.val (.int p1), .val (.ref b1), .val (.int (6 : Int32)), .val (.int (2 : Int32)), .val (.ref ec1)] [(.int (2 : Int32)), (.ref b1)])) rfl rfl (hb hby d1_16) _ k) ?_
      show Gl p e below _ (T10.setTop (mkF m 17 #[.val (.int p1), .val (.ref b1), .val (.int (6 : Int32)), .val (.int (2 : Int32)), .val (.ref ec1)] [(.ref ec2)]))
      refine Gl.of (fun _ k => XS.astore X10.here hx rfl (hb hby d1_17) rfl rfl (l' := #[.val (.int p1), .val (.ref b1), .val (.int (6 : Int32)), .val (.int (2 : Int32)), .val (.ref ec2)]) rfl k) ?_
      show Gl p e below _ (T10.setTop (mkF m 19 #[.val (.int p1), .val (.ref b1), .val (.int (6 : Int32)), .val (.int (2 : Int32)), .val (.ref ec2)] []))
      refine Gl.of (fun _ k => XS.aload X10.here hx rfl (hb hby d1_19) rfl rfl k) ?_
      show Gl p e below _ (T10.setTop (mkF m 21 #[.val (.int p1), .val (.ref b1), .val (.int (6 : Int32)), .val (.int (2 : Int32)), .val (.ref ec2)] [(.ref ec2)]))
      obtain ⟨T12, X12, e12, st12⟩ := getF X10 hx hZ hown (host := "") (Or.inl (w26 hw)) Via.refl e10 fc4 (g := (mkF m 21 #[.val (.int p1), .val (.ref b1), .val (.int (6 : Int32)), .val (.int (2 : Int32)), .val (.ref ec2)] [(.ref ec2)])) rfl rfl (hb hby d1_21)
      refine Gl.of st12 ?_
      show Gl p e below _ (T12.setTop (mkF m 24 #[.val (.int p1), .val (.ref b1), .val (.int (6 : Int32)), .val (.int (2 : Int32)), .val (.ref ec2)] [(.int (405 : Int32))]))
      refine Gl.of (fun _ k => XS.iloadN X12.here hx rfl (hb hby d1_24) rfl k) ?_
      show Gl p e below _ (T12.setTop (mkF m 25 #[.val (.int p1), .val (.ref b1), .val (.int (6 : Int32)), .val (.int (2 : Int32)), .val (.ref ec2)] [(.int p1), (.int (405 : Int32))]))
      by_cases hc25_13 : (405 : Int32) = p1
      · refine Gl.of (fun _ k => XS.icmpNo X12.here hx rfl (hb hby d1_25) rfl (teq hc25_13).2 k) ?_
        show Gl p e below _ (T12.setTop (mkF m 28 #[.val (.int p1), .val (.ref b1), .val (.int (6 : Int32)), .val (.int (2 : Int32)), .val (.ref ec2)] []))
        refine Gl.of (fun _ k => XS.aload X12.here hx rfl (hb hby d1_28) rfl rfl k) ?_
        show Gl p e below _ (T12.setTop (mkF m 30 #[.val (.int p1), .val (.ref b1), .val (.int (6 : Int32)), .val (.int (2 : Int32)), .val (.ref ec2)] [(.ref ec2)]))
        exact Gl.retR X12 hx hlk hret rfl rfl (hb hby d1_30) e12 (⟨by unfold own_for; rw [if_neg hc25_9, if_neg hc25_11, if_pos hc25_13], E1, rfl⟩) (by decide) (by decide)
      · refine Gl.of (fun _ k => XS.icmpYes X12.here hx rfl (pc0 := 25) (pc' := 31) rfl (hb hby d1_25) rfl (feq hc25_13).2 (by decide) (by decide) k) ?_
        show Gl p e below _ (T12.setTop (mkF m 31 #[.val (.int p1), .val (.ref b1), .val (.int (6 : Int32)), .val (.int (2 : Int32)), .val (.ref ec2)] []))
        refine Gl.of (fun _ k => XS.iinc X12.here hx rfl (hb hby d1_31) rfl (l' := #[.val (.int p1), .val (.ref b1), .val (.int (6 : Int32)), .val (.int (3 : Int32)), .val (.ref ec2)]) rfl k) ?_
        show Gl p e below _ (T12.setTop (mkF m 34 #[.val (.int p1), .val (.ref b1), .val (.int (6 : Int32)), .val (.int (3 : Int32)), .val (.ref ec2)] []))
        refine Gl.of (fun _ k => XS.goto X12.here hx rfl (pc0 := 34) (pc' := 9) rfl (hb hby d1_34) (by decide) (by decide) k) ?_
        show Gl p e below _ (T12.setTop (mkF m 9 #[.val (.int p1), .val (.ref b1), .val (.int (6 : Int32)), .val (.int (3 : Int32)), .val (.ref ec2)] []))
        refine Gl.of (fun _ k => XS.iloadN X12.here hx rfl (hb hby d1_9) rfl k) ?_
        show Gl p e below _ (T12.setTop (mkF m 10 #[.val (.int p1), .val (.ref b1), .val (.int (6 : Int32)), .val (.int (3 : Int32)), .val (.ref ec2)] [(.int (3 : Int32))]))
        refine Gl.of (fun _ k => XS.iloadN X12.here hx rfl (hb hby d1_10) rfl k) ?_
        show Gl p e below _ (T12.setTop (mkF m 11 #[.val (.int p1), .val (.ref b1), .val (.int (6 : Int32)), .val (.int (3 : Int32)), .val (.ref ec2)] [(.int (6 : Int32)), (.int (3 : Int32))]))
        refine Gl.of (fun _ k => XS.icmpNo X12.here hx rfl (hb hby d1_11) rfl (tlt (by decide : (3 : Int32) < (6 : Int32))).2.1 k) ?_
        show Gl p e below _ (T12.setTop (mkF m 14 #[.val (.int p1), .val (.ref b1), .val (.int (6 : Int32)), .val (.int (3 : Int32)), .val (.ref ec2)] []))
        refine Gl.of (fun _ k => XS.aloadN X12.here hx rfl (hb hby d1_14) rfl rfl k) ?_
        show Gl p e below _ (T12.setTop (mkF m 15 #[.val (.int p1), .val (.ref b1), .val (.int (6 : Int32)), .val (.int (3 : Int32)), .val (.ref ec2)] [(.ref b1)]))
        refine Gl.of (fun _ k => XS.iloadN X12.here hx rfl (hb hby d1_15) rfl k) ?_
        show Gl p e below _ (T12.setTop (mkF m 16 #[.val (.int p1), .val (.ref b1), .val (.int (6 : Int32)), .val (.int (3 : Int32)), .val (.ref ec2)] [(.int (3 : Int32)), (.ref b1)]))
        refine Gl.of (fun _ k => X12.aaload hx (j := (3 : Int32)) (v := (.ref ec3)) (by rw [e12]; exact (Ar1).1) (State.isArrayOf_alike hZ.alike (Ar1).2.1) rfl (Ar1).2.2 (inb_of (c := cloneOf clc) zv ⟨by decide, by decide⟩) (show (cloneOf clc).slots[((3 : Int32)).toNatClampNeg]? = some (.ref ec3) from hv3) (g := (mkF m 16 #[.val (.int p1), .val (.ref b1), .val (.int (6 : Int32)), .val (.int (3 : Int32)), .val (.ref ec2)] [(.int (3 : Int32)), (.ref b1)])) rfl rfl (hb hby d1_16) _ k) ?_
        show Gl p e below _ (T12.setTop (mkF m 17 #[.val (.int p1), .val (.ref b1), .val (.int (6 : Int32)), .val (.int (3 : Int32)), .val (.ref ec2)] [(.ref ec3)]))
        refine Gl.of (fun _ k => XS.astore X12.here hx rfl (hb hby d1_17) rfl rfl (l' := #[.val (.int p1), .val (.ref b1), .val (.int (6 : Int32)), .val (.int (3 : Int32)), .val (.ref ec3)]) rfl k) ?_
        show Gl p e below _ (T12.setTop (mkF m 19 #[.val (.int p1), .val (.ref b1), .val (.int (6 : Int32)), .val (.int (3 : Int32)), .val (.ref ec3)] []))
        refine Gl.of (fun _ k => XS.aload X12.here hx rfl (hb hby d1_19) rfl rfl k) ?_
        show Gl p e below _ (T12.setTop (mkF m 21 #[.val (.int p1), .val (.ref b1), .val (.int (6 : Int32)), .val (.int (3 : Int32)), .val (.ref ec3)] [(.ref ec3)]))
        obtain ⟨T14, X14, e14, st14⟩ := getF X12 hx hZ hown (host := "") (Or.inl (w26 hw)) Via.refl e12 fc5 (g := (mkF m 21 #[.val (.int p1), .val (.ref b1), .val (.int (6 : Int32)), .val (.int (3 : Int32)), .val (.ref ec3)] [(.ref ec3)])) rfl rfl (hb hby d1_21)
        refine Gl.of st14 ?_
        show Gl p e below _ (T14.setTop (mkF m 24 #[.val (.int p1), .val (.ref b1), .val (.int (6 : Int32)), .val (.int (3 : Int32)), .val (.ref ec3)] [(.int (409 : Int32))]))
        refine Gl.of (fun _ k => XS.iloadN X14.here hx rfl (hb hby d1_24) rfl k) ?_
        show Gl p e below _ (T14.setTop (mkF m 25 #[.val (.int p1), .val (.ref b1), .val (.int (6 : Int32)), .val (.int (3 : Int32)), .val (.ref ec3)] [(.int p1), (.int (409 : Int32))]))
        by_cases hc25_15 : (409 : Int32) = p1
        · refine Gl.of (fun _ k => XS.icmpNo X14.here hx rfl (hb hby d1_25) rfl (teq hc25_15).2 k) ?_
          show Gl p e below _ (T14.setTop (mkF m 28 #[.val (.int p1), .val (.ref b1), .val (.int (6 : Int32)), .val (.int (3 : Int32)), .val (.ref ec3)] []))
          refine Gl.of (fun _ k => XS.aload X14.here hx rfl (hb hby d1_28) rfl rfl k) ?_
          show Gl p e below _ (T14.setTop (mkF m 30 #[.val (.int p1), .val (.ref b1), .val (.int (6 : Int32)), .val (.int (3 : Int32)), .val (.ref ec3)] [(.ref ec3)]))
          exact Gl.retR X14 hx hlk hret rfl rfl (hb hby d1_30) e14 (⟨by unfold own_for; rw [if_neg hc25_9, if_neg hc25_11, if_neg hc25_13, if_pos hc25_15], E1, rfl⟩) (by decide) (by decide)
        · refine Gl.of (fun _ k => XS.icmpYes X14.here hx rfl (pc0 := 25) (pc' := 31) rfl (hb hby d1_25) rfl (feq hc25_15).2 (by decide) (by decide) k) ?_
          show Gl p e below _ (T14.setTop (mkF m 31 #[.val (.int p1), .val (.ref b1), .val (.int (6 : Int32)), .val (.int (3 : Int32)), .val (.ref ec3)] []))
          refine Gl.of (fun _ k => XS.iinc X14.here hx rfl (hb hby d1_31) rfl (l' := #[.val (.int p1), .val (.ref b1), .val (.int (6 : Int32)), .val (.int (4 : Int32)), .val (.ref ec3)]) rfl k) ?_
          show Gl p e below _ (T14.setTop (mkF m 34 #[.val (.int p1), .val (.ref b1), .val (.int (6 : Int32)), .val (.int (4 : Int32)), .val (.ref ec3)] []))
          refine Gl.of (fun _ k => XS.goto X14.here hx rfl (pc0 := 34) (pc' := 9) rfl (hb hby d1_34) (by decide) (by decide) k) ?_
          show Gl p e below _ (T14.setTop (mkF m 9 #[.val (.int p1), .val (.ref b1), .val (.int (6 : Int32)), .val (.int (4 : Int32)), .val (.ref ec3)] []))
          refine Gl.of (fun _ k => XS.iloadN X14.here hx rfl (hb hby d1_9) rfl k) ?_
          show Gl p e below _ (T14.setTop (mkF m 10 #[.val (.int p1), .val (.ref b1), .val (.int (6 : Int32)), .val (.int (4 : Int32)), .val (.ref ec3)] [(.int (4 : Int32))]))
          refine Gl.of (fun _ k => XS.iloadN X14.here hx rfl (hb hby d1_10) rfl k) ?_
          show Gl p e below _ (T14.setTop (mkF m 11 #[.val (.int p1), .val (.ref b1), .val (.int (6 : Int32)), .val (.int (4 : Int32)), .val (.ref ec3)] [(.int (6 : Int32)), (.int (4 : Int32))]))
          refine Gl.of (fun _ k => XS.icmpNo X14.here hx rfl (hb hby d1_11) rfl (tlt (by decide : (4 : Int32) < (6 : Int32))).2.1 k) ?_
          show Gl p e below _ (T14.setTop (mkF m 14 #[.val (.int p1), .val (.ref b1), .val (.int (6 : Int32)), .val (.int (4 : Int32)), .val (.ref ec3)] []))
          refine Gl.of (fun _ k => XS.aloadN X14.here hx rfl (hb hby d1_14) rfl rfl k) ?_
          show Gl p e below _ (T14.setTop (mkF m 15 #[.val (.int p1), .val (.ref b1), .val (.int (6 : Int32)), .val (.int (4 : Int32)), .val (.ref ec3)] [(.ref b1)]))
          refine Gl.of (fun _ k => XS.iloadN X14.here hx rfl (hb hby d1_15) rfl k) ?_
          show Gl p e below _ (T14.setTop (mkF m 16 #[.val (.int p1), .val (.ref b1), .val (.int (6 : Int32)), .val (.int (4 : Int32)), .val (.ref ec3)] [(.int (4 : Int32)), (.ref b1)]))
          refine Gl.of (fun _ k => X14.aaload hx (j := (4 : Int32)) (v := (.ref ec4)) (by rw [e14]; exact (Ar1).1) (State.isArrayOf_alike hZ.alike (Ar1).2.1) rfl (Ar1).2.2 (inb_of (c := cloneOf clc) zv ⟨by decide, by decide⟩) (show (cloneOf clc).slots[((4 : Int32)).toNatClampNeg]? = some (.ref ec4) from hv4) (g := (mkF m 16 #[.val (.int p1), .val (.ref b1), .val (.int (6 : Int32)), .val (.int (4 : Int32)), .val (.ref ec3)] [(.int (4 : Int32)), (.ref b1)])) rfl rfl (hb hby d1_16) _ k) ?_
          show Gl p e below _ (T14.setTop (mkF m 17 #[.val (.int p1), .val (.ref b1), .val (.int (6 : Int32)), .val (.int (4 : Int32)), .val (.ref ec3)] [(.ref ec4)]))
          refine Gl.of (fun _ k => XS.astore X14.here hx rfl (hb hby d1_17) rfl rfl (l' := #[.val (.int p1), .val (.ref b1), .val (.int (6 : Int32)), .val (.int (4 : Int32)), .val (.ref ec4)]) rfl k) ?_
          show Gl p e below _ (T14.setTop (mkF m 19 #[.val (.int p1), .val (.ref b1), .val (.int (6 : Int32)), .val (.int (4 : Int32)), .val (.ref ec4)] []))
          refine Gl.of (fun _ k => XS.aload X14.here hx rfl (hb hby d1_19) rfl rfl k) ?_
          show Gl p e below _ (T14.setTop (mkF m 21 #[.val (.int p1), .val (.ref b1), .val (.int (6 : Int32)), .val (.int (4 : Int32)), .val (.ref ec4)] [(.ref ec4)]))
          obtain ⟨T16, X16, e16, st16⟩ := getF X14 hx hZ hown (host := "") (Or.inl (w26 hw)) Via.refl e14 fc6 (g := (mkF m 21 #[.val (.int p1), .val (.ref b1), .val (.int (6 : Int32)), .val (.int (4 : Int32)), .val (.ref ec4)] [(.ref ec4)])) rfl rfl (hb hby d1_21)
          refine Gl.of st16 ?_
          show Gl p e below _ (T16.setTop (mkF m 24 #[.val (.int p1), .val (.ref b1), .val (.int (6 : Int32)), .val (.int (4 : Int32)), .val (.ref ec4)] [(.int (413 : Int32))]))
          refine Gl.of (fun _ k => XS.iloadN X16.here hx rfl (hb hby d1_24) rfl k) ?_
          show Gl p e below _ (T16.setTop (mkF m 25 #[.val (.int p1), .val (.ref b1), .val (.int (6 : Int32)), .val (.int (4 : Int32)), .val (.ref ec4)] [(.int p1), (.int (413 : Int32))]))
          by_cases hc25_17 : (413 : Int32) = p1
          · refine Gl.of (fun _ k => XS.icmpNo X16.here hx rfl (hb hby d1_25) rfl (teq hc25_17).2 k) ?_
            show Gl p e below _ (T16.setTop (mkF m 28 #[.val (.int p1), .val (.ref b1), .val (.int (6 : Int32)), .val (.int (4 : Int32)), .val (.ref ec4)] []))
            refine Gl.of (fun _ k => XS.aload X16.here hx rfl (hb hby d1_28) rfl rfl k) ?_
            show Gl p e below _ (T16.setTop (mkF m 30 #[.val (.int p1), .val (.ref b1), .val (.int (6 : Int32)), .val (.int (4 : Int32)), .val (.ref ec4)] [(.ref ec4)]))
            exact Gl.retR X16 hx hlk hret rfl rfl (hb hby d1_30) e16 (⟨by unfold own_for; rw [if_neg hc25_9, if_neg hc25_11, if_neg hc25_13, if_neg hc25_15, if_pos hc25_17], E1, rfl⟩) (by decide) (by decide)
          · refine Gl.of (fun _ k => XS.icmpYes X16.here hx rfl (pc0 := 25) (pc' := 31) rfl (hb hby d1_25) rfl (feq hc25_17).2 (by decide) (by decide) k) ?_
            show Gl p e below _ (T16.setTop (mkF m 31 #[.val (.int p1), .val (.ref b1), .val (.int (6 : Int32)), .val (.int (4 : Int32)), .val (.ref ec4)] []))
            refine Gl.of (fun _ k => XS.iinc X16.here hx rfl (hb hby d1_31) rfl (l' := #[.val (.int p1), .val (.ref b1), .val (.int (6 : Int32)), .val (.int (5 : Int32)), .val (.ref ec4)]) rfl k) ?_
            show Gl p e below _ (T16.setTop (mkF m 34 #[.val (.int p1), .val (.ref b1), .val (.int (6 : Int32)), .val (.int (5 : Int32)), .val (.ref ec4)] []))
            refine Gl.of (fun _ k => XS.goto X16.here hx rfl (pc0 := 34) (pc' := 9) rfl (hb hby d1_34) (by decide) (by decide) k) ?_
            show Gl p e below _ (T16.setTop (mkF m 9 #[.val (.int p1), .val (.ref b1), .val (.int (6 : Int32)), .val (.int (5 : Int32)), .val (.ref ec4)] []))
            refine Gl.of (fun _ k => XS.iloadN X16.here hx rfl (hb hby d1_9) rfl k) ?_
            show Gl p e below _ (T16.setTop (mkF m 10 #[.val (.int p1), .val (.ref b1), .val (.int (6 : Int32)), .val (.int (5 : Int32)), .val (.ref ec4)] [(.int (5 : Int32))]))
            refine Gl.of (fun _ k => XS.iloadN X16.here hx rfl (hb hby d1_10) rfl k) ?_
            show Gl p e below _ (T16.setTop (mkF m 11 #[.val (.int p1), .val (.ref b1), .val (.int (6 : Int32)), .val (.int (5 : Int32)), .val (.ref ec4)] [(.int (6 : Int32)), (.int (5 : Int32))]))
            refine Gl.of (fun _ k => XS.icmpNo X16.here hx rfl (hb hby d1_11) rfl (tlt (by decide : (5 : Int32) < (6 : Int32))).2.1 k) ?_
            show Gl p e below _ (T16.setTop (mkF m 14 #[.val (.int p1), .val (.ref b1), .val (.int (6 : Int32)), .val (.int (5 : Int32)), .val (.ref ec4)] []))
            refine Gl.of (fun _ k => XS.aloadN X16.here hx rfl (hb hby d1_14) rfl rfl k) ?_
            show Gl p e below _ (T16.setTop (mkF m 15 #[.val (.int p1), .val (.ref b1), .val (.int (6 : Int32)), .val (.int (5 : Int32)), .val (.ref ec4)] [(.ref b1)]))
            refine Gl.of (fun _ k => XS.iloadN X16.here hx rfl (hb hby d1_15) rfl k) ?_
            show Gl p e below _ (T16.setTop (mkF m 16 #[.val (.int p1), .val (.ref b1), .val (.int (6 : Int32)), .val (.int (5 : Int32)), .val (.ref ec4)] [(.int (5 : Int32)), (.ref b1)]))
            refine Gl.of (fun _ k => X16.aaload hx (j := (5 : Int32)) (v := (.ref ec5)) (by rw [e16]; exact (Ar1).1) (State.isArrayOf_alike hZ.alike (Ar1).2.1) rfl (Ar1).2.2 (inb_of (c := cloneOf clc) zv ⟨by decide, by decide⟩) (show (cloneOf clc).slots[((5 : Int32)).toNatClampNeg]? = some (.ref ec5) from hv5) (g := (mkF m 16 #[.val (.int p1), .val (.ref b1), .val (.int (6 : Int32)), .val (.int (5 : Int32)), .val (.ref ec4)] [(.int (5 : Int32)), (.ref b1)])) rfl rfl (hb hby d1_16) _ k) ?_
            show Gl p e below _ (T16.setTop (mkF m 17 #[.val (.int p1), .val (.ref b1), .val (.int (6 : Int32)), .val (.int (5 : Int32)), .val (.ref ec4)] [(.ref ec5)]))
            refine Gl.of (fun _ k => XS.astore X16.here hx rfl (hb hby d1_17) rfl rfl (l' := #[.val (.int p1), .val (.ref b1), .val (.int (6 : Int32)), .val (.int (5 : Int32)), .val (.ref ec5)]) rfl k) ?_
            show Gl p e below _ (T16.setTop (mkF m 19 #[.val (.int p1), .val (.ref b1), .val (.int (6 : Int32)), .val (.int (5 : Int32)), .val (.ref ec5)] []))
            refine Gl.of (fun _ k => XS.aload X16.here hx rfl (hb hby d1_19) rfl rfl k) ?_
            show Gl p e below _ (T16.setTop (mkF m 21 #[.val (.int p1), .val (.ref b1), .val (.int (6 : Int32)), .val (.int (5 : Int32)), .val (.ref ec5)] [(.ref ec5)]))
            obtain ⟨T18, X18, e18, st18⟩ := getF X16 hx hZ hown (host := "") (Or.inl (w26 hw)) Via.refl e16 fc7 (g := (mkF m 21 #[.val (.int p1), .val (.ref b1), .val (.int (6 : Int32)), .val (.int (5 : Int32)), .val (.ref ec5)] [(.ref ec5)])) rfl rfl (hb hby d1_21)
            refine Gl.of st18 ?_
            show Gl p e below _ (T18.setTop (mkF m 24 #[.val (.int p1), .val (.ref b1), .val (.int (6 : Int32)), .val (.int (5 : Int32)), .val (.ref ec5)] [(.int (500 : Int32))]))
            refine Gl.of (fun _ k => XS.iloadN X18.here hx rfl (hb hby d1_24) rfl k) ?_
            show Gl p e below _ (T18.setTop (mkF m 25 #[.val (.int p1), .val (.ref b1), .val (.int (6 : Int32)), .val (.int (5 : Int32)), .val (.ref ec5)] [(.int p1), (.int (500 : Int32))]))
            by_cases hc25_19 : (500 : Int32) = p1
            · refine Gl.of (fun _ k => XS.icmpNo X18.here hx rfl (hb hby d1_25) rfl (teq hc25_19).2 k) ?_
              show Gl p e below _ (T18.setTop (mkF m 28 #[.val (.int p1), .val (.ref b1), .val (.int (6 : Int32)), .val (.int (5 : Int32)), .val (.ref ec5)] []))
              refine Gl.of (fun _ k => XS.aload X18.here hx rfl (hb hby d1_28) rfl rfl k) ?_
              show Gl p e below _ (T18.setTop (mkF m 30 #[.val (.int p1), .val (.ref b1), .val (.int (6 : Int32)), .val (.int (5 : Int32)), .val (.ref ec5)] [(.ref ec5)]))
              exact Gl.retR X18 hx hlk hret rfl rfl (hb hby d1_30) e18 (⟨by unfold own_for; rw [if_neg hc25_9, if_neg hc25_11, if_neg hc25_13, if_neg hc25_15, if_neg hc25_17, if_pos hc25_19], E1, rfl⟩) (by decide) (by decide)
            · refine Gl.of (fun _ k => XS.icmpYes X18.here hx rfl (pc0 := 25) (pc' := 31) rfl (hb hby d1_25) rfl (feq hc25_19).2 (by decide) (by decide) k) ?_
              show Gl p e below _ (T18.setTop (mkF m 31 #[.val (.int p1), .val (.ref b1), .val (.int (6 : Int32)), .val (.int (5 : Int32)), .val (.ref ec5)] []))
              refine Gl.of (fun _ k => XS.iinc X18.here hx rfl (hb hby d1_31) rfl (l' := #[.val (.int p1), .val (.ref b1), .val (.int (6 : Int32)), .val (.int (6 : Int32)), .val (.ref ec5)]) rfl k) ?_
              show Gl p e below _ (T18.setTop (mkF m 34 #[.val (.int p1), .val (.ref b1), .val (.int (6 : Int32)), .val (.int (6 : Int32)), .val (.ref ec5)] []))
              refine Gl.of (fun _ k => XS.goto X18.here hx rfl (pc0 := 34) (pc' := 9) rfl (hb hby d1_34) (by decide) (by decide) k) ?_
              show Gl p e below _ (T18.setTop (mkF m 9 #[.val (.int p1), .val (.ref b1), .val (.int (6 : Int32)), .val (.int (6 : Int32)), .val (.ref ec5)] []))
              refine Gl.of (fun _ k => XS.iloadN X18.here hx rfl (hb hby d1_9) rfl k) ?_
              show Gl p e below _ (T18.setTop (mkF m 10 #[.val (.int p1), .val (.ref b1), .val (.int (6 : Int32)), .val (.int (6 : Int32)), .val (.ref ec5)] [(.int (6 : Int32))]))
              refine Gl.of (fun _ k => XS.iloadN X18.here hx rfl (hb hby d1_10) rfl k) ?_
              show Gl p e below _ (T18.setTop (mkF m 11 #[.val (.int p1), .val (.ref b1), .val (.int (6 : Int32)), .val (.int (6 : Int32)), .val (.ref ec5)] [(.int (6 : Int32)), (.int (6 : Int32))]))
              refine Gl.of (fun _ k => XS.icmpYes X18.here hx rfl (pc0 := 11) (pc' := 37) rfl (hb hby d1_11) rfl (flt (by decide : ¬ ((6 : Int32) < (6 : Int32)))).2.1 (by decide) (by decide) k) ?_
              show Gl p e below _ (T18.setTop (mkF m 37 #[.val (.int p1), .val (.ref b1), .val (.int (6 : Int32)), .val (.int (6 : Int32)), .val (.ref ec5)] []))
              refine Gl.of (fun _ k => XS.iloadN X18.here hx rfl (hb hby d1_37) rfl k) ?_
              show Gl p e below _ (T18.setTop (mkF m 38 #[.val (.int p1), .val (.ref b1), .val (.int (6 : Int32)), .val (.int (6 : Int32)), .val (.ref ec5)] [(.int p1)]))
              refine Gl.of (fun _ k => XS.sipush X18.here hx rfl (hb hby d1_38) k) ?_
              show Gl p e below _ (T18.setTop (mkF m 41 #[.val (.int p1), .val (.ref b1), .val (.int (6 : Int32)), .val (.int (6 : Int32)), .val (.ref ec5)] [(.int (400 : Int32)), (.int p1)]))
              by_cases hc41_20 : p1 < (400 : Int32)
              · refine Gl.of (fun _ k => XS.icmpYes X18.here hx rfl (pc0 := 41) (pc' := 57) rfl (hb hby d1_41) rfl (tlt hc41_20).1 (by decide) (by decide) k) ?_
                show Gl p e below _ (T18.setTop (mkF m 57 #[.val (.int p1), .val (.ref b1), .val (.int (6 : Int32)), .val (.int (6 : Int32)), .val (.ref ec5)] []))
                obtain ⟨T21, X21, e21, st21⟩ := getS2 X18 hx hZ hown (host := "") (Or.inl (w28 hw)) Via.refl e18 (S5.ext O1.2) (g := (mkF m 57 #[.val (.int p1), .val (.ref b1), .val (.int (6 : Int32)), .val (.int (6 : Int32)), .val (.ref ec5)] [])) rfl (hb hby d1_57)
                refine Gl.of st21 ?_
                show Gl p e below _ (T21.setTop (mkF m 60 #[.val (.int p1), .val (.ref b1), .val (.int (6 : Int32)), .val (.int (6 : Int32)), .val (.ref ec5)] [(.ref ec5)]))
                exact Gl.retR X21 hx hlk hret rfl rfl (hb hby d1_60) e21 (⟨by unfold own_for; rw [if_neg hc25_9, if_neg hc25_11, if_neg hc25_13, if_neg hc25_15, if_neg hc25_17, if_neg hc25_19, if_pos hc41_20], E1, rfl⟩) (by decide) (by decide)
              · refine Gl.of (fun _ k => XS.icmpNo X18.here hx rfl (hb hby d1_41) rfl (flt hc41_20).1 k) ?_
                show Gl p e below _ (T18.setTop (mkF m 44 #[.val (.int p1), .val (.ref b1), .val (.int (6 : Int32)), .val (.int (6 : Int32)), .val (.ref ec5)] []))
                refine Gl.of (fun _ k => XS.iloadN X18.here hx rfl (hb hby d1_44) rfl k) ?_
                show Gl p e below _ (T18.setTop (mkF m 45 #[.val (.int p1), .val (.ref b1), .val (.int (6 : Int32)), .val (.int (6 : Int32)), .val (.ref ec5)] [(.int p1)]))
                refine Gl.of (fun _ k => XS.sipush X18.here hx rfl (hb hby d1_45) k) ?_
                show Gl p e below _ (T18.setTop (mkF m 48 #[.val (.int p1), .val (.ref b1), .val (.int (6 : Int32)), .val (.int (6 : Int32)), .val (.ref ec5)] [(.int (500 : Int32)), (.int p1)]))
                by_cases hc48_22 : p1 < (500 : Int32)
                · refine Gl.of (fun _ k => XS.icmpNo X18.here hx rfl (hb hby d1_48) rfl (tlt hc48_22).2.1 k) ?_
                  show Gl p e below _ (T18.setTop (mkF m 51 #[.val (.int p1), .val (.ref b1), .val (.int (6 : Int32)), .val (.int (6 : Int32)), .val (.ref ec5)] []))
                  obtain ⟨T23, X23, e23, st23⟩ := getS2 X18 hx hZ hown (host := "") (Or.inl (w36 hw)) Via.refl e18 (S0.ext O1.2) (g := (mkF m 51 #[.val (.int p1), .val (.ref b1), .val (.int (6 : Int32)), .val (.int (6 : Int32)), .val (.ref ec5)] [])) rfl (hb hby d1_51)
                  refine Gl.of st23 ?_
                  show Gl p e below _ (T23.setTop (mkF m 54 #[.val (.int p1), .val (.ref b1), .val (.int (6 : Int32)), .val (.int (6 : Int32)), .val (.ref ec5)] [(.ref ec0)]))
                  refine Gl.of (fun _ k => XS.goto X23.here hx rfl (pc0 := 54) (pc' := 60) rfl (hb hby d1_54) (by decide) (by decide) k) ?_
                  show Gl p e below _ (T23.setTop (mkF m 60 #[.val (.int p1), .val (.ref b1), .val (.int (6 : Int32)), .val (.int (6 : Int32)), .val (.ref ec5)] [(.ref ec0)]))
                  exact Gl.retR X23 hx hlk hret rfl rfl (hb hby d1_60) e23 (⟨by unfold own_for; rw [if_neg hc25_9, if_neg hc25_11, if_neg hc25_13, if_neg hc25_15, if_neg hc25_17, if_neg hc25_19, if_neg hc41_20, if_pos hc48_22], E1, rfl⟩) (by decide) (by decide)
                · refine Gl.of (fun _ k => XS.icmpYes X18.here hx rfl (pc0 := 48) (pc' := 57) rfl (hb hby d1_48) rfl (flt hc48_22).2.1 (by decide) (by decide) k) ?_
                  show Gl p e below _ (T18.setTop (mkF m 57 #[.val (.int p1), .val (.ref b1), .val (.int (6 : Int32)), .val (.int (6 : Int32)), .val (.ref ec5)] []))
                  obtain ⟨T24, X24, e24, st24⟩ := getS2 X18 hx hZ hown (host := "") (Or.inl (w28 hw)) Via.refl e18 (S5.ext O1.2) (g := (mkF m 57 #[.val (.int p1), .val (.ref b1), .val (.int (6 : Int32)), .val (.int (6 : Int32)), .val (.ref ec5)] [])) rfl (hb hby d1_57)
                  refine Gl.of st24 ?_
                  show Gl p e below _ (T24.setTop (mkF m 60 #[.val (.int p1), .val (.ref b1), .val (.int (6 : Int32)), .val (.int (6 : Int32)), .val (.ref ec5)] [(.ref ec5)]))
                  exact Gl.retR X24 hx hlk hret rfl rfl (hb hby d1_60) e24 (⟨by unfold own_for; rw [if_neg hc25_9, if_neg hc25_11, if_neg hc25_13, if_neg hc25_15, if_neg hc25_17, if_neg hc25_19, if_neg hc41_20, if_neg hc48_22], E1, rfl⟩) (by decide) (by decide)
theorem ef_3 (m : MethodId) (x0 : Int32) : entryFrame m #[(.int x0)] 1 = mkF m 0 #[.val (.int x0)] [] := by first | (simp [entryFrame, mkF, argsToLocals, Value.category, maxLocals]; done) | rfl
theorem pn_1 : plainName "com/example/jobd/jobd/http/ErrorCodeForStatusPinLaw" = true := by first | (simp [plainName, overriddenIn]; done) | decide +kernel
theorem d3_0 : decode method_2_code 0 = .ok (.iload_n 0, 1) := by decide +kernel
theorem d3_1 : decode method_2_code 1 = .ok (.sipush 400, 3) := by decide +kernel
theorem d3_4 : decode method_2_code 4 = .ok (.if_icmp .ne 7, 3) := by decide +kernel
theorem d3_7 : decode method_2_code 7 = .ok (.getstatic 7, 3) := by decide +kernel
theorem w37 {Z : State} {a0 : Array Value} (hw : ∀ d ∈ tables_1, d.before a0 Z = true) : (Jvm.Cond.fieldLink "com/example/jobd/jobd/http/ErrorCodeForStatusPinLaw" (7 : Nat) "com/example/jobd/jobd/http/ErrorCode" "BAD_REQUEST" "Lcom/example/jobd/jobd/http/ErrorCode;").before a0 Z = true := hw _ (List.mem_of_getElem? (i := 37) rfl)
theorem d3_10 : decode method_2_code 10 = .ok (.areturn, 1) := by decide +kernel
theorem d3_11 : decode method_2_code 11 = .ok (.iload_n 0, 1) := by decide +kernel
theorem d3_12 : decode method_2_code 12 = .ok (.sipush 404, 3) := by decide +kernel
theorem d3_15 : decode method_2_code 15 = .ok (.if_icmp .ne 7, 3) := by decide +kernel
theorem d3_18 : decode method_2_code 18 = .ok (.getstatic 13, 3) := by decide +kernel
theorem w34 {Z : State} {a0 : Array Value} (hw : ∀ d ∈ tables_1, d.before a0 Z = true) : (Jvm.Cond.fieldLink "com/example/jobd/jobd/http/ErrorCodeForStatusPinLaw" (13 : Nat) "com/example/jobd/jobd/http/ErrorCode" "NOT_FOUND" "Lcom/example/jobd/jobd/http/ErrorCode;").before a0 Z = true := hw _ (List.mem_of_getElem? (i := 34) rfl)
theorem d3_21 : decode method_2_code 21 = .ok (.areturn, 1) := by decide +kernel
theorem d3_22 : decode method_2_code 22 = .ok (.iload_n 0, 1) := by decide +kernel
theorem d3_23 : decode method_2_code 23 = .ok (.sipush 405, 3) := by decide +kernel
theorem d3_26 : decode method_2_code 26 = .ok (.if_icmp .ne 7, 3) := by decide +kernel
theorem d3_29 : decode method_2_code 29 = .ok (.getstatic 16, 3) := by decide +kernel
theorem w39 {Z : State} {a0 : Array Value} (hw : ∀ d ∈ tables_1, d.before a0 Z = true) : (Jvm.Cond.fieldLink "com/example/jobd/jobd/http/ErrorCodeForStatusPinLaw" (16 : Nat) "com/example/jobd/jobd/http/ErrorCode" "METHOD_NOT_ALLOWED" "Lcom/example/jobd/jobd/http/ErrorCode;").before a0 Z = true := hw _ (List.mem_of_getElem? (i := 39) rfl)
theorem d3_32 : decode method_2_code 32 = .ok (.areturn, 1) := by decide +kernel
theorem d3_33 : decode method_2_code 33 = .ok (.iload_n 0, 1) := by decide +kernel
theorem d3_34 : decode method_2_code 34 = .ok (.sipush 409, 3) := by decide +kernel
theorem d3_37 : decode method_2_code 37 = .ok (.if_icmp .ne 7, 3) := by decide +kernel
theorem d3_40 : decode method_2_code 40 = .ok (.getstatic 19, 3) := by decide +kernel
theorem w38 {Z : State} {a0 : Array Value} (hw : ∀ d ∈ tables_1, d.before a0 Z = true) : (Jvm.Cond.fieldLink "com/example/jobd/jobd/http/ErrorCodeForStatusPinLaw" (19 : Nat) "com/example/jobd/jobd/http/ErrorCode" "CONFLICT" "Lcom/example/jobd/jobd/http/ErrorCode;").before a0 Z = true := hw _ (List.mem_of_getElem? (i := 38) rfl)
theorem d3_43 : decode method_2_code 43 = .ok (.areturn, 1) := by decide +kernel
theorem d3_44 : decode method_2_code 44 = .ok (.iload_n 0, 1) := by decide +kernel
theorem d3_45 : decode method_2_code 45 = .ok (.sipush 413, 3) := by decide +kernel
theorem d3_48 : decode method_2_code 48 = .ok (.if_icmp .ne 7, 3) := by decide +kernel
theorem d3_51 : decode method_2_code 51 = .ok (.getstatic 22, 3) := by decide +kernel
theorem w40 {Z : State} {a0 : Array Value} (hw : ∀ d ∈ tables_1, d.before a0 Z = true) : (Jvm.Cond.fieldLink "com/example/jobd/jobd/http/ErrorCodeForStatusPinLaw" (22 : Nat) "com/example/jobd/jobd/http/ErrorCode" "PAYLOAD_TOO_LARGE" "Lcom/example/jobd/jobd/http/ErrorCode;").before a0 Z = true := hw _ (List.mem_of_getElem? (i := 40) rfl)
theorem d3_54 : decode method_2_code 54 = .ok (.areturn, 1) := by decide +kernel
theorem d3_55 : decode method_2_code 55 = .ok (.iload_n 0, 1) := by decide +kernel
theorem d3_56 : decode method_2_code 56 = .ok (.sipush 500, 3) := by decide +kernel
theorem d3_59 : decode method_2_code 59 = .ok (.if_icmp .ne 7, 3) := by decide +kernel
theorem d3_62 : decode method_2_code 62 = .ok (.getstatic 25, 3) := by decide +kernel
theorem w33 {Z : State} {a0 : Array Value} (hw : ∀ d ∈ tables_1, d.before a0 Z = true) : (Jvm.Cond.fieldLink "com/example/jobd/jobd/http/ErrorCodeForStatusPinLaw" (25 : Nat) "com/example/jobd/jobd/http/ErrorCode" "INTERNAL_ERROR" "Lcom/example/jobd/jobd/http/ErrorCode;").before a0 Z = true := hw _ (List.mem_of_getElem? (i := 33) rfl)
theorem d3_65 : decode method_2_code 65 = .ok (.areturn, 1) := by decide +kernel
theorem d3_66 : decode method_2_code 66 = .ok (.iload_n 0, 1) := by decide +kernel
theorem d3_67 : decode method_2_code 67 = .ok (.sipush 400, 3) := by decide +kernel
theorem d3_70 : decode method_2_code 70 = .ok (.if_icmp .lt 14, 3) := by decide +kernel
theorem d3_84 : decode method_2_code 84 = .ok (.getstatic 25, 3) := by decide +kernel
theorem d3_87 : decode method_2_code 87 = .ok (.areturn, 1) := by decide +kernel
theorem d3_73 : decode method_2_code 73 = .ok (.iload_n 0, 1) := by decide +kernel
theorem d3_74 : decode method_2_code 74 = .ok (.sipush 499, 3) := by decide +kernel
theorem d3_77 : decode method_2_code 77 = .ok (.if_icmp .gt 7, 3) := by decide +kernel
theorem d3_80 : decode method_2_code 80 = .ok (.getstatic 7, 3) := by decide +kernel
theorem d3_83 : decode method_2_code 83 = .ok (.areturn, 1) := by decide +kernel
set_option maxRecDepth 65536 in
set_option maxHeartbeats 40000000 in
theorem rm3 (l : Launch) (Z : State) (a0 : Array Value) (hw : ∀ d ∈ tables_1, d.before a0 Z = true) (h0 : Heap) (p1 : Int32) (ec0 ec1 ec2 ec3 ec4 ec5 : Addr) (S0 : Sta Z h0 "com/example/jobd/jobd/http/ErrorCode" "BAD_REQUEST" "Lcom/example/jobd/jobd/http/ErrorCode;" (.ref ec0)) (S1 : Sta Z h0 "com/example/jobd/jobd/http/ErrorCode" "NOT_FOUND" "Lcom/example/jobd/jobd/http/ErrorCode;" (.ref ec1)) (S2 : Sta Z h0 "com/example/jobd/jobd/http/ErrorCode" "METHOD_NOT_ALLOWED" "Lcom/example/jobd/jobd/http/ErrorCode;" (.ref ec2)) (S3 : Sta Z h0 "com/example/jobd/jobd/http/ErrorCode" "CONFLICT" "Lcom/example/jobd/jobd/http/ErrorCode;" (.ref ec3)) (S4 : Sta Z h0 "com/example/jobd/jobd/http/ErrorCode" "PAYLOAD_TOO_LARGE" "Lcom/example/jobd/jobd/http/ErrorCode;" (.ref ec4)) (S5 : Sta Z h0 "com/example/jobd/jobd/http/ErrorCode" "INTERNAL_ERROR" "Lcom/example/jobd/jobd/http/ErrorCode;" (.ref ec5)) : Con l Z (⟨"com/example/jobd/jobd/http/ErrorCodeForStatusPinLaw", "expected", "(I)Lcom/example/jobd/jobd/http/ErrorCode;"⟩ : MethodName) method_2_code 1 (some (.object "com/example/jobd/jobd/http/ErrorCode")) [] ({ frames := 0, cells := 0, slots := 0, locals := 0 } : Room) 0 0 #[(.int p1)] h0 (Pur (fun v => v = some (.ref (own_exp ec0 ec1 ec2 ec3 ec4 ec5 p1))) h0) := by
  refine Con.intro (plainFor_of_name pn_1) ?_
  intro p e s m below meth c s₁ X0 hx hby hml hZ hown hnm hret hlk e0 hs0
  refine Gl.of (fun _ k => castTop (ef_3 m p1) k) ?_
  show Gl p e below _ (s₁.setTop (mkF m 0 #[.val (.int p1)] []))
  refine Gl.of (fun _ k => XS.iloadN X0.here hx rfl (hb hby d3_0) rfl k) ?_
  show Gl p e below _ (s₁.setTop (mkF m 1 #[.val (.int p1)] [(.int p1)]))
  refine Gl.of (fun _ k => XS.sipush X0.here hx rfl (hb hby d3_1) k) ?_
  show Gl p e below _ (s₁.setTop (mkF m 4 #[.val (.int p1)] [(.int (400 : Int32)), (.int p1)]))
  by_cases hc4_1 : p1 = (400 : Int32)
  · refine Gl.of (fun _ k => XS.icmpNo X0.here hx rfl (hb hby d3_4) rfl (teq hc4_1).2 k) ?_
    show Gl p e below _ (s₁.setTop (mkF m 7 #[.val (.int p1)] []))
    obtain ⟨T2, X2, e2, st2⟩ := getS2 X0 hx hZ hown (host := "") (Or.inl (w37 hw)) Via.refl e0 S0 (g := (mkF m 7 #[.val (.int p1)] [])) rfl (hb hby d3_7)
    refine Gl.of st2 ?_
    show Gl p e below _ (T2.setTop (mkF m 10 #[.val (.int p1)] [(.ref ec0)]))
    exact Gl.retR X2 hx hlk hret rfl rfl (hb hby d3_10) e2 (⟨by unfold own_exp; rw [if_pos hc4_1], rfl, rfl⟩) (by decide) (by decide)
  · refine Gl.of (fun _ k => XS.icmpYes X0.here hx rfl (pc0 := 4) (pc' := 11) rfl (hb hby d3_4) rfl (feq hc4_1).2 (by decide) (by decide) k) ?_
    show Gl p e below _ (s₁.setTop (mkF m 11 #[.val (.int p1)] []))
    refine Gl.of (fun _ k => XS.iloadN X0.here hx rfl (hb hby d3_11) rfl k) ?_
    show Gl p e below _ (s₁.setTop (mkF m 12 #[.val (.int p1)] [(.int p1)]))
    refine Gl.of (fun _ k => XS.sipush X0.here hx rfl (hb hby d3_12) k) ?_
    show Gl p e below _ (s₁.setTop (mkF m 15 #[.val (.int p1)] [(.int (404 : Int32)), (.int p1)]))
    by_cases hc15_3 : p1 = (404 : Int32)
    · refine Gl.of (fun _ k => XS.icmpNo X0.here hx rfl (hb hby d3_15) rfl (teq hc15_3).2 k) ?_
      show Gl p e below _ (s₁.setTop (mkF m 18 #[.val (.int p1)] []))
      obtain ⟨T4, X4, e4, st4⟩ := getS2 X0 hx hZ hown (host := "") (Or.inl (w34 hw)) Via.refl e0 S1 (g := (mkF m 18 #[.val (.int p1)] [])) rfl (hb hby d3_18)
      refine Gl.of st4 ?_
      show Gl p e below _ (T4.setTop (mkF m 21 #[.val (.int p1)] [(.ref ec1)]))
      exact Gl.retR X4 hx hlk hret rfl rfl (hb hby d3_21) e4 (⟨by unfold own_exp; rw [if_neg hc4_1, if_pos hc15_3], rfl, rfl⟩) (by decide) (by decide)
    · refine Gl.of (fun _ k => XS.icmpYes X0.here hx rfl (pc0 := 15) (pc' := 22) rfl (hb hby d3_15) rfl (feq hc15_3).2 (by decide) (by decide) k) ?_
      show Gl p e below _ (s₁.setTop (mkF m 22 #[.val (.int p1)] []))
      refine Gl.of (fun _ k => XS.iloadN X0.here hx rfl (hb hby d3_22) rfl k) ?_
      show Gl p e below _ (s₁.setTop (mkF m 23 #[.val (.int p1)] [(.int p1)]))
      refine Gl.of (fun _ k => XS.sipush X0.here hx rfl (hb hby d3_23) k) ?_
      show Gl p e below _ (s₁.setTop (mkF m 26 #[.val (.int p1)] [(.int (405 : Int32)), (.int p1)]))
      by_cases hc26_5 : p1 = (405 : Int32)
      · refine Gl.of (fun _ k => XS.icmpNo X0.here hx rfl (hb hby d3_26) rfl (teq hc26_5).2 k) ?_
        show Gl p e below _ (s₁.setTop (mkF m 29 #[.val (.int p1)] []))
        obtain ⟨T6, X6, e6, st6⟩ := getS2 X0 hx hZ hown (host := "") (Or.inl (w39 hw)) Via.refl e0 S2 (g := (mkF m 29 #[.val (.int p1)] [])) rfl (hb hby d3_29)
        refine Gl.of st6 ?_
        show Gl p e below _ (T6.setTop (mkF m 32 #[.val (.int p1)] [(.ref ec2)]))
        exact Gl.retR X6 hx hlk hret rfl rfl (hb hby d3_32) e6 (⟨by unfold own_exp; rw [if_neg hc4_1, if_neg hc15_3, if_pos hc26_5], rfl, rfl⟩) (by decide) (by decide)
      · refine Gl.of (fun _ k => XS.icmpYes X0.here hx rfl (pc0 := 26) (pc' := 33) rfl (hb hby d3_26) rfl (feq hc26_5).2 (by decide) (by decide) k) ?_
        show Gl p e below _ (s₁.setTop (mkF m 33 #[.val (.int p1)] []))
        refine Gl.of (fun _ k => XS.iloadN X0.here hx rfl (hb hby d3_33) rfl k) ?_
        show Gl p e below _ (s₁.setTop (mkF m 34 #[.val (.int p1)] [(.int p1)]))
        refine Gl.of (fun _ k => XS.sipush X0.here hx rfl (hb hby d3_34) k) ?_
        show Gl p e below _ (s₁.setTop (mkF m 37 #[.val (.int p1)] [(.int (409 : Int32)), (.int p1)]))
        by_cases hc37_7 : p1 = (409 : Int32)
        · refine Gl.of (fun _ k => XS.icmpNo X0.here hx rfl (hb hby d3_37) rfl (teq hc37_7).2 k) ?_
          show Gl p e below _ (s₁.setTop (mkF m 40 #[.val (.int p1)] []))
          obtain ⟨T8, X8, e8, st8⟩ := getS2 X0 hx hZ hown (host := "") (Or.inl (w38 hw)) Via.refl e0 S3 (g := (mkF m 40 #[.val (.int p1)] [])) rfl (hb hby d3_40)
          refine Gl.of st8 ?_
          show Gl p e below _ (T8.setTop (mkF m 43 #[.val (.int p1)] [(.ref ec3)]))
          exact Gl.retR X8 hx hlk hret rfl rfl (hb hby d3_43) e8 (⟨by unfold own_exp; rw [if_neg hc4_1, if_neg hc15_3, if_neg hc26_5, if_pos hc37_7], rfl, rfl⟩) (by decide) (by decide)
        · refine Gl.of (fun _ k => XS.icmpYes X0.here hx rfl (pc0 := 37) (pc' := 44) rfl (hb hby d3_37) rfl (feq hc37_7).2 (by decide) (by decide) k) ?_
          show Gl p e below _ (s₁.setTop (mkF m 44 #[.val (.int p1)] []))
          refine Gl.of (fun _ k => XS.iloadN X0.here hx rfl (hb hby d3_44) rfl k) ?_
          show Gl p e below _ (s₁.setTop (mkF m 45 #[.val (.int p1)] [(.int p1)]))
          refine Gl.of (fun _ k => XS.sipush X0.here hx rfl (hb hby d3_45) k) ?_
          show Gl p e below _ (s₁.setTop (mkF m 48 #[.val (.int p1)] [(.int (413 : Int32)), (.int p1)]))
          by_cases hc48_9 : p1 = (413 : Int32)
          · refine Gl.of (fun _ k => XS.icmpNo X0.here hx rfl (hb hby d3_48) rfl (teq hc48_9).2 k) ?_
            show Gl p e below _ (s₁.setTop (mkF m 51 #[.val (.int p1)] []))
            obtain ⟨T10, X10, e10, st10⟩ := getS2 X0 hx hZ hown (host := "") (Or.inl (w40 hw)) Via.refl e0 S4 (g := (mkF m 51 #[.val (.int p1)] [])) rfl (hb hby d3_51)
            refine Gl.of st10 ?_
            show Gl p e below _ (T10.setTop (mkF m 54 #[.val (.int p1)] [(.ref ec4)]))
            exact Gl.retR X10 hx hlk hret rfl rfl (hb hby d3_54) e10 (⟨by unfold own_exp; rw [if_neg hc4_1, if_neg hc15_3, if_neg hc26_5, if_neg hc37_7, if_pos hc48_9], rfl, rfl⟩) (by decide) (by decide)
          · refine Gl.of (fun _ k => XS.icmpYes X0.here hx rfl (pc0 := 48) (pc' := 55) rfl (hb hby d3_48) rfl (feq hc48_9).2 (by decide) (by decide) k) ?_
            show Gl p e below _ (s₁.setTop (mkF m 55 #[.val (.int p1)] []))
            refine Gl.of (fun _ k => XS.iloadN X0.here hx rfl (hb hby d3_55) rfl k) ?_
            show Gl p e below _ (s₁.setTop (mkF m 56 #[.val (.int p1)] [(.int p1)]))
            refine Gl.of (fun _ k => XS.sipush X0.here hx rfl (hb hby d3_56) k) ?_
            show Gl p e below _ (s₁.setTop (mkF m 59 #[.val (.int p1)] [(.int (500 : Int32)), (.int p1)]))
            by_cases hc59_11 : p1 = (500 : Int32)
            · refine Gl.of (fun _ k => XS.icmpNo X0.here hx rfl (hb hby d3_59) rfl (teq hc59_11).2 k) ?_
              show Gl p e below _ (s₁.setTop (mkF m 62 #[.val (.int p1)] []))
              obtain ⟨T12, X12, e12, st12⟩ := getS2 X0 hx hZ hown (host := "") (Or.inl (w33 hw)) Via.refl e0 S5 (g := (mkF m 62 #[.val (.int p1)] [])) rfl (hb hby d3_62)
              refine Gl.of st12 ?_
              show Gl p e below _ (T12.setTop (mkF m 65 #[.val (.int p1)] [(.ref ec5)]))
              exact Gl.retR X12 hx hlk hret rfl rfl (hb hby d3_65) e12 (⟨by unfold own_exp; rw [if_neg hc4_1, if_neg hc15_3, if_neg hc26_5, if_neg hc37_7, if_neg hc48_9, if_pos hc59_11], rfl, rfl⟩) (by decide) (by decide)
            · refine Gl.of (fun _ k => XS.icmpYes X0.here hx rfl (pc0 := 59) (pc' := 66) rfl (hb hby d3_59) rfl (feq hc59_11).2 (by decide) (by decide) k) ?_
              show Gl p e below _ (s₁.setTop (mkF m 66 #[.val (.int p1)] []))
              refine Gl.of (fun _ k => XS.iloadN X0.here hx rfl (hb hby d3_66) rfl k) ?_
              show Gl p e below _ (s₁.setTop (mkF m 67 #[.val (.int p1)] [(.int p1)]))
              refine Gl.of (fun _ k => XS.sipush X0.here hx rfl (hb hby d3_67) k) ?_
              show Gl p e below _ (s₁.setTop (mkF m 70 #[.val (.int p1)] [(.int (400 : Int32)), (.int p1)]))
              by_cases hc70_13 : p1 < (400 : Int32)
              · refine Gl.of (fun _ k => XS.icmpYes X0.here hx rfl (pc0 := 70) (pc' := 84) rfl (hb hby d3_70) rfl (tlt hc70_13).1 (by decide) (by decide) k) ?_
                show Gl p e below _ (s₁.setTop (mkF m 84 #[.val (.int p1)] []))
                obtain ⟨T14, X14, e14, st14⟩ := getS2 X0 hx hZ hown (host := "") (Or.inl (w33 hw)) Via.refl e0 S5 (g := (mkF m 84 #[.val (.int p1)] [])) rfl (hb hby d3_84)
                refine Gl.of st14 ?_
                show Gl p e below _ (T14.setTop (mkF m 87 #[.val (.int p1)] [(.ref ec5)]))
                exact Gl.retR X14 hx hlk hret rfl rfl (hb hby d3_87) e14 (⟨by unfold own_exp; rw [if_neg hc4_1, if_neg hc15_3, if_neg hc26_5, if_neg hc37_7, if_neg hc48_9, if_neg hc59_11, if_pos hc70_13], rfl, rfl⟩) (by decide) (by decide)
              · refine Gl.of (fun _ k => XS.icmpNo X0.here hx rfl (hb hby d3_70) rfl (flt hc70_13).1 k) ?_
                show Gl p e below _ (s₁.setTop (mkF m 73 #[.val (.int p1)] []))
                refine Gl.of (fun _ k => XS.iloadN X0.here hx rfl (hb hby d3_73) rfl k) ?_
                show Gl p e below _ (s₁.setTop (mkF m 74 #[.val (.int p1)] [(.int p1)]))
                refine Gl.of (fun _ k => XS.sipush X0.here hx rfl (hb hby d3_74) k) ?_
                show Gl p e below _ (s₁.setTop (mkF m 77 #[.val (.int p1)] [(.int (499 : Int32)), (.int p1)]))
                by_cases hc77_15 : (499 : Int32) < p1
                · refine Gl.of (fun _ k => XS.icmpYes X0.here hx rfl (pc0 := 77) (pc' := 84) rfl (hb hby d3_77) rfl (tlt hc77_15).2.2.1 (by decide) (by decide) k) ?_
                  show Gl p e below _ (s₁.setTop (mkF m 84 #[.val (.int p1)] []))
                  obtain ⟨T16, X16, e16, st16⟩ := getS2 X0 hx hZ hown (host := "") (Or.inl (w33 hw)) Via.refl e0 S5 (g := (mkF m 84 #[.val (.int p1)] [])) rfl (hb hby d3_84)
                  refine Gl.of st16 ?_
                  show Gl p e below _ (T16.setTop (mkF m 87 #[.val (.int p1)] [(.ref ec5)]))
                  exact Gl.retR X16 hx hlk hret rfl rfl (hb hby d3_87) e16 (⟨by unfold own_exp; rw [if_neg hc4_1, if_neg hc15_3, if_neg hc26_5, if_neg hc37_7, if_neg hc48_9, if_neg hc59_11, if_neg hc70_13, if_pos hc77_15], rfl, rfl⟩) (by decide) (by decide)
                · refine Gl.of (fun _ k => XS.icmpNo X0.here hx rfl (hb hby d3_77) rfl (flt hc77_15).2.2.1 k) ?_
                  show Gl p e below _ (s₁.setTop (mkF m 80 #[.val (.int p1)] []))
                  obtain ⟨T17, X17, e17, st17⟩ := getS2 X0 hx hZ hown (host := "") (Or.inl (w37 hw)) Via.refl e0 S0 (g := (mkF m 80 #[.val (.int p1)] [])) rfl (hb hby d3_80)
                  refine Gl.of st17 ?_
                  show Gl p e below _ (T17.setTop (mkF m 83 #[.val (.int p1)] [(.ref ec0)]))
                  exact Gl.retR X17 hx hlk hret rfl rfl (hb hby d3_83) e17 (⟨by unfold own_exp; rw [if_neg hc4_1, if_neg hc15_3, if_neg hc26_5, if_neg hc37_7, if_neg hc48_9, if_neg hc59_11, if_neg hc70_13, if_neg hc77_15], rfl, rfl⟩) (by decide) (by decide)
theorem ef_4 (m : MethodId) (x0 : Int32) (x1 : Int32) : entryFrame m #[(.int x0), (.int x1)] maxLocals = mkF m 0 #[.val (.int x0), .val (.int x1), .unset, .unset, .unset, .unset] [] := by first | (simp [entryFrame, mkF, argsToLocals, Value.category, maxLocals]; done) | rfl
theorem w0 {Z : State} {a0 : Array Value} (hw : ∀ d ∈ tables_1, d.before a0 Z = true) : (Jvm.Cond.arrayClass Jvm.ClassFile.FieldType.int).before a0 Z = true := hw _ (List.mem_of_getElem? (i := 0) rfl)
theorem pd_1 : parseMethodDescriptor "(I)Lcom/example/jobd/jobd/http/ErrorCode;" = some ⟨[.int], some (.object "com/example/jobd/jobd/http/ErrorCode")⟩ := by decide +kernel
theorem w1 {Z : State} {a0 : Array Value} (hw : ∀ d ∈ tables_1, d.before a0 Z = true) : (Jvm.Cond.methodLink "com/example/jobd/jobd/http/ErrorCodeForStatusPinLaw" (29 : Nat) ({ cls := "com/example/jobd/jobd/http/ErrorCode", name := "forStatus", desc := "(I)Lcom/example/jobd/jobd/http/ErrorCode;" } : Jvm.MethodName)).before a0 Z = true := hw _ (List.mem_of_getElem? (i := 1) rfl)
theorem w2 {Z : State} {a0 : Array Value} (hw : ∀ d ∈ tables_1, d.before a0 Z = true) : (Jvm.Cond.static ({ cls := "com/example/jobd/jobd/http/ErrorCode", name := "forStatus", desc := "(I)Lcom/example/jobd/jobd/http/ErrorCode;" } : Jvm.MethodName)).before a0 Z = true := hw _ (List.mem_of_getElem? (i := 2) rfl)
theorem w4 {Z : State} {a0 : Array Value} (hw : ∀ d ∈ tables_1, d.before a0 Z = true) : (Jvm.Cond.code ({ cls := "com/example/jobd/jobd/http/ErrorCode", name := "forStatus", desc := "(I)Lcom/example/jobd/jobd/http/ErrorCode;" } : Jvm.MethodName) prog_10_method_6_code (5 : Nat) (Option.some (Jvm.ClassFile.FieldType.object "com/example/jobd/jobd/http/ErrorCode"))).before a0 Z = true := hw _ (List.mem_of_getElem? (i := 4) rfl)
theorem w29 {Z : State} {a0 : Array Value} (hw : ∀ d ∈ tables_1, d.before a0 Z = true) : (Jvm.Cond.methodLink "com/example/jobd/jobd/http/ErrorCodeForStatusPinLaw" (33 : Nat) ({ cls := "com/example/jobd/jobd/http/ErrorCodeForStatusPinLaw", name := "expected", desc := "(I)Lcom/example/jobd/jobd/http/ErrorCode;" } : Jvm.MethodName)).before a0 Z = true := hw _ (List.mem_of_getElem? (i := 29) rfl)
theorem w30 {Z : State} {a0 : Array Value} (hw : ∀ d ∈ tables_1, d.before a0 Z = true) : (Jvm.Cond.static ({ cls := "com/example/jobd/jobd/http/ErrorCodeForStatusPinLaw", name := "expected", desc := "(I)Lcom/example/jobd/jobd/http/ErrorCode;" } : Jvm.MethodName)).before a0 Z = true := hw _ (List.mem_of_getElem? (i := 30) rfl)
theorem w31 {Z : State} {a0 : Array Value} (hw : ∀ d ∈ tables_1, d.before a0 Z = true) : (Jvm.Cond.initialized "com/example/jobd/jobd/http/ErrorCodeForStatusPinLaw").before a0 Z = true := hw _ (List.mem_of_getElem? (i := 31) rfl)
theorem w32 {Z : State} {a0 : Array Value} (hw : ∀ d ∈ tables_1, d.before a0 Z = true) : (Jvm.Cond.code ({ cls := "com/example/jobd/jobd/http/ErrorCodeForStatusPinLaw", name := "expected", desc := "(I)Lcom/example/jobd/jobd/http/ErrorCode;" } : Jvm.MethodName) method_2_code (1 : Nat) (Option.some (Jvm.ClassFile.FieldType.object "com/example/jobd/jobd/http/ErrorCode"))).before a0 Z = true := hw _ (List.mem_of_getElem? (i := 32) rfl)
theorem w35 {Z : State} {a0 : Array Value} (hw : ∀ d ∈ tables_1, d.before a0 Z = true) : (Jvm.Cond.constant "com/example/jobd/jobd/http/ErrorCodeForStatusPinLaw" (28 : Nat) (2147483647 : Int32)).before a0 Z = true := hw _ (List.mem_of_getElem? (i := 35) rfl)
set_option maxRecDepth 65536 in
set_option maxHeartbeats 40000000 in
theorem rm0 (l : Launch) (Z : State) (a0 : Array Value) (hw : ∀ d ∈ tables_1, d.before a0 Z = true) (ws : List Jvm.Cond) (h0 : Heap) (p1 p2 : Int32) (ec0 ec1 ec2 ec3 ec4 ec5 : Addr) (ac : Addr) (clc : Cell) (n0 : Nat) (Sv : Sta Z Z.heap "com/example/jobd/jobd/http/ErrorCode" "$VALUES" "[Lcom/example/jobd/jobd/http/ErrorCode;" (.ref ac)) (Av : Arr Z Z.heap ac clc (.object "com/example/jobd/jobd/http/ErrorCode")) (Ev : Exa Z Z.heap ac "[Lcom/example/jobd/jobd/http/ErrorCode;") (Fv : FitC Z clc) (zv : clc.slots.size = (6 : Int32).toNatClampNeg) (S0 : Sta Z Z.heap "com/example/jobd/jobd/http/ErrorCode" "BAD_REQUEST" "Lcom/example/jobd/jobd/http/ErrorCode;" (.ref ec0)) (S1 : Sta Z Z.heap "com/example/jobd/jobd/http/ErrorCode" "NOT_FOUND" "Lcom/example/jobd/jobd/http/ErrorCode;" (.ref ec1)) (S2 : Sta Z Z.heap "com/example/jobd/jobd/http/ErrorCode" "METHOD_NOT_ALLOWED" "Lcom/example/jobd/jobd/http/ErrorCode;" (.ref ec2)) (S3 : Sta Z Z.heap "com/example/jobd/jobd/http/ErrorCode" "CONFLICT" "Lcom/example/jobd/jobd/http/ErrorCode;" (.ref ec3)) (S4 : Sta Z Z.heap "com/example/jobd/jobd/http/ErrorCode" "PAYLOAD_TOO_LARGE" "Lcom/example/jobd/jobd/http/ErrorCode;" (.ref ec4)) (S5 : Sta Z Z.heap "com/example/jobd/jobd/http/ErrorCode" "INTERNAL_ERROR" "Lcom/example/jobd/jobd/http/ErrorCode;" (.ref ec5)) (F0 : Fld Z Z.heap ec0 "com/example/jobd/jobd/http/ErrorCode" "status" "I" (.int (400 : Int32))) (F1 : Fld Z Z.heap ec1 "com/example/jobd/jobd/http/ErrorCode" "status" "I" (.int (404 : Int32))) (F2 : Fld Z Z.heap ec2 "com/example/jobd/jobd/http/ErrorCode" "status" "I" (.int (405 : Int32))) (F3 : Fld Z Z.heap ec3 "com/example/jobd/jobd/http/ErrorCode" "status" "I" (.int (409 : Int32))) (F4 : Fld Z Z.heap ec4 "com/example/jobd/jobd/http/ErrorCode" "status" "I" (.int (413 : Int32))) (F5 : Fld Z Z.heap ec5 "com/example/jobd/jobd/http/ErrorCode" "status" "I" (.int (500 : Int32))) (hv0 : clc.slots[0]? = some (.ref ec0)) (hv1 : clc.slots[1]? = some (.ref ec1)) (hv2 : clc.slots[2]? = some (.ref ec2)) (hv3 : clc.slots[3]? = some (.ref ec3)) (hv4 : clc.slots[4]? = some (.ref ec4)) (hv5 : clc.slots[5]? = some (.ref ec5)) (O0 : Old Z n0 h0) : Con l Z x code maxLocals ret ws room_1 16 128 #[(.int p1), (.int p2)] h0 (fun v h L => v = some (.int 1) ∧ Fr n0 L) := by
  refine Con.intro (plainFor_of_name pn_1) ?_
  intro p e s m below meth c s₁ X0 hx hby hml hZ hown hnm hret hlk e0 hs0
  refine Gl.of (fun _ k => castTop (ef_4 m p1 p2) k) ?_
  show Gl p e below _ (s₁.setTop (mkF m 0 #[.val (.int p1), .val (.int p2), .unset, .unset, .unset, .unset] []))
  refine Gl.of (fun _ k => XS.bipush X0.here hx rfl (hb hby at_0) k) ?_
  show Gl p e below _ (s₁.setTop (mkF m 2 #[.val (.int p1), .val (.int p2), .unset, .unset, .unset, .unset] [(.int (8 : Int32))]))
  obtain ⟨T1, h1, k1, X1, e1, E1, A1, st1⟩ := newP (aty := .int) X0 hx hZ (w0 hw) e0 (g := (mkF m 2 #[.val (.int p1), .val (.int p2), .unset, .unset, .unset, .unset] [(.int (8 : Int32))])) rfl (hb hby at_2) rfl (by decide) (cap := 8) (by decide) (by decide) (by decide) (by decide)
  obtain ⟨b1, g1⟩ : ∃ z, z = h0.size := ⟨_, rfl⟩
  rw [← g1] at A1 st1
  refine Gl.of st1 ?_
  have Gb1 : n0 ≤ b1 := Nat.le_trans (O0.1 ▸ O0.2.1) (Nat.le_of_eq g1.symm)
  have O1 := O0.ext E1
  have V1 : Arv Z h1 b1 k1 .int (8 : Int32) [(.int (0 : Int32)), (.int (0 : Int32)), (.int (0 : Int32)), (.int (0 : Int32)), (.int (0 : Int32)), (.int (0 : Int32)), (.int (0 : Int32)), (.int (0 : Int32))] (.int (0 : Int32)) := (Arv.new A1 (by decide)).pad (pad_rep [] (.int (0 : Int32)) 8)
  show Gl p e below _ (T1.setTop (mkF m 4 #[.val (.int p1), .val (.int p2), .unset, .unset, .unset, .unset] [(.ref b1)]))
  refine Gl.of (fun _ k => XS.dup X1.here hx rfl (hb hby at_4) rfl rfl k) ?_
  show Gl p e below _ (T1.setTop (mkF m 5 #[.val (.int p1), .val (.int p2), .unset, .unset, .unset, .unset] [(.ref b1), (.ref b1)]))
  refine Gl.of (fun _ k => XS.iconst X1.here hx rfl (hb hby at_5) k) ?_
  show Gl p e below _ (T1.setTop (mkF m 6 #[.val (.int p1), .val (.int p2), .unset, .unset, .unset, .unset] [(.int (0 : Int32)), (.ref b1), (.ref b1)]))
  refine Gl.of (fun _ k => XS.sipush X1.here hx rfl (hb hby at_6) k) ?_
  show Gl p e below _ (T1.setTop (mkF m 9 #[.val (.int p1), .val (.int p2), .unset, .unset, .unset, .unset] [(.int (400 : Int32)), (.int (0 : Int32)), (.ref b1), (.ref b1)]))
  obtain ⟨zcl2, zAr2, zq2, zS2, zM2, zH2, zG2⟩ := id V1
  obtain ⟨T3, h3, X3, e3, W3, st3⟩ := stI X1 hx hZ e1 zAr2 (j := (0 : Int32)) (inb_of zS2 ⟨by decide, by decide⟩) (g := (mkF m 9 #[.val (.int p1), .val (.int p2), .unset, .unset, .unset, .unset] [(.int (400 : Int32)), (.int (0 : Int32)), (.ref b1), (.ref b1)])) rfl rfl (hb hby at_9)
  refine Gl.of st3 ?_
  have V3 : Arv Z h3 b1 k1 .int (8 : Int32) [(.int (400 : Int32)), (.int (0 : Int32)), (.int (0 : Int32)), (.int (0 : Int32)), (.int (0 : Int32)), (.int (0 : Int32)), (.int (0 : Int32)), (.int (0 : Int32))] (.int (0 : Int32)) := Arv.set zAr2 zq2 zS2 zM2 zH2 zG2 rfl W3 0 rfl (Nat.le_of_ble_eq_true rfl)
  have N3 := Fr.snoc X3 (Fr.nil n0) Gb1
  have O3 := O1.wr W3 Gb1
  show Gl p e below _ (T3.setTop (mkF m 10 #[.val (.int p1), .val (.int p2), .unset, .unset, .unset, .unset] [(.ref b1)]))
  refine Gl.of (fun _ k => XS.dup X3.here hx rfl (hb hby at_10) rfl rfl k) ?_
  show Gl p e below _ (T3.setTop (mkF m 11 #[.val (.int p1), .val (.int p2), .unset, .unset, .unset, .unset] [(.ref b1), (.ref b1)]))
  refine Gl.of (fun _ k => XS.iconst X3.here hx rfl (hb hby at_11) k) ?_
  show Gl p e below _ (T3.setTop (mkF m 12 #[.val (.int p1), .val (.int p2), .unset, .unset, .unset, .unset] [(.int (1 : Int32)), (.ref b1), (.ref b1)]))
  refine Gl.of (fun _ k => XS.sipush X3.here hx rfl (hb hby at_12) k) ?_
  show Gl p e below _ (T3.setTop (mkF m 15 #[.val (.int p1), .val (.int p2), .unset, .unset, .unset, .unset] [(.int (404 : Int32)), (.int (1 : Int32)), (.ref b1), (.ref b1)]))
  obtain ⟨zcl4, zAr4, zq4, zS4, zM4, zH4, zG4⟩ := id V3
  obtain ⟨T5, h5, X5, e5, W5, st5⟩ := stI X3 hx hZ e3 zAr4 (j := (1 : Int32)) (inb_of zS4 ⟨by decide, by decide⟩) (g := (mkF m 15 #[.val (.int p1), .val (.int p2), .unset, .unset, .unset, .unset] [(.int (404 : Int32)), (.int (1 : Int32)), (.ref b1), (.ref b1)])) rfl rfl (hb hby at_15)
  refine Gl.of st5 ?_
  have V5 : Arv Z h5 b1 k1 .int (8 : Int32) [(.int (400 : Int32)), (.int (404 : Int32)), (.int (0 : Int32)), (.int (0 : Int32)), (.int (0 : Int32)), (.int (0 : Int32)), (.int (0 : Int32)), (.int (0 : Int32))] (.int (0 : Int32)) := Arv.set zAr4 zq4 zS4 zM4 zH4 zG4 rfl W5 1 rfl (Nat.le_of_ble_eq_true rfl)
  have N5 := Fr.snoc X5 N3 Gb1
  have O5 := O3.wr W5 Gb1
  show Gl p e below _ (T5.setTop (mkF m 16 #[.val (.int p1), .val (.int p2), .unset, .unset, .unset, .unset] [(.ref b1)]))
  refine Gl.of (fun _ k => XS.dup X5.here hx rfl (hb hby at_16) rfl rfl k) ?_
  show Gl p e below _ (T5.setTop (mkF m 17 #[.val (.int p1), .val (.int p2), .unset, .unset, .unset, .unset] [(.ref b1), (.ref b1)]))
  refine Gl.of (fun _ k => XS.iconst X5.here hx rfl (hb hby at_17) k) ?_
  show Gl p e below _ (T5.setTop (mkF m 18 #[.val (.int p1), .val (.int p2), .unset, .unset, .unset, .unset] [(.int (2 : Int32)), (.ref b1), (.ref b1)]))
  refine Gl.of (fun _ k => XS.sipush X5.here hx rfl (hb hby at_18) k) ?_
  show Gl p e below _ (T5.setTop (mkF m 21 #[.val (.int p1), .val (.int p2), .unset, .unset, .unset, .unset] [(.int (405 : Int32)), (.int (2 : Int32)), (.ref b1), (.ref b1)]))
  obtain ⟨zcl6, zAr6, zq6, zS6, zM6, zH6, zG6⟩ := id V5
  obtain ⟨T7, h7, X7, e7, W7, st7⟩ := stI X5 hx hZ e5 zAr6 (j := (2 : Int32)) (inb_of zS6 ⟨by decide, by decide⟩) (g := (mkF m 21 #[.val (.int p1), .val (.int p2), .unset, .unset, .unset, .unset] [(.int (405 : Int32)), (.int (2 : Int32)), (.ref b1), (.ref b1)])) rfl rfl (hb hby at_21)
  refine Gl.of st7 ?_
  have V7 : Arv Z h7 b1 k1 .int (8 : Int32) [(.int (400 : Int32)), (.int (404 : Int32)), (.int (405 : Int32)), (.int (0 : Int32)), (.int (0 : Int32)), (.int (0 : Int32)), (.int (0 : Int32)), (.int (0 : Int32))] (.int (0 : Int32)) := Arv.set zAr6 zq6 zS6 zM6 zH6 zG6 rfl W7 2 rfl (Nat.le_of_ble_eq_true rfl)
  have N7 := Fr.snoc X7 N5 Gb1
  have O7 := O5.wr W7 Gb1
  show Gl p e below _ (T7.setTop (mkF m 22 #[.val (.int p1), .val (.int p2), .unset, .unset, .unset, .unset] [(.ref b1)]))
  refine Gl.of (fun _ k => XS.dup X7.here hx rfl (hb hby at_22) rfl rfl k) ?_
  show Gl p e below _ (T7.setTop (mkF m 23 #[.val (.int p1), .val (.int p2), .unset, .unset, .unset, .unset] [(.ref b1), (.ref b1)]))
  refine Gl.of (fun _ k => XS.iconst X7.here hx rfl (hb hby at_23) k) ?_
  show Gl p e below _ (T7.setTop (mkF m 24 #[.val (.int p1), .val (.int p2), .unset, .unset, .unset, .unset] [(.int (3 : Int32)), (.ref b1), (.ref b1)]))
  refine Gl.of (fun _ k => XS.sipush X7.here hx rfl (hb hby at_24) k) ?_
  show Gl p e below _ (T7.setTop (mkF m 27 #[.val (.int p1), .val (.int p2), .unset, .unset, .unset, .unset] [(.int (409 : Int32)), (.int (3 : Int32)), (.ref b1), (.ref b1)]))
  obtain ⟨zcl8, zAr8, zq8, zS8, zM8, zH8, zG8⟩ := id V7
  obtain ⟨T9, h9, X9, e9, W9, st9⟩ := stI X7 hx hZ e7 zAr8 (j := (3 : Int32)) (inb_of zS8 ⟨by decide, by decide⟩) (g := (mkF m 27 #[.val (.int p1), .val (.int p2), .unset, .unset, .unset, .unset] [(.int (409 : Int32)), (.int (3 : Int32)), (.ref b1), (.ref b1)])) rfl rfl (hb hby at_27)
  refine Gl.of st9 ?_
  have V9 : Arv Z h9 b1 k1 .int (8 : Int32) [(.int (400 : Int32)), (.int (404 : Int32)), (.int (405 : Int32)), (.int (409 : Int32)), (.int (0 : Int32)), (.int (0 : Int32)), (.int (0 : Int32)), (.int (0 : Int32))] (.int (0 : Int32)) := Arv.set zAr8 zq8 zS8 zM8 zH8 zG8 rfl W9 3 rfl (Nat.le_of_ble_eq_true rfl)
  have N9 := Fr.snoc X9 N7 Gb1
  have O9 := O7.wr W9 Gb1
  show Gl p e below _ (T9.setTop (mkF m 28 #[.val (.int p1), .val (.int p2), .unset, .unset, .unset, .unset] [(.ref b1)]))
  refine Gl.of (fun _ k => XS.dup X9.here hx rfl (hb hby at_28) rfl rfl k) ?_
  show Gl p e below _ (T9.setTop (mkF m 29 #[.val (.int p1), .val (.int p2), .unset, .unset, .unset, .unset] [(.ref b1), (.ref b1)]))
  refine Gl.of (fun _ k => XS.iconst X9.here hx rfl (hb hby at_29) k) ?_
  show Gl p e below _ (T9.setTop (mkF m 30 #[.val (.int p1), .val (.int p2), .unset, .unset, .unset, .unset] [(.int (4 : Int32)), (.ref b1), (.ref b1)]))
  refine Gl.of (fun _ k => XS.sipush X9.here hx rfl (hb hby at_30) k) ?_
  show Gl p e below _ (T9.setTop (mkF m 33 #[.val (.int p1), .val (.int p2), .unset, .unset, .unset, .unset] [(.int (413 : Int32)), (.int (4 : Int32)), (.ref b1), (.ref b1)]))
  obtain ⟨zcl10, zAr10, zq10, zS10, zM10, zH10, zG10⟩ := id V9
  obtain ⟨T11, h11, X11, e11, W11, st11⟩ := stI X9 hx hZ e9 zAr10 (j := (4 : Int32)) (inb_of zS10 ⟨by decide, by decide⟩) (g := (mkF m 33 #[.val (.int p1), .val (.int p2), .unset, .unset, .unset, .unset] [(.int (413 : Int32)), (.int (4 : Int32)), (.ref b1), (.ref b1)])) rfl rfl (hb hby at_33)
  refine Gl.of st11 ?_
  have V11 : Arv Z h11 b1 k1 .int (8 : Int32) [(.int (400 : Int32)), (.int (404 : Int32)), (.int (405 : Int32)), (.int (409 : Int32)), (.int (413 : Int32)), (.int (0 : Int32)), (.int (0 : Int32)), (.int (0 : Int32))] (.int (0 : Int32)) := Arv.set zAr10 zq10 zS10 zM10 zH10 zG10 rfl W11 4 rfl (Nat.le_of_ble_eq_true rfl)
  have N11 := Fr.snoc X11 N9 Gb1
  have O11 := O9.wr W11 Gb1
  show Gl p e below _ (T11.setTop (mkF m 34 #[.val (.int p1), .val (.int p2), .unset, .unset, .unset, .unset] [(.ref b1)]))
  refine Gl.of (fun _ k => XS.dup X11.here hx rfl (hb hby at_34) rfl rfl k) ?_
  show Gl p e below _ (T11.setTop (mkF m 35 #[.val (.int p1), .val (.int p2), .unset, .unset, .unset, .unset] [(.ref b1), (.ref b1)]))
  refine Gl.of (fun _ k => XS.iconst X11.here hx rfl (hb hby at_35) k) ?_
  show Gl p e below _ (T11.setTop (mkF m 36 #[.val (.int p1), .val (.int p2), .unset, .unset, .unset, .unset] [(.int (5 : Int32)), (.ref b1), (.ref b1)]))
  refine Gl.of (fun _ k => XS.sipush X11.here hx rfl (hb hby at_36) k) ?_
  show Gl p e below _ (T11.setTop (mkF m 39 #[.val (.int p1), .val (.int p2), .unset, .unset, .unset, .unset] [(.int (500 : Int32)), (.int (5 : Int32)), (.ref b1), (.ref b1)]))
  obtain ⟨zcl12, zAr12, zq12, zS12, zM12, zH12, zG12⟩ := id V11
  obtain ⟨T13, h13, X13, e13, W13, st13⟩ := stI X11 hx hZ e11 zAr12 (j := (5 : Int32)) (inb_of zS12 ⟨by decide, by decide⟩) (g := (mkF m 39 #[.val (.int p1), .val (.int p2), .unset, .unset, .unset, .unset] [(.int (500 : Int32)), (.int (5 : Int32)), (.ref b1), (.ref b1)])) rfl rfl (hb hby at_39)
  refine Gl.of st13 ?_
  have V13 : Arv Z h13 b1 k1 .int (8 : Int32) [(.int (400 : Int32)), (.int (404 : Int32)), (.int (405 : Int32)), (.int (409 : Int32)), (.int (413 : Int32)), (.int (500 : Int32)), (.int (0 : Int32)), (.int (0 : Int32))] (.int (0 : Int32)) := Arv.set zAr12 zq12 zS12 zM12 zH12 zG12 rfl W13 5 rfl (Nat.le_of_ble_eq_true rfl)
  have N13 := Fr.snoc X13 N11 Gb1
  have O13 := O11.wr W13 Gb1
  show Gl p e below _ (T13.setTop (mkF m 40 #[.val (.int p1), .val (.int p2), .unset, .unset, .unset, .unset] [(.ref b1)]))
  refine Gl.of (fun _ k => XS.dup X13.here hx rfl (hb hby at_40) rfl rfl k) ?_
  show Gl p e below _ (T13.setTop (mkF m 41 #[.val (.int p1), .val (.int p2), .unset, .unset, .unset, .unset] [(.ref b1), (.ref b1)]))
  refine Gl.of (fun _ k => XS.bipush X13.here hx rfl (hb hby at_41) k) ?_
  show Gl p e below _ (T13.setTop (mkF m 43 #[.val (.int p1), .val (.int p2), .unset, .unset, .unset, .unset] [(.int (6 : Int32)), (.ref b1), (.ref b1)]))
  refine Gl.of (fun _ k => XS.sipush X13.here hx rfl (hb hby at_43) k) ?_
  show Gl p e below _ (T13.setTop (mkF m 46 #[.val (.int p1), .val (.int p2), .unset, .unset, .unset, .unset] [(.int (399 : Int32)), (.int (6 : Int32)), (.ref b1), (.ref b1)]))
  obtain ⟨zcl14, zAr14, zq14, zS14, zM14, zH14, zG14⟩ := id V13
  obtain ⟨T15, h15, X15, e15, W15, st15⟩ := stI X13 hx hZ e13 zAr14 (j := (6 : Int32)) (inb_of zS14 ⟨by decide, by decide⟩) (g := (mkF m 46 #[.val (.int p1), .val (.int p2), .unset, .unset, .unset, .unset] [(.int (399 : Int32)), (.int (6 : Int32)), (.ref b1), (.ref b1)])) rfl rfl (hb hby at_46)
  refine Gl.of st15 ?_
  have V15 : Arv Z h15 b1 k1 .int (8 : Int32) [(.int (400 : Int32)), (.int (404 : Int32)), (.int (405 : Int32)), (.int (409 : Int32)), (.int (413 : Int32)), (.int (500 : Int32)), (.int (399 : Int32)), (.int (0 : Int32))] (.int (0 : Int32)) := Arv.set zAr14 zq14 zS14 zM14 zH14 zG14 rfl W15 6 rfl (Nat.le_of_ble_eq_true rfl)
  have N15 := Fr.snoc X15 N13 Gb1
  have O15 := O13.wr W15 Gb1
  show Gl p e below _ (T15.setTop (mkF m 47 #[.val (.int p1), .val (.int p2), .unset, .unset, .unset, .unset] [(.ref b1)]))
  refine Gl.of (fun _ k => XS.dup X15.here hx rfl (hb hby at_47) rfl rfl k) ?_
  show Gl p e below _ (T15.setTop (mkF m 48 #[.val (.int p1), .val (.int p2), .unset, .unset, .unset, .unset] [(.ref b1), (.ref b1)]))
  refine Gl.of (fun _ k => XS.bipush X15.here hx rfl (hb hby at_48) k) ?_
  show Gl p e below _ (T15.setTop (mkF m 50 #[.val (.int p1), .val (.int p2), .unset, .unset, .unset, .unset] [(.int (7 : Int32)), (.ref b1), (.ref b1)]))
  refine Gl.of (fun _ k => XS.sipush X15.here hx rfl (hb hby at_50) k) ?_
  show Gl p e below _ (T15.setTop (mkF m 53 #[.val (.int p1), .val (.int p2), .unset, .unset, .unset, .unset] [(.int (499 : Int32)), (.int (7 : Int32)), (.ref b1), (.ref b1)]))
  obtain ⟨zcl16, zAr16, zq16, zS16, zM16, zH16, zG16⟩ := id V15
  obtain ⟨T17, h17, X17, e17, W17, st17⟩ := stI X15 hx hZ e15 zAr16 (j := (7 : Int32)) (inb_of zS16 ⟨by decide, by decide⟩) (g := (mkF m 53 #[.val (.int p1), .val (.int p2), .unset, .unset, .unset, .unset] [(.int (499 : Int32)), (.int (7 : Int32)), (.ref b1), (.ref b1)])) rfl rfl (hb hby at_53)
  refine Gl.of st17 ?_
  have V17 : Arv Z h17 b1 k1 .int (8 : Int32) [(.int (400 : Int32)), (.int (404 : Int32)), (.int (405 : Int32)), (.int (409 : Int32)), (.int (413 : Int32)), (.int (500 : Int32)), (.int (399 : Int32)), (.int (499 : Int32))] (.int (0 : Int32)) := Arv.set zAr16 zq16 zS16 zM16 zH16 zG16 rfl W17 7 rfl (Nat.le_of_ble_eq_true rfl)
  have N17 := Fr.snoc X17 N15 Gb1
  have O17 := O15.wr W17 Gb1
  show Gl p e below _ (T17.setTop (mkF m 54 #[.val (.int p1), .val (.int p2), .unset, .unset, .unset, .unset] [(.ref b1)]))
  refine Gl.of (fun _ k => XS.astoreN X17.here hx rfl (hb hby at_54) rfl rfl (l' := #[.val (.int p1), .val (.int p2), .val (.ref b1), .unset, .unset, .unset]) rfl k) ?_
  show Gl p e below _ (T17.setTop (mkF m 55 #[.val (.int p1), .val (.int p2), .val (.ref b1), .unset, .unset, .unset] []))
  refine Gl.of (fun _ k => XS.iloadN X17.here hx rfl (hb hby at_55) rfl k) ?_
  show Gl p e below _ (T17.setTop (mkF m 56 #[.val (.int p1), .val (.int p2), .val (.ref b1), .unset, .unset, .unset] [(.int p1)]))
  refine Gl.of (fun _ k => XS.iconst X17.here hx rfl (hb hby at_56) k) ?_
  show Gl p e below _ (T17.setTop (mkF m 57 #[.val (.int p1), .val (.int p2), .val (.ref b1), .unset, .unset, .unset] [(.int (3 : Int32)), (.int p1)]))
  refine Gl.of (fun _ k => XS.iand X17.here hx rfl (hb hby at_57) rfl k) ?_
  show Gl p e below _ (T17.setTop (mkF m 58 #[.val (.int p1), .val (.int p2), .val (.ref b1), .unset, .unset, .unset] [(.int (p1 &&& (3 : Int32)))]))
  refine Gl.of (fun _ k => XS.istoreN X17.here hx rfl (hb hby at_58) rfl (l' := #[.val (.int p1), .val (.int p2), .val (.ref b1), .val (.int (p1 &&& (3 : Int32))), .unset, .unset]) rfl k) ?_
  have J119 : ∀ x : Int32, Gl p e below (Gd s (fun v h L => v = some (.int 1) ∧ Fr n0 L) 16 128) (T17.setTop (mkF m 119 #[.val (.int p1), .val (.int p2), .val (.ref b1), .val (.int (p1 &&& (3 : Int32))), .val (.int x), .unset] [])) := by
    intro x
    show Gl p e below _ (T17.setTop (mkF m 119 #[.val (.int p1), .val (.int p2), .val (.ref b1), .val (.int (p1 &&& (3 : Int32))), .val (.int x), .unset] []))
    refine Gl.of (fun _ k => XS.iload X17.here hx rfl (hb hby at_119) rfl k) ?_
    show Gl p e below _ (T17.setTop (mkF m 121 #[.val (.int p1), .val (.int p2), .val (.ref b1), .val (.int (p1 &&& (3 : Int32))), .val (.int x), .unset] [(.int x)]))
    refine Gl.callS X17 hx hZ (y := (⟨"com/example/jobd/jobd/http/ErrorCode", "forStatus", "(I)Lcom/example/jobd/jobd/http/ErrorCode;"⟩ : MethodName)) hown (w1 hw) (w2 hw) (w3 hw) (w4 hw) (desc_ne (by decide)) (rm := { frames := 2, cells := 1, slots := 6, locals := 25 }) (argsL := [(.int x)]) (rest := []) (rm2 l Z a0 hw _ x ec0 ec1 ec2 ec3 ec4 ec5 ac clc n0 Sv Av Ev Fv zv S0 S1 S2 S3 S4 S5 F0 F1 F2 F3 F4 F5 hv0 hv1 hv2 hv3 hv4 hv5 O17) 0 (by decide) (by decide) (by decide) (by decide) e17 (pc := 121) (Ls := #[.val (.int p1), .val (.int p2), .val (.ref b1), .val (.int (p1 &&& (3 : Int32))), .val (.int x), .unset]) (st := [(.int x)]) (by rw [hml]; rfl) pd_1 rfl rfl (Nat.le_of_eq rfl) (hb hby at_121) ?_
    intro v18 T18 L18 X18 hQ18
    obtain ⟨rfl, E18, rfl⟩ := hQ18
    have N18 := Fr.app N17 (Fr.nil n0)
    have vc19 := V17.ext E18
    have O18 := O17.ext E18
    show Gl p e below _ (T18.setTop (mkF m 124 #[.val (.int p1), .val (.int p2), .val (.ref b1), .val (.int (p1 &&& (3 : Int32))), .val (.int x), .unset] [(.ref (own_for ec0 ec1 ec2 ec3 ec4 ec5 x))]))
    refine Gl.of (fun _ k => XS.astore X18.here hx rfl (hb hby at_124) rfl rfl (l' := #[.val (.int p1), .val (.int p2), .val (.ref b1), .val (.int (p1 &&& (3 : Int32))), .val (.int x), .val (.ref (own_for ec0 ec1 ec2 ec3 ec4 ec5 x))]) rfl k) ?_
    show Gl p e below _ (T18.setTop (mkF m 126 #[.val (.int p1), .val (.int p2), .val (.ref b1), .val (.int (p1 &&& (3 : Int32))), .val (.int x), .val (.ref (own_for ec0 ec1 ec2 ec3 ec4 ec5 x))] []))
    refine Gl.of (fun _ k => XS.aload X18.here hx rfl (hb hby at_126) rfl rfl k) ?_
    show Gl p e below _ (T18.setTop (mkF m 128 #[.val (.int p1), .val (.int p2), .val (.ref b1), .val (.int (p1 &&& (3 : Int32))), .val (.int x), .val (.ref (own_for ec0 ec1 ec2 ec3 ec4 ec5 x))] [(.ref (own_for ec0 ec1 ec2 ec3 ec4 ec5 x))]))
    refine Gl.of (fun _ k => XS.iload X18.here hx rfl (hb hby at_128) rfl k) ?_
    show Gl p e below _ (T18.setTop (mkF m 130 #[.val (.int p1), .val (.int p2), .val (.ref b1), .val (.int (p1 &&& (3 : Int32))), .val (.int x), .val (.ref (own_for ec0 ec1 ec2 ec3 ec4 ec5 x))] [(.int x), (.ref (own_for ec0 ec1 ec2 ec3 ec4 ec5 x))]))
    refine Gl.callS0 X18 hx hZ (y := (⟨"com/example/jobd/jobd/http/ErrorCodeForStatusPinLaw", "expected", "(I)Lcom/example/jobd/jobd/http/ErrorCode;"⟩ : MethodName)) hown (w29 hw) (w30 hw) (w31 hw) (w32 hw) (desc_ne (by decide)) (argsL := [(.int x)]) (rest := [(.ref (own_for ec0 ec1 ec2 ec3 ec4 ec5 x))]) (rm3 l Z a0 hw _ x ec0 ec1 ec2 ec3 ec4 ec5 (S0.ext O18.2) (S1.ext O18.2) (S2.ext O18.2) (S3.ext O18.2) (S4.ext O18.2) (S5.ext O18.2)) 1 (by decide) (by decide) rfl (pc := 130) (Ls := #[.val (.int p1), .val (.int p2), .val (.ref b1), .val (.int (p1 &&& (3 : Int32))), .val (.int x), .val (.ref (own_for ec0 ec1 ec2 ec3 ec4 ec5 x))]) (st := [(.int x), (.ref (own_for ec0 ec1 ec2 ec3 ec4 ec5 x))]) (by rw [hml]; rfl) pd_1 rfl rfl (Nat.le_of_eq rfl) (hb hby at_130) (by decide) (by decide) ?_
    intro v20 T20 X20 e20 hv20
    subst hv20
    show Gl p e below _ (T20.setTop (mkF m 133 #[.val (.int p1), .val (.int p2), .val (.ref b1), .val (.int (p1 &&& (3 : Int32))), .val (.int x), .val (.ref (own_for ec0 ec1 ec2 ec3 ec4 ec5 x))] [(.ref (own_exp ec0 ec1 ec2 ec3 ec4 ec5 x)), (.ref (own_for ec0 ec1 ec2 ec3 ec4 ec5 x))]))
    refine Gl.of (fun _ k => Jvm.RoadKit.acmp (g := (mkF m 133 #[.val (.int p1), .val (.int p2), .val (.ref b1), .val (.int (p1 &&& (3 : Int32))), .val (.int x), .val (.ref (own_for ec0 ec1 ec2 ec3 ec4 ec5 x))] [(.ref (own_exp ec0 ec1 ec2 ec3 ec4 ec5 x)), (.ref (own_for ec0 ec1 ec2 ec3 ec4 ec5 x))])) X20 hx rfl rfl rfl (pc0 := 133) (pc' := 136) (same := true) rfl (hb hby at_133) rfl (decide_eq_true (congrArg Value.ref (own_fe ec0 ec1 ec2 ec3 ec4 ec5 x : (own_for ec0 ec1 ec2 ec3 ec4 ec5 x) = (own_exp ec0 ec1 ec2 ec3 ec4 ec5 x)))) (by decide) (by decide) k) ?_
    show Gl p e below _ (T20.setTop (mkF m 136 #[.val (.int p1), .val (.int p2), .val (.ref b1), .val (.int (p1 &&& (3 : Int32))), .val (.int x), .val (.ref (own_for ec0 ec1 ec2 ec3 ec4 ec5 x))] []))
    refine Gl.of (fun _ k => XS.iconst X20.here hx rfl (hb hby at_136) k) ?_
    show Gl p e below _ (T20.setTop (mkF m 137 #[.val (.int p1), .val (.int p2), .val (.ref b1), .val (.int (p1 &&& (3 : Int32))), .val (.int x), .val (.ref (own_for ec0 ec1 ec2 ec3 ec4 ec5 x))] [(.int (1 : Int32))]))
    refine Gl.of (fun _ k => XS.goto X20.here hx rfl (pc0 := 137) (pc' := 141) rfl (hb hby at_137) (by decide) (by decide) k) ?_
    show Gl p e below _ (T20.setTop (mkF m 141 #[.val (.int p1), .val (.int p2), .val (.ref b1), .val (.int (p1 &&& (3 : Int32))), .val (.int x), .val (.ref (own_for ec0 ec1 ec2 ec3 ec4 ec5 x))] [(.int (1 : Int32))]))
    exact Gl.retN X20 hx hlk hret (by simp) (hb hby at_141) e20 (⟨rfl, N18⟩) (by decide) (by decide)
  show Gl p e below _ (T17.setTop (mkF m 59 #[.val (.int p1), .val (.int p2), .val (.ref b1), .val (.int (p1 &&& (3 : Int32))), .unset, .unset] []))
  refine Gl.of (fun _ k => XS.iloadN X17.here hx rfl (hb hby at_59) rfl k) ?_
  show Gl p e below _ (T17.setTop (mkF m 60 #[.val (.int p1), .val (.int p2), .val (.ref b1), .val (.int (p1 &&& (3 : Int32))), .unset, .unset] [(.int (p1 &&& (3 : Int32)))]))
  by_cases hc60_21 : (p1 &&& (3 : Int32)) = (0 : Int32)
  · refine Gl.of (fun _ k => XS.ifNo X17.here hx rfl (hb hby at_60) rfl ((if0 _ _).trans (teq hc60_21).2) k) ?_
    show Gl p e below _ (T17.setTop (mkF m 63 #[.val (.int p1), .val (.int p2), .val (.ref b1), .val (.int (p1 &&& (3 : Int32))), .unset, .unset] []))
    refine Gl.of (fun _ k => XS.iloadN X17.here hx rfl (hb hby at_63) rfl k) ?_
    show Gl p e below _ (T17.setTop (mkF m 64 #[.val (.int p1), .val (.int p2), .val (.ref b1), .val (.int (p1 &&& (3 : Int32))), .unset, .unset] [(.int p2)]))
    refine Gl.of (fun _ k => XS.istore X17.here hx rfl (hb hby at_64) rfl (l' := #[.val (.int p1), .val (.int p2), .val (.ref b1), .val (.int (p1 &&& (3 : Int32))), .val (.int p2), .unset]) rfl k) ?_
    show Gl p e below _ (T17.setTop (mkF m 66 #[.val (.int p1), .val (.int p2), .val (.ref b1), .val (.int (p1 &&& (3 : Int32))), .val (.int p2), .unset] []))
    refine Gl.of (fun _ k => XS.goto X17.here hx rfl (pc0 := 66) (pc' := 119) rfl (hb hby at_66) (by decide) (by decide) k) ?_
    show Gl p e below _ (T17.setTop (mkF m 119 #[.val (.int p1), .val (.int p2), .val (.ref b1), .val (.int (p1 &&& (3 : Int32))), .val (.int p2), .unset] []))
    exact J119 _
  · refine Gl.of (fun _ k => XS.ifYes X17.here hx rfl (pc0 := 60) (pc' := 69) rfl (hb hby at_60) rfl ((if0 _ _).trans (feq hc60_21).2) (by decide) (by decide) k) ?_
    show Gl p e below _ (T17.setTop (mkF m 69 #[.val (.int p1), .val (.int p2), .val (.ref b1), .val (.int (p1 &&& (3 : Int32))), .unset, .unset] []))
    refine Gl.of (fun _ k => XS.iloadN X17.here hx rfl (hb hby at_69) rfl k) ?_
    show Gl p e below _ (T17.setTop (mkF m 70 #[.val (.int p1), .val (.int p2), .val (.ref b1), .val (.int (p1 &&& (3 : Int32))), .unset, .unset] [(.int (p1 &&& (3 : Int32)))]))
    refine Gl.of (fun _ k => XS.iconst X17.here hx rfl (hb hby at_70) k) ?_
    show Gl p e below _ (T17.setTop (mkF m 71 #[.val (.int p1), .val (.int p2), .val (.ref b1), .val (.int (p1 &&& (3 : Int32))), .unset, .unset] [(.int (1 : Int32)), (.int (p1 &&& (3 : Int32)))]))
    by_cases hc71_22 : (p1 &&& (3 : Int32)) = (1 : Int32)
    · refine Gl.of (fun _ k => XS.icmpNo X17.here hx rfl (hb hby at_71) rfl (teq hc71_22).2 k) ?_
      show Gl p e below _ (T17.setTop (mkF m 74 #[.val (.int p1), .val (.int p2), .val (.ref b1), .val (.int (p1 &&& (3 : Int32))), .unset, .unset] []))
      refine Gl.of (fun _ k => XS.sipush X17.here hx rfl (hb hby at_74) k) ?_
      show Gl p e below _ (T17.setTop (mkF m 77 #[.val (.int p1), .val (.int p2), .val (.ref b1), .val (.int (p1 &&& (3 : Int32))), .unset, .unset] [(.int (398 : Int32))]))
      refine Gl.of (fun _ k => XS.iloadN X17.here hx rfl (hb hby at_77) rfl k) ?_
      show Gl p e below _ (T17.setTop (mkF m 78 #[.val (.int p1), .val (.int p2), .val (.ref b1), .val (.int (p1 &&& (3 : Int32))), .unset, .unset] [(.int p2), (.int (398 : Int32))]))
      refine Gl.of (fun _ k => X17.ldcInt hx hown (mvT hZ (w35 hw)) (g := (mkF m 78 #[.val (.int p1), .val (.int p2), .val (.ref b1), .val (.int (p1 &&& (3 : Int32))), .unset, .unset] [(.int p2), (.int (398 : Int32))])) rfl (hb hby at_78) _ k) ?_
      show Gl p e below _ (T17.setTop (mkF m 80 #[.val (.int p1), .val (.int p2), .val (.ref b1), .val (.int (p1 &&& (3 : Int32))), .unset, .unset] [(.int (2147483647 : Int32)), (.int p2), (.int (398 : Int32))]))
      refine Gl.of (fun _ k => XS.iand X17.here hx rfl (hb hby at_80) rfl k) ?_
      show Gl p e below _ (T17.setTop (mkF m 81 #[.val (.int p1), .val (.int p2), .val (.ref b1), .val (.int (p1 &&& (3 : Int32))), .unset, .unset] [(.int (p2 &&& (2147483647 : Int32))), (.int (398 : Int32))]))
      refine Gl.of (fun _ k => XS.bipush X17.here hx rfl (hb hby at_81) k) ?_
      show Gl p e below _ (T17.setTop (mkF m 83 #[.val (.int p1), .val (.int p2), .val (.ref b1), .val (.int (p1 &&& (3 : Int32))), .unset, .unset] [(.int (105 : Int32)), (.int (p2 &&& (2147483647 : Int32))), (.int (398 : Int32))]))
      refine Gl.of (fun _ k => iremM X17 hx rfl (hb hby at_83) rfl (by decide) k) ?_
      show Gl p e below _ (T17.setTop (mkF m 84 #[.val (.int p1), .val (.int p2), .val (.ref b1), .val (.int (p1 &&& (3 : Int32))), .unset, .unset] [(.int ((p2 &&& (2147483647 : Int32)) % (105 : Int32))), (.int (398 : Int32))]))
      refine Gl.of (fun _ k => XS.iadd X17.here hx rfl (hb hby at_84) rfl k) ?_
      show Gl p e below _ (T17.setTop (mkF m 85 #[.val (.int p1), .val (.int p2), .val (.ref b1), .val (.int (p1 &&& (3 : Int32))), .unset, .unset] [(.int ((398 : Int32) + ((p2 &&& (2147483647 : Int32)) % (105 : Int32))))]))
      refine Gl.of (fun _ k => XS.istore X17.here hx rfl (hb hby at_85) rfl (l' := #[.val (.int p1), .val (.int p2), .val (.ref b1), .val (.int (p1 &&& (3 : Int32))), .val (.int ((398 : Int32) + ((p2 &&& (2147483647 : Int32)) % (105 : Int32)))), .unset]) rfl k) ?_
      show Gl p e below _ (T17.setTop (mkF m 87 #[.val (.int p1), .val (.int p2), .val (.ref b1), .val (.int (p1 &&& (3 : Int32))), .val (.int ((398 : Int32) + ((p2 &&& (2147483647 : Int32)) % (105 : Int32)))), .unset] []))
      refine Gl.of (fun _ k => XS.goto X17.here hx rfl (pc0 := 87) (pc' := 119) rfl (hb hby at_87) (by decide) (by decide) k) ?_
      show Gl p e below _ (T17.setTop (mkF m 119 #[.val (.int p1), .val (.int p2), .val (.ref b1), .val (.int (p1 &&& (3 : Int32))), .val (.int ((398 : Int32) + ((p2 &&& (2147483647 : Int32)) % (105 : Int32)))), .unset] []))
      exact J119 _
    · refine Gl.of (fun _ k => XS.icmpYes X17.here hx rfl (pc0 := 71) (pc' := 90) rfl (hb hby at_71) rfl (feq hc71_22).2 (by decide) (by decide) k) ?_
      show Gl p e below _ (T17.setTop (mkF m 90 #[.val (.int p1), .val (.int p2), .val (.ref b1), .val (.int (p1 &&& (3 : Int32))), .unset, .unset] []))
      refine Gl.of (fun _ k => XS.iloadN X17.here hx rfl (hb hby at_90) rfl k) ?_
      show Gl p e below _ (T17.setTop (mkF m 91 #[.val (.int p1), .val (.int p2), .val (.ref b1), .val (.int (p1 &&& (3 : Int32))), .unset, .unset] [(.int (p1 &&& (3 : Int32)))]))
      refine Gl.of (fun _ k => XS.iconst X17.here hx rfl (hb hby at_91) k) ?_
      show Gl p e below _ (T17.setTop (mkF m 92 #[.val (.int p1), .val (.int p2), .val (.ref b1), .val (.int (p1 &&& (3 : Int32))), .unset, .unset] [(.int (2 : Int32)), (.int (p1 &&& (3 : Int32)))]))
      by_cases hc92_23 : (p1 &&& (3 : Int32)) = (2 : Int32)
      · refine Gl.of (fun _ k => XS.icmpNo X17.here hx rfl (hb hby at_92) rfl (teq hc92_23).2 k) ?_
        show Gl p e below _ (T17.setTop (mkF m 95 #[.val (.int p1), .val (.int p2), .val (.ref b1), .val (.int (p1 &&& (3 : Int32))), .unset, .unset] []))
        refine Gl.of (fun _ k => XS.aloadN X17.here hx rfl (hb hby at_95) rfl rfl k) ?_
        show Gl p e below _ (T17.setTop (mkF m 96 #[.val (.int p1), .val (.int p2), .val (.ref b1), .val (.int (p1 &&& (3 : Int32))), .unset, .unset] [(.ref b1)]))
        refine Gl.of (fun _ k => XS.iloadN X17.here hx rfl (hb hby at_96) rfl k) ?_
        show Gl p e below _ (T17.setTop (mkF m 97 #[.val (.int p1), .val (.int p2), .val (.ref b1), .val (.int (p1 &&& (3 : Int32))), .unset, .unset] [(.int p2), (.ref b1)]))
        refine Gl.of (fun _ k => XS.bipush X17.here hx rfl (hb hby at_97) k) ?_
        show Gl p e below _ (T17.setTop (mkF m 99 #[.val (.int p1), .val (.int p2), .val (.ref b1), .val (.int (p1 &&& (3 : Int32))), .unset, .unset] [(.int (7 : Int32)), (.int p2), (.ref b1)]))
        refine Gl.of (fun _ k => XS.iand X17.here hx rfl (hb hby at_99) rfl k) ?_
        show Gl p e below _ (T17.setTop (mkF m 100 #[.val (.int p1), .val (.int p2), .val (.ref b1), .val (.int (p1 &&& (3 : Int32))), .unset, .unset] [(.int (p2 &&& (7 : Int32))), (.ref b1)]))
        obtain ⟨zcl24, zAr24, zq24, zS24, zM24, zH24, zG24⟩ := id V17
        obtain ⟨zz, hzz⟩ := own_pick zS24 zH24 (own_lt8 (own_and7 p2))
        refine Gl.of (fun _ k => X17.iaload hx (j := (p2 &&& (7 : Int32))) (v := (.int zz)) (by rw [e17]; exact (zAr24).1) (State.isArrayOf_alike hZ.alike (zAr24).2.1) (zAr24).2.2 (inb_of zS24 (own_and7 p2)) hzz (g := (mkF m 100 #[.val (.int p1), .val (.int p2), .val (.ref b1), .val (.int (p1 &&& (3 : Int32))), .unset, .unset] [(.int (p2 &&& (7 : Int32))), (.ref b1)])) rfl rfl (hb hby at_100) _ k) ?_
        show Gl p e below _ (T17.setTop (mkF m 101 #[.val (.int p1), .val (.int p2), .val (.ref b1), .val (.int (p1 &&& (3 : Int32))), .unset, .unset] [(.int zz)]))
        refine Gl.of (fun _ k => XS.istore X17.here hx rfl (hb hby at_101) rfl (l' := #[.val (.int p1), .val (.int p2), .val (.ref b1), .val (.int (p1 &&& (3 : Int32))), .val (.int zz), .unset]) rfl k) ?_
        show Gl p e below _ (T17.setTop (mkF m 103 #[.val (.int p1), .val (.int p2), .val (.ref b1), .val (.int (p1 &&& (3 : Int32))), .val (.int zz), .unset] []))
        refine Gl.of (fun _ k => XS.goto X17.here hx rfl (pc0 := 103) (pc' := 119) rfl (hb hby at_103) (by decide) (by decide) k) ?_
        show Gl p e below _ (T17.setTop (mkF m 119 #[.val (.int p1), .val (.int p2), .val (.ref b1), .val (.int (p1 &&& (3 : Int32))), .val (.int zz), .unset] []))
        exact J119 _
      · refine Gl.of (fun _ k => XS.icmpYes X17.here hx rfl (pc0 := 92) (pc' := 106) rfl (hb hby at_92) rfl (feq hc92_23).2 (by decide) (by decide) k) ?_
        show Gl p e below _ (T17.setTop (mkF m 106 #[.val (.int p1), .val (.int p2), .val (.ref b1), .val (.int (p1 &&& (3 : Int32))), .unset, .unset] []))
        refine Gl.of (fun _ k => XS.sipush X17.here hx rfl (hb hby at_106) k) ?_
        show Gl p e below _ (T17.setTop (mkF m 109 #[.val (.int p1), .val (.int p2), .val (.ref b1), .val (.int (p1 &&& (3 : Int32))), .unset, .unset] [(.int (495 : Int32))]))
        refine Gl.of (fun _ k => XS.iloadN X17.here hx rfl (hb hby at_109) rfl k) ?_
        show Gl p e below _ (T17.setTop (mkF m 110 #[.val (.int p1), .val (.int p2), .val (.ref b1), .val (.int (p1 &&& (3 : Int32))), .unset, .unset] [(.int p2), (.int (495 : Int32))]))
        refine Gl.of (fun _ k => X17.ldcInt hx hown (mvT hZ (w35 hw)) (g := (mkF m 110 #[.val (.int p1), .val (.int p2), .val (.ref b1), .val (.int (p1 &&& (3 : Int32))), .unset, .unset] [(.int p2), (.int (495 : Int32))])) rfl (hb hby at_110) _ k) ?_
        show Gl p e below _ (T17.setTop (mkF m 112 #[.val (.int p1), .val (.int p2), .val (.ref b1), .val (.int (p1 &&& (3 : Int32))), .unset, .unset] [(.int (2147483647 : Int32)), (.int p2), (.int (495 : Int32))]))
        refine Gl.of (fun _ k => XS.iand X17.here hx rfl (hb hby at_112) rfl k) ?_
        show Gl p e below _ (T17.setTop (mkF m 113 #[.val (.int p1), .val (.int p2), .val (.ref b1), .val (.int (p1 &&& (3 : Int32))), .unset, .unset] [(.int (p2 &&& (2147483647 : Int32))), (.int (495 : Int32))]))
        refine Gl.of (fun _ k => XS.bipush X17.here hx rfl (hb hby at_113) k) ?_
        show Gl p e below _ (T17.setTop (mkF m 115 #[.val (.int p1), .val (.int p2), .val (.ref b1), .val (.int (p1 &&& (3 : Int32))), .unset, .unset] [(.int (10 : Int32)), (.int (p2 &&& (2147483647 : Int32))), (.int (495 : Int32))]))
        refine Gl.of (fun _ k => iremM X17 hx rfl (hb hby at_115) rfl (by decide) k) ?_
        show Gl p e below _ (T17.setTop (mkF m 116 #[.val (.int p1), .val (.int p2), .val (.ref b1), .val (.int (p1 &&& (3 : Int32))), .unset, .unset] [(.int ((p2 &&& (2147483647 : Int32)) % (10 : Int32))), (.int (495 : Int32))]))
        refine Gl.of (fun _ k => XS.iadd X17.here hx rfl (hb hby at_116) rfl k) ?_
        show Gl p e below _ (T17.setTop (mkF m 117 #[.val (.int p1), .val (.int p2), .val (.ref b1), .val (.int (p1 &&& (3 : Int32))), .unset, .unset] [(.int ((495 : Int32) + ((p2 &&& (2147483647 : Int32)) % (10 : Int32))))]))
        refine Gl.of (fun _ k => XS.istore X17.here hx rfl (hb hby at_117) rfl (l' := #[.val (.int p1), .val (.int p2), .val (.ref b1), .val (.int (p1 &&& (3 : Int32))), .val (.int ((495 : Int32) + ((p2 &&& (2147483647 : Int32)) % (10 : Int32)))), .unset]) rfl k) ?_
        show Gl p e below _ (T17.setTop (mkF m 119 #[.val (.int p1), .val (.int p2), .val (.ref b1), .val (.int (p1 &&& (3 : Int32))), .val (.int ((495 : Int32) + ((p2 &&& (2147483647 : Int32)) % (10 : Int32)))), .unset] []))
        exact J119 _
theorem w23 {Z : State} {a0 : Array Value} (hw : ∀ d ∈ tables_1, d.before a0 Z = true) : (Jvm.Cond.initializedFor "com/example/jobd/jobd/http/ErrorCode" "$VALUES" "[Lcom/example/jobd/jobd/http/ErrorCode;").before a0 Z = true := hw _ (List.mem_of_getElem? (i := 23) rfl)
theorem w17 {Z : State} {a0 : Array Value} (hw : ∀ d ∈ tables_1, d.before a0 Z = true) : (Jvm.Cond.laysStatic "com/example/jobd/jobd/http/ErrorCode" "BAD_REQUEST" "Lcom/example/jobd/jobd/http/ErrorCode;").before a0 Z = true := hw _ (List.mem_of_getElem? (i := 17) rfl)
theorem w18 {Z : State} {a0 : Array Value} (hw : ∀ d ∈ tables_1, d.before a0 Z = true) : (Jvm.Cond.laysStatic "com/example/jobd/jobd/http/ErrorCode" "NOT_FOUND" "Lcom/example/jobd/jobd/http/ErrorCode;").before a0 Z = true := hw _ (List.mem_of_getElem? (i := 18) rfl)
theorem w19 {Z : State} {a0 : Array Value} (hw : ∀ d ∈ tables_1, d.before a0 Z = true) : (Jvm.Cond.laysStatic "com/example/jobd/jobd/http/ErrorCode" "METHOD_NOT_ALLOWED" "Lcom/example/jobd/jobd/http/ErrorCode;").before a0 Z = true := hw _ (List.mem_of_getElem? (i := 19) rfl)
theorem w20 {Z : State} {a0 : Array Value} (hw : ∀ d ∈ tables_1, d.before a0 Z = true) : (Jvm.Cond.laysStatic "com/example/jobd/jobd/http/ErrorCode" "CONFLICT" "Lcom/example/jobd/jobd/http/ErrorCode;").before a0 Z = true := hw _ (List.mem_of_getElem? (i := 20) rfl)
theorem w21 {Z : State} {a0 : Array Value} (hw : ∀ d ∈ tables_1, d.before a0 Z = true) : (Jvm.Cond.laysStatic "com/example/jobd/jobd/http/ErrorCode" "PAYLOAD_TOO_LARGE" "Lcom/example/jobd/jobd/http/ErrorCode;").before a0 Z = true := hw _ (List.mem_of_getElem? (i := 21) rfl)
theorem w22 {Z : State} {a0 : Array Value} (hw : ∀ d ∈ tables_1, d.before a0 Z = true) : (Jvm.Cond.laysStatic "com/example/jobd/jobd/http/ErrorCode" "INTERNAL_ERROR" "Lcom/example/jobd/jobd/http/ErrorCode;").before a0 Z = true := hw _ (List.mem_of_getElem? (i := 22) rfl)
set_option maxRecDepth 65536 in
set_option maxHeartbeats 40000000 in
theorem comes_1 {Post : Tables → Env → Array Value → State → Outcome → State → Prop} (hpost : ∀ tb e args s v u, (limb_1_1.after args s (.returned v) u = true ∧ limb_1_2.after args s (.returned v) u = true ∧ True) → FrameEnd s (.returned v) u (Jvm.fieldLocs frame_1_writes args s ++ Jvm.arrayLocs frame_1_arrays args s ++ Jvm.staticLocs frame_1_statics s) 16 128 → Post tb e args s (.returned v) u) :
    ArmFor flags0 classFile x code maxLocals ret World_1 tables_1 room_1 Calls_1 rest_1 Pre_1 Post := by
  intro l hfl _ _ p e ha hc hk s m args below hf hA hF happ hP
  obtain ⟨hcalls, hrest, hpre⟩ := hP
  obtain ⟨-, -, -, hnamed, -, -, -, hat⟩ := (Spec.applies_iff hf).mp happ
  obtain ⟨hg, hn⟩ := and_e (Cond.before_iff.mp (show (Jvm.Cond.and given_1 narrow_1).before args s = true from hpre))
  obtain ⟨g_c, q_g_c⟩ := and_e hg
  obtain ⟨g_0, q_g_0⟩ := and_e q_g_c
  have g_1 := q_g_0
  obtain ⟨w_0, w_1, rfl⟩ : ∃ w_0 w_1 : Value, args = #[w_0, w_1] := by
    have hs : args.size = 2 := by simpa [Cond.value, given_1] using g_c
    obtain ⟨L⟩ := args
    match L, hs with
    | [w_0, w_1], _ => exact ⟨w_0, w_1, rfl⟩
  have hw := fun d (hd : d ∈ tables_1) => atoms_spec (ws := Jvm.Cond.code x code maxLocals ret :: tables_1) hat d (List.mem_cons_of_mem _ hd)
  have hfit : Fit s := fun {y c} hc i hi => by
    obtain ⟨ha, rfl⟩ := Array.getElem?_eq_some_iff.mp hc
    have q := List.all_eq_true.mp ((Array.all_eq_true_iff_forall_mem.mp hF) _ (Array.getElem_mem ha)) i (List.mem_range.mpr hi)
    simpa [Array.getElem?_eq_getElem hi] using q
  obtain ⟨p1, ei0⟩ := is_v g_0
  obtain rfl : w_0 = (.int p1) := Option.some.inj ei0
  obtain ⟨p2, ei1⟩ := is_v g_1
  obtain rfl : w_1 = (.int p2) := Option.some.inj ei1
  obtain ⟨n0, q_n0⟩ := and_e hn
  obtain ⟨n1, q_n1⟩ := and_e q_n0
  obtain ⟨n2, q_n2⟩ := and_e q_n1
  obtain ⟨n3, q_n3⟩ := and_e q_n2
  obtain ⟨n4, q_n4⟩ := and_e q_n3
  obtain ⟨n5, q_n5⟩ := and_e q_n4
  obtain ⟨n6, q_n6⟩ := and_e q_n5
  obtain ⟨n7, q_n7⟩ := and_e q_n6
  obtain ⟨n8, q_n8⟩ := and_e q_n7
  obtain ⟨n9, q_n9⟩ := and_e q_n8
  obtain ⟨n10, q_n10⟩ := and_e q_n9
  obtain ⟨n11, q_n11⟩ := and_e q_n10
  obtain ⟨n12, q_n12⟩ := and_e q_n11
  obtain ⟨n13, q_n13⟩ := and_e q_n12
  obtain ⟨n14, q_n14⟩ := and_e q_n13
  obtain ⟨n15, q_n15⟩ := and_e q_n14
  obtain ⟨n16, q_n16⟩ := and_e q_n15
  obtain ⟨n17, q_n17⟩ := and_e q_n16
  obtain ⟨n18, q_n18⟩ := and_e q_n17
  obtain ⟨n19, q_n19⟩ := and_e q_n18
  have n20 := q_n19
  obtain ⟨ac, ea⟩ := arr_v n0
  obtain ⟨clc, Av⟩ := Arr.start ea n0
  have Ev := Exa.start ea n1
  have Sv := Sta.start ea (Or.inl (w23 hw))
  have Fv := FitC.start hfit Av
  obtain ⟨z1, z2⟩ := len_at (eq_at n2) ea (Av.fin (Vm.Alike.refl _))
  have zv := len_sz z1 z2
  obtain ⟨ec0, e0⟩ := exa_v n3
  have S0 := Sta.start e0 (Or.inr ⟨(w3 hw), (w17 hw)⟩)
  have F0 := Fld.start ((fld_at e0).symm.trans (eq_at n15))
  have hv0 := (elem_in (eqR_at n4 e0) ea (Term.int_eval _) Av.1).2
  obtain ⟨ec1, e1⟩ := exa_v n5
  have S1 := Sta.start e1 (Or.inr ⟨(w3 hw), (w18 hw)⟩)
  have F1 := Fld.start ((fld_at e1).symm.trans (eq_at n16))
  have hv1 := (elem_in (eqR_at n6 e1) ea (Term.int_eval _) Av.1).2
  obtain ⟨ec2, e2⟩ := exa_v n7
  have S2 := Sta.start e2 (Or.inr ⟨(w3 hw), (w19 hw)⟩)
  have F2 := Fld.start ((fld_at e2).symm.trans (eq_at n17))
  have hv2 := (elem_in (eqR_at n8 e2) ea (Term.int_eval _) Av.1).2
  obtain ⟨ec3, e3⟩ := exa_v n9
  have S3 := Sta.start e3 (Or.inr ⟨(w3 hw), (w20 hw)⟩)
  have F3 := Fld.start ((fld_at e3).symm.trans (eq_at n18))
  have hv3 := (elem_in (eqR_at n10 e3) ea (Term.int_eval _) Av.1).2
  obtain ⟨ec4, e4⟩ := exa_v n11
  have S4 := Sta.start e4 (Or.inr ⟨(w3 hw), (w21 hw)⟩)
  have F4 := Fld.start ((fld_at e4).symm.trans (eq_at n19))
  have hv4 := (elem_in (eqR_at n12 e4) ea (Term.int_eval _) Av.1).2
  obtain ⟨ec5, e5⟩ := exa_v n13
  have S5 := Sta.start e5 (Or.inr ⟨(w3 hw), (w22 hw)⟩)
  have F5 := Fld.start ((fld_at e5).symm.trans (eq_at n20))
  have hv5 := (elem_in (eqR_at n14 e5) ea (Term.int_eval _) Av.1).2
  obtain ⟨n, o, h1, h2, h3, _, L, rfl, hQ, hq⟩ := rm0 l s _ hw tables_1 s.heap p1 p2 ec0 ec1 ec2 ec3 ec4 ec5 ac clc s.heap.size Sv Av Ev Fv zv S0 S1 S2 S3 S4 S5 F0 F1 F2 F3 F4 F5 hv0 hv1 hv2 hv3 hv4 hv5 (Old.start s) p e ha hc hk s m _ below hf ((Spec.applies_iff_loose hf).mp happ).1 ⟨rfl, State.Warmed39.refl s, rfl⟩ trivial
  obtain ⟨rfl, N⟩ := hQ
  exact ⟨n, _, h1, h2, h3, hpost _ _ _ _ _ _ ⟨Cond.after_iff.mpr rfl, Cond.after_iff.mpr (eq_i res_at (Term.int_eval (1)) rfl), trivial⟩ ⟨hq.1, hq.2.1, (hq.2.2.sift fun y hy => Or.inr (N y hy)).mono (by decide) (by decide)⟩⟩
theorem main_1_1 : Claimed_1_1 := comes_1 fun _ _ _ _ _ _ h hF => ⟨h.1, hF⟩
theorem main_1_2 : Claimed_1_2 := comes_1 fun _ _ _ _ _ _ h hF => ⟨h.2.1, hF⟩
end Jvm.Pilot.@@N@@
namespace Jvm.Pilot.@@N@@
open Jvm Jvm.ClassFile Sem Op Lib Jvm.Free Jvm.Stand Jvm.Pilot.@@N@@.Jvm.D
/-! MADE BY PROGRAM (witnessworld.py) out of the Statement's table words and the real class files: 13 classes; the members and pool entries that the words name. The judged class is class 1, her method 2. -/
namespace start1
open Jvm.ClassFile
def u (s : String) : CpInfo := .utf8 (stringToUtf16 s)
/-- a pool by its gaps: so many unusable entries, then the entry; so many at the end -/
def gap : Nat → List CpInfo → List CpInfo
  | 0, r => r
  | n + 1, r => .unusable :: gap n r
def poolList (es : List (Nat × CpInfo)) (last : Nat) : List CpInfo := es.foldr (fun e r => gap e.1 (e.2 :: r)) (gap last [])
def pool (es : List (Nat × CpInfo)) (last : Nat) : Array CpInfo := ⟨poolList es last⟩
def fileOf (pool : Array CpInfo) (this : Nat) (attrs : Array Attribute := #[]) (ms : Array MethodInfo := #[]) (fl : Nat := 33) (sup : Nat := 0) (ifs : Array Nat := #[]) (fds : Array FieldInfo := #[]) : ClassFile where
  minorVersion := 0
  majorVersion := 65
  constantPool := pool
  accessFlags := fl
  thisClass := this
  superClass := sup
  interfaces := ifs
  fields := fds
  methods := ms
  attributes := attrs
def plain (name : String) (sup : Option ClassId) : Class where
  name := name
  kind := .ordinary
  loader := none
  accessFlags := 33
  super := sup
  interfaces := #[]
  cf := none
  fields := #[]
  methods := #[]
  instanceTypes := #[]
  staticTypes := #[]
  resolved := #[]
  callSites := []
  init := .initialized
  statics := none
  mirror := none

def pool0 : Array CpInfo := pool [(5, u "<init>"), (0, u "()V"), (1, .class_ 10), (1, u "java/lang/Object"), (85, u "clone"), (0, u "()Ljava/lang/Object;")] 26

def k0m0 : Method := { name := "<init>", desc := "()V", sig := { parameters := [], returnType := none }, accessFlags := 1, code := none }
def k0m1 : Method := { name := "clone", desc := "()Ljava/lang/Object;", sig := { parameters := [], returnType := some (.object "java/lang/Object") }, accessFlags := 260, code := none }
/-- java/lang/Object -/
def k0 : Class := { plain "java/lang/Object" none with
  accessFlags := 33
  interfaces := #[]
  cf := some (fileOf pool0 8 #[] #[{ accessFlags := 1, nameIndex := 5, descriptorIndex := 6, attributes := #[] }, { accessFlags := 260, nameIndex := 96, descriptorIndex := 97, attributes := #[] }] 33 0 #[] #[])
  fields := #[]
  methods := #[k0m0, k0m1]
  instanceTypes := #[]
  staticTypes := #[]
  resolved := Array.replicate 124 none
  statics := none }

def pool1 : Array CpInfo := pool [(2, .class_ 4), (1, u "java/lang/Object"), (0, u "<init>"), (0, u "()V"), (0, .fieldref 8 9), (0, .class_ 10), (0, .nameAndType 11 12), (0, u "com/example/jobd/jobd/http/ErrorCode"), (0, u "BAD_REQUEST"), (0, u "Lcom/example/jobd/jobd/http/ErrorCode;"), (0, .fieldref 8 14), (0, .nameAndType 15 12), (0, u "NOT_FOUND"), (0, .fieldref 8 17), (0, .nameAndType 18 12), (0, u "METHOD_NOT_ALLOWED"), (0, .fieldref 8 20), (0, .nameAndType 21 12), (0, u "CONFLICT"), (0, .fieldref 8 23), (0, .nameAndType 24 12), (0, u "PAYLOAD_TOO_LARGE"), (0, .fieldref 8 26), (0, .nameAndType 27 12), (0, u "INTERNAL_ERROR"), (0, .integer 2147483647), (0, .methodref 8 30), (0, .nameAndType 31 32), (0, u "forStatus"), (0, u "(I)Lcom/example/jobd/jobd/http/ErrorCode;"), (0, .methodref 34 35), (0, .class_ 36), (0, .nameAndType 37 32), (0, u "com/example/jobd/jobd/http/ErrorCodeForStatusPinLaw"), (0, u "expected"), (3, u "law"), (0, u "(II)Z")] 4

def k1m0 : Method := { name := "<init>", desc := "()V", sig := { parameters := [], returnType := none }, accessFlags := 2, code := none }
def k1c1 : Code := { maxStack := 2, maxLocals := 1, code := method_2_code, exceptionTable := #[], attributes := #[] }
def k1m1 : Method := { name := "expected", desc := "(I)Lcom/example/jobd/jobd/http/ErrorCode;", sig := { parameters := [.int], returnType := some (.object "com/example/jobd/jobd/http/ErrorCode") }, accessFlags := 10, code := some k1c1 }
def k1c2 : Code := { maxStack := 4, maxLocals := 6, code := code, exceptionTable := #[], attributes := #[] }
def k1m2 : Method := { name := "law", desc := "(II)Z", sig := { parameters := [.int, .int], returnType := some .boolean }, accessFlags := 9, code := some k1c2 }
/-- com/example/jobd/jobd/http/ErrorCodeForStatusPinLaw -/
def k1 : Class := { plain "com/example/jobd/jobd/http/ErrorCodeForStatusPinLaw" (some 0) with
  accessFlags := 49
  interfaces := #[]
  cf := some (fileOf pool1 34 #[] #[{ accessFlags := 2, nameIndex := 5, descriptorIndex := 6, attributes := #[] }, { accessFlags := 10, nameIndex := 37, descriptorIndex := 32, attributes := #[] }, { accessFlags := 9, nameIndex := 41, descriptorIndex := 42, attributes := #[] }] 49 2 #[] #[])
  fields := #[]
  methods := #[k1m0, k1m1, k1m2]
  instanceTypes := #[]
  staticTypes := #[]
  resolved := Array.replicate 47 none
  statics := none }

def pool2 : Array CpInfo := pool [(1, .class_ 2), (0, u "java/lang/constant/Constable"), (0, .class_ 4), (0, u "java/lang/Object")] 6

/-- java/lang/constant/Constable -/
def k2 : Class := { plain "java/lang/constant/Constable" (some 0) with
  accessFlags := 1537
  interfaces := #[]
  cf := some (fileOf pool2 1 #[] #[] 1537 3 #[] #[])
  fields := #[]
  methods := #[]
  instanceTypes := #[]
  staticTypes := #[]
  resolved := Array.replicate 11 none
  statics := none }

def pool3 : Array CpInfo := pool [(1, .class_ 2), (0, u "java/lang/Comparable"), (0, .class_ 4), (0, u "java/lang/Object")] 7

/-- java/lang/Comparable -/
def k3 : Class := { plain "java/lang/Comparable" (some 0) with
  accessFlags := 1537
  interfaces := #[]
  cf := some (fileOf pool3 1 #[] #[] 1537 3 #[] #[])
  fields := #[]
  methods := #[]
  instanceTypes := #[]
  staticTypes := #[]
  resolved := Array.replicate 12 none
  statics := none }

def pool4 : Array CpInfo := pool [(1, .class_ 2), (0, u "java/io/Serializable"), (0, .class_ 4), (0, u "java/lang/Object")] 2

/-- java/io/Serializable -/
def k4 : Class := { plain "java/io/Serializable" (some 0) with
  accessFlags := 1537
  interfaces := #[]
  cf := some (fileOf pool4 1 #[] #[] 1537 3 #[] #[])
  fields := #[]
  methods := #[]
  instanceTypes := #[]
  staticTypes := #[]
  resolved := Array.replicate 7 none
  statics := none }

def pool5 : Array CpInfo := pool [(2, .class_ 4), (1, u "java/lang/Enum"), (0, u "name"), (0, u "Ljava/lang/String;"), (2, u "ordinal"), (0, u "I"), (1, .class_ 14), (1, u "java/lang/Object"), (4, u "hash"), (86, .class_ 108), (1, u "java/lang/Enum$EnumDesc"), (2, .class_ 112), (0, u "java/lang/constant/Constable"), (0, .class_ 114), (0, u "java/lang/Comparable"), (0, .class_ 116), (0, u "java/io/Serializable")] 87

/-- java/lang/Enum -/
def k5 : Class := { plain "java/lang/Enum" (some 0) with
  accessFlags := 1057
  interfaces := #[2, 3, 4]
  cf := some (fileOf pool5 2 #[.nestMembers #[106]] #[] 1057 12 #[111, 113, 115] #[{ accessFlags := 18, nameIndex := 5, descriptorIndex := 6, attributes := #[] }, { accessFlags := 18, nameIndex := 9, descriptorIndex := 10, attributes := #[] }, { accessFlags := 2, nameIndex := 19, descriptorIndex := 10, attributes := #[] }])
  fields := #[{ name := "name", type := (.object "java/lang/String"), accessFlags := 18, slot := 0, constantValue := 0 }, { name := "ordinal", type := .int, accessFlags := 18, slot := 1, constantValue := 0 }, { name := "hash", type := .int, accessFlags := 2, slot := 2, constantValue := 0 }]
  methods := #[]
  instanceTypes := #[(.object "java/lang/String"), .int, .int]
  staticTypes := #[]
  resolved := Array.replicate 204 none
  statics := none }

def pool6 : Array CpInfo := pool [(1, .class_ 2), (0, u "com/example/jobd/jobd/http/ErrorCode"), (0, .fieldref 1 4), (0, .nameAndType 5 6), (0, u "BAD_REQUEST"), (0, u "Lcom/example/jobd/jobd/http/ErrorCode;"), (2, u "NOT_FOUND"), (2, u "METHOD_NOT_ALLOWED"), (2, u "CONFLICT"), (2, u "PAYLOAD_TOO_LARGE"), (0, .fieldref 1 20), (0, .nameAndType 21 6), (0, u "INTERNAL_ERROR"), (0, .fieldref 1 23), (0, .nameAndType 24 25), (0, u "$VALUES"), (0, u "[Lcom/example/jobd/jobd/http/ErrorCode;"), (0, .methodref 27 28), (0, .class_ 25), (0, .nameAndType 29 30), (0, u "clone"), (0, u "()Ljava/lang/Object;"), (1, .class_ 34), (1, u "java/lang/Enum"), (6, .fieldref 1 42), (0, .nameAndType 43 44), (0, u "status"), (0, u "I"), (16, .methodref 1 62), (0, .nameAndType 63 64), (0, u "values"), (0, u "()[Lcom/example/jobd/jobd/http/ErrorCode;"), (20, u "forStatus"), (0, u "(I)Lcom/example/jobd/jobd/http/ErrorCode;")] 6

def k6c0 : Code := { maxStack := 1, maxLocals := 0, code := prog_10_method_1_code, exceptionTable := #[], attributes := #[] }
def k6m0 : Method := { name := "values", desc := "()[Lcom/example/jobd/jobd/http/ErrorCode;", sig := { parameters := [], returnType := some (.array (.object "com/example/jobd/jobd/http/ErrorCode")) }, accessFlags := 9, code := some k6c0 }
def k6c1 : Code := { maxStack := 2, maxLocals := 5, code := prog_10_method_6_code, exceptionTable := #[], attributes := #[] }
def k6m1 : Method := { name := "forStatus", desc := "(I)Lcom/example/jobd/jobd/http/ErrorCode;", sig := { parameters := [.int], returnType := some (.object "com/example/jobd/jobd/http/ErrorCode") }, accessFlags := 8, code := some k6c1 }
/-- com/example/jobd/jobd/http/ErrorCode -/
def k6 : Class := { plain "com/example/jobd/jobd/http/ErrorCode" (some 5) with
  accessFlags := 16432
  interfaces := #[]
  cf := some (fileOf pool6 1 #[] #[{ accessFlags := 9, nameIndex := 63, descriptorIndex := 64, attributes := #[] }, { accessFlags := 8, nameIndex := 85, descriptorIndex := 86, attributes := #[] }] 16432 32 #[] #[{ accessFlags := 16409, nameIndex := 5, descriptorIndex := 6, attributes := #[] }, { accessFlags := 16409, nameIndex := 9, descriptorIndex := 6, attributes := #[] }, { accessFlags := 16409, nameIndex := 12, descriptorIndex := 6, attributes := #[] }, { accessFlags := 16409, nameIndex := 15, descriptorIndex := 6, attributes := #[] }, { accessFlags := 16409, nameIndex := 18, descriptorIndex := 6, attributes := #[] }, { accessFlags := 16409, nameIndex := 21, descriptorIndex := 6, attributes := #[] }, { accessFlags := 18, nameIndex := 43, descriptorIndex := 44, attributes := #[] }, { accessFlags := 4122, nameIndex := 24, descriptorIndex := 25, attributes := #[] }])
  fields := #[{ name := "BAD_REQUEST", type := (.object "com/example/jobd/jobd/http/ErrorCode"), accessFlags := 16409, slot := 0, constantValue := 0 }, { name := "NOT_FOUND", type := (.object "com/example/jobd/jobd/http/ErrorCode"), accessFlags := 16409, slot := 1, constantValue := 0 }, { name := "METHOD_NOT_ALLOWED", type := (.object "com/example/jobd/jobd/http/ErrorCode"), accessFlags := 16409, slot := 2, constantValue := 0 }, { name := "CONFLICT", type := (.object "com/example/jobd/jobd/http/ErrorCode"), accessFlags := 16409, slot := 3, constantValue := 0 }, { name := "PAYLOAD_TOO_LARGE", type := (.object "com/example/jobd/jobd/http/ErrorCode"), accessFlags := 16409, slot := 4, constantValue := 0 }, { name := "INTERNAL_ERROR", type := (.object "com/example/jobd/jobd/http/ErrorCode"), accessFlags := 16409, slot := 5, constantValue := 0 }, { name := "status", type := .int, accessFlags := 18, slot := 3, constantValue := 0 }, { name := "$VALUES", type := (.array (.object "com/example/jobd/jobd/http/ErrorCode")), accessFlags := 4122, slot := 6, constantValue := 0 }]
  methods := #[k6m0, k6m1]
  instanceTypes := #[(.object "java/lang/String"), .int, .int, .int]
  staticTypes := #[(.object "com/example/jobd/jobd/http/ErrorCode"), (.object "com/example/jobd/jobd/http/ErrorCode"), (.object "com/example/jobd/jobd/http/ErrorCode"), (.object "com/example/jobd/jobd/http/ErrorCode"), (.object "com/example/jobd/jobd/http/ErrorCode"), (.object "com/example/jobd/jobd/http/ErrorCode"), (.array (.object "com/example/jobd/jobd/http/ErrorCode"))]
  resolved := Array.replicate 93 none
  statics := some 0 }

def pool7 : Array CpInfo := pool [(1, .class_ 2), (0, u "java/lang/Cloneable"), (0, .class_ 4), (0, u "java/lang/Object")] 2

/-- java/lang/Cloneable -/
def k7 : Class := { plain "java/lang/Cloneable" (some 0) with
  accessFlags := 1537
  interfaces := #[]
  cf := some (fileOf pool7 1 #[] #[] 1537 3 #[] #[])
  fields := #[]
  methods := #[]
  instanceTypes := #[]
  staticTypes := #[]
  resolved := Array.replicate 7 none
  statics := none }

/-- the primitive byte -/
def k8 : Class := { plain "byte" none with kind := .primitive 'B', accessFlags := 0x411 }
/-- [B -/
def k9 : Class := { plain "[B" (some 0) with kind := .array 8 .byte, interfaces := #[7, 4], accessFlags := 1041 }

/-- the primitive int -/
def k10 : Class := { plain "int" none with kind := .primitive 'I', accessFlags := 0x411 }
/-- [I -/
def k11 : Class := { plain "[I" (some 0) with kind := .array 10 .int, interfaces := #[7, 4], accessFlags := 1041 }

/-- [Lcom/example/jobd/jobd/http/ErrorCode; -/
def k12 : Class := { plain "[Lcom/example/jobd/jobd/http/ErrorCode;" (some 0) with kind := .array 6 (.object "com/example/jobd/jobd/http/ErrorCode"), interfaces := #[7, 4], accessFlags := 1041 }

def heap : Heap := #[{ cls := 6, slots := #[.ref 2, .ref 3, .ref 4, .ref 5, .ref 6, .ref 7, .ref 1], vm := .statics 6 },
  { cls := 12, slots := #[.ref 2, .ref 3, .ref 4, .ref 5, .ref 6, .ref 7], vm := .none },
  { cls := 6, slots := #[.null, .int 0, .int 0, .int 400], vm := .none },
  { cls := 6, slots := #[.null, .int 1, .int 0, .int 404], vm := .none },
  { cls := 6, slots := #[.null, .int 2, .int 0, .int 405], vm := .none },
  { cls := 6, slots := #[.null, .int 3, .int 0, .int 409], vm := .none },
  { cls := 6, slots := #[.null, .int 4, .int 0, .int 413], vm := .none },
  { cls := 6, slots := #[.null, .int 5, .int 0, .int 500], vm := .none }]
def classes : Array Class := #[k0, k1, k2, k3, k4, k5, k6, k7, k8, k9, k10, k11, k12]
def interned : List (Array UInt16 × Addr) := []
def slotsUsed : Nat := 37
def theMethod : MethodId := ⟨1, 2⟩
def args0 : Array Value := #[.int 2, .int 3]
def aboutOver (below : List Frame) : State where
  vm := { classes := classes, interned := interned.toArray }
  heap := heap
  slotsUsed := slotsUsed
  threads := #[{ frames := .invoking theMethod args0 :: below }]
def below0 : List Frame := [.native { method := ⟨0, 0⟩, args := #[] }]
def about1 : State := aboutOver below0
def p0 : Program := .bare "" "" ""
def e0 : Env := launch0.env 0 0 0
theorem w_frames : about1.frames = Frame.invoking theMethod args0 :: below0 := rfl
set_option maxRecDepth 65536 in
theorem w_args : argsFit about1.vm theMethod args0 = true := by decide +kernel
set_option maxRecDepth 65536 in
theorem w_heap : heapFits about1 = true := by decide +kernel
set_option maxRecDepth 65536 in
theorem w_runnable : about1.curStatus? = some .runnable := by decide +kernel
set_option maxRecDepth 65536 in
theorem w_alone : about1.alone = true := by decide +kernel
set_option maxRecDepth 65536 in
theorem w_named : about1.methodNamed? x = some theMethod := by decide +kernel
set_option maxRecDepth 65536 in
theorem w_hears : about1.hears theMethod below0 = true := by decide +kernel
set_option maxRecDepth 65536 in
theorem w_ripe : about1.ripe theMethod args0 below0 = true := by decide +kernel
theorem w_running : about1.status = .running := rfl
set_option maxRecDepth 65536 in
theorem w_room : about1.hasRoom e0.platform room_1 = true :=
  launch0.hasRoom_least _ room_1 (by decide +kernel) (by decide +kernel) (by decide +kernel) (by decide +kernel) (by decide +kernel) (by decide +kernel)
theorem allAtoms_all (ts : List Jvm.Cond) (a : Array Jvm.Value) (st : Jvm.State) : (allAtoms ts).before a st = ts.all (fun c => c.before a st) := by
  induction ts with
  | nil => rfl
  | cons c t ih =>
    show (Jvm.Cond.and c (allAtoms t)).before a st = _
    rw [Jvm.Cond.before_and, ih, List.all_cons]
def words1 : List Jvm.Cond := Jvm.Cond.code x code maxLocals ret :: tables_1
/-- a 'code' word, met by the world's own term for the bytes: nothing is compared byte by byte -/
theorem code_word {y : MethodName} {bytes : ByteArray} {mx : Nat} {rt : Option FieldType} {a : Array Value} {s : State} {m : MethodId} {meth : Method} {c : Code} (h1 : s.methodNamed? y = some m) (h2 : s.vm.method? m = some meth) (h3 : meth.code = some c) (h4 : c.code = bytes)
    (h5 : (c.maxLocals == mx && c.exceptionTable.isEmpty && decide (c.maxStack ≤ mostOperands) && decide (meth.sig.returnType = rt) && !meth.locks && decide (parseMethodDescriptor y.desc = some meth.sig)) = true) : (Jvm.Cond.code y bytes mx rt).before a s = true := by
  simp only [Bool.and_eq_true, beq_iff_eq, Bool.not_eq_true', decide_eq_true_eq] at h5
  obtain ⟨⟨⟨⟨⟨g1, g2⟩, g3⟩, g4⟩, g5⟩, g6⟩ := h5
  simp [Cond.before, Cond.holds, Cond.value, h1, h2, h3, h4, g1, g2, g3, g4, g5, g6]
def isCode : Jvm.Cond → Bool
  | .code _ _ _ _ => true
  | _ => false
theorem all_split {L : List Jvm.Cond} {P : Jvm.Cond → Bool} (h1 : L.all (fun c => isCode c || P c) = true) (h2 : ∀ c ∈ L.filter isCode, P c = true) : L.all P = true := by
  refine List.all_eq_true.mpr fun c hc => ?_
  have h := List.all_eq_true.mp h1 c hc
  rcases Bool.eq_false_or_eq_true (isCode c) with hi | hi
  · exact h2 c (List.mem_filter.mpr ⟨hc, hi⟩)
  · simpa [hi] using h
set_option maxRecDepth 65536 in
theorem w_c0 : (Jvm.Cond.code x code maxLocals ret).before args0 about1 = true := code_word (m := ⟨1, 2⟩) (meth := k1m2) (c := k1c2) (by decide +kernel) rfl rfl rfl (by decide +kernel)
set_option maxRecDepth 65536 in
theorem w_c1 : (Jvm.Cond.code ({ cls := "com/example/jobd/jobd/http/ErrorCode", name := "forStatus", desc := "(I)Lcom/example/jobd/jobd/http/ErrorCode;" } : Jvm.MethodName) prog_10_method_6_code (5 : Nat) (Option.some (Jvm.ClassFile.FieldType.object "com/example/jobd/jobd/http/ErrorCode"))).before args0 about1 = true := code_word (m := ⟨6, 1⟩) (meth := k6m1) (c := k6c1) (by decide +kernel) rfl rfl rfl (by decide +kernel)
set_option maxRecDepth 65536 in
theorem w_c2 : (Jvm.Cond.code ({ cls := "com/example/jobd/jobd/http/ErrorCode", name := "values", desc := "()[Lcom/example/jobd/jobd/http/ErrorCode;" } : Jvm.MethodName) prog_10_method_1_code (0 : Nat) (Option.some (Jvm.ClassFile.FieldType.array (Jvm.ClassFile.FieldType.object "com/example/jobd/jobd/http/ErrorCode")))).before args0 about1 = true := code_word (m := ⟨6, 0⟩) (meth := k6m0) (c := k6c0) (by decide +kernel) rfl rfl rfl (by decide +kernel)
set_option maxRecDepth 65536 in
theorem w_c3 : (Jvm.Cond.code ({ cls := "com/example/jobd/jobd/http/ErrorCodeForStatusPinLaw", name := "expected", desc := "(I)Lcom/example/jobd/jobd/http/ErrorCode;" } : Jvm.MethodName) method_2_code (1 : Nat) (Option.some (Jvm.ClassFile.FieldType.object "com/example/jobd/jobd/http/ErrorCode"))).before args0 about1 = true := code_word (m := ⟨1, 1⟩) (meth := k1m1) (c := k1c1) (by decide +kernel) rfl rfl rfl (by decide +kernel)
def codes1 : List Jvm.Cond := [Jvm.Cond.code x code maxLocals ret, Jvm.Cond.code ({ cls := "com/example/jobd/jobd/http/ErrorCode", name := "forStatus", desc := "(I)Lcom/example/jobd/jobd/http/ErrorCode;" } : Jvm.MethodName) prog_10_method_6_code (5 : Nat) (Option.some (Jvm.ClassFile.FieldType.object "com/example/jobd/jobd/http/ErrorCode")), Jvm.Cond.code ({ cls := "com/example/jobd/jobd/http/ErrorCode", name := "values", desc := "()[Lcom/example/jobd/jobd/http/ErrorCode;" } : Jvm.MethodName) prog_10_method_1_code (0 : Nat) (Option.some (Jvm.ClassFile.FieldType.array (Jvm.ClassFile.FieldType.object "com/example/jobd/jobd/http/ErrorCode"))), Jvm.Cond.code ({ cls := "com/example/jobd/jobd/http/ErrorCodeForStatusPinLaw", name := "expected", desc := "(I)Lcom/example/jobd/jobd/http/ErrorCode;" } : Jvm.MethodName) method_2_code (1 : Nat) (Option.some (Jvm.ClassFile.FieldType.object "com/example/jobd/jobd/http/ErrorCode"))]
set_option maxRecDepth 65536 in
theorem codes_eq : words1.filter isCode = codes1 := rfl
theorem w_codes : ∀ c ∈ words1.filter isCode, c.before args0 about1 = true := by
  rw [codes_eq]
  intro c hc
  simp only [codes1, List.mem_cons, List.not_mem_nil, or_false] at hc
  rcases hc with rfl | rfl | rfl | rfl
  · exact w_c0
  · exact w_c1
  · exact w_c2
  · exact w_c3
set_option maxRecDepth 65536 in
theorem w_t1 : (words1.take 24).all (fun c => isCode c || c.before args0 about1) = true := by decide +kernel
set_option maxRecDepth 65536 in
theorem w_t2 : (words1.drop 24).all (fun c => isCode c || c.before args0 about1) = true := by decide +kernel
theorem w_tables : (allAtoms (Jvm.Cond.code x code maxLocals ret :: tables_1)).before args0 about1 = true := by
  rw [allAtoms_all]
  show words1.all (fun c => c.before args0 about1) = true
  refine all_split ?_ w_codes
  rw [← List.take_append_drop 24 words1, List.all_append, w_t1, w_t2]
  rfl
set_option maxRecDepth 65536 in
theorem w_case : (Jvm.Cond.and given_1 narrow_1).before args0 about1 = true := by decide +kernel
theorem w_applies : (headSpec (Jvm.Cond.code x code maxLocals ret :: tables_1) room_1).applies x e0.platform about1 = true :=
  (Spec.applies_iff w_frames).mpr ⟨w_running, w_runnable, w_alone, w_named, w_hears, w_ripe, w_room, w_tables⟩
theorem atStart : AtStart classFile x code maxLocals ret World_1 tables_1 room_1 Calls_1 rest_1 Pre_1 launch0 p0 e0 about1 theMethod args0 below0 :=
  ⟨lists_1, trivial, launch0.admits_env _ _ _, launch0.least_env, fairChoices_fair.cas, fairChoices_fair.clock, w_frames, w_args, w_heap, w_applies, trivial, trivial, w_case⟩
end start1
theorem witness_1 : WitnessClaimed_1 := ⟨start1.p0, start1.e0, start1.about1, start1.theMethod, start1.args0, start1.below0, start1.atStart⟩
end Jvm.Pilot.@@N@@
