import JvmDerived
import JvmDerived.Pilot.@@N@@Statement
import JvmDerived.Pilot.@@N@@Code
set_option linter.unusedVariables false
set_option linter.unusedSimpArgs false
@@BLOCK:NumsL.lean.txt@@
namespace Jvm.Pilot.@@N@@
open Jvm Jvm.ClassFile Sem Op Lib Jvm.Free Jvm.Stand Jvm.LawKit Jvm.RoadKit Bundle Jvm.Pilot.@@N@@.Jvm.D
section Own
variable {p : Program} {l : Launch} {e : Env} {R : Room} {s : State} {m : MethodId} {args : Array Value} {below : List Frame} {meth : Method} {c : Code} {T : State} {locs : List Loc} {cells slots : Nat} {Z : State} {a0 : Array Value} {h : Heap}
/-- from S the invocation ends, and G holds of the end -/
def Gl (p : Program) (e : Env) (below : List Frame) (G : State → Outcome → Prop) (S : State) : Prop :=
  ∃ s₂ o, Steps p.tables e below S s₂ ∧ s₂.status = .running ∧ Ended s₂ below o ∧ G s₂ o
theorem Gl.of {G : State → Outcome → Prop} {S S' : State} (h : ∀ t, Steps p.tables e below S' t → Steps p.tables e below S t) (g : Gl p e below G S') : Gl p e below G S := by
  obtain ⟨s2, o, a, b⟩ := g
  exact ⟨s2, o, h _ a, b⟩
def Gd (s : State) (Q : Option Value → Heap → List Loc → Prop) (C N : Nat) (t : State) (o : Outcome) : Prop := ∃ v L, o = .returned v ∧ Q v t.heap L ∧ FrameEnd s o t L C N
def Con (l : Launch) (Z : State) (y : MethodName) (bytes : ByteArray) (maxL : Nat) (rt : Option FieldType) (ws : List Jvm.Cond) (rm : Room) (C N : Nat) (as : Array Value) (h : Heap) (Q : Option Value → Heap → List Loc → Prop) : Prop :=
  MetFree l y (head1 (Jvm.Cond.code y bytes maxL rt :: ws) rm) (fun a U => a = as ∧ Z.Warmed39 U.vm ∧ U.heap = h) (fun _ _ _ _ _ => True) (fun _ U o U' => ∃ v L, o = .returned v ∧ Q v U'.heap L ∧ FrameEnd U o U' L C N)
theorem Con.intro {y : MethodName} {bytes : ByteArray} {maxL : Nat} {rt : Option FieldType} {ws : List Jvm.Cond} {rm : Room} {C N : Nat} {as : Array Value} {Q : Option Value → Heap → List Loc → Prop} (hp : plainFor y = true)
    (body : ∀ p e s m below meth c s₁, Stand p l e rm s m as below meth c s₁ [] 0 0 → p.tables.exec = Jvm.exec → c.code = bytes → c.maxLocals = maxL → Z.Warmed39 s.vm → s.vm.findClass y.cls = some m.cls → meth.name = y.name → meth.sig.returnType = rt → meth.locks = false → s₁.heap = h → s.heap = h →
      Gl p e below (Gd s Q C N) (s₁.setTop (entryFrame m as maxL))) : Con l Z y bytes maxL rt ws rm C N as h Q := by
  refine MetFree.of_bodySF hp hisR ?_
  intro p e s m args below meth c s₁ Bd hml0 hP hK
  obtain ⟨rfl, hZ, hh⟩ := hP
  exact body p e s m below meth c s₁ (Stand.of_body Bd) Bd.exec Bd.bytes hml0 hZ (findClass_of_methodNamed Bd.named) (name_of_methodNamed Bd.named Bd.method).1 Bd.returns (BodyLoose.notSynchronized Bd) (by rw [← hh, Bd.state]; rfl) hh
theorem Gl.leaf {Q : Option Value → Heap → List Loc → Prop} {C N : Nat} (X : Stand p l e R s m args below meth c T locs cells slots) (hlk : meth.locks = false) {v : Option Value} (hv : meth.sig.returnType = none → v = none) {S : State}
    (st : ∀ fs, (∀ (f : JFrame) (acts : List Action), f.method = m → f.locked = none → f.entered = [] → (doReturn e (T.setTop f) acts v).1 = T.setFrames fs) → Steps p.tables e below S (T.setFrames fs)) (eT : T.heap = h) (hQ : Q v h locs) (hC : cells ≤ C) (hN : slots ≤ N) : Gl p e below (Gd s Q C N) S := by
  obtain ⟨fs, hr, hrun, hended, hW, hsame⟩ := X.leave (v := v) hv hlk
  exact ⟨_, _, st fs hr, hrun, hended, v, locs, rfl, by show Q v T.heap locs; rw [eT]; exact hQ, ⟨_, rfl⟩, hW, hsame.mono hC hN⟩
/-- ireturn of an int -/
theorem Gl.retI {Q : Option Value → Heap → List Loc → Prop} {C N : Nat} (X : Stand p l e R s m args below meth c T locs cells slots) (hx : p.tables.exec = Jvm.exec) (hlk : meth.locks = false) (hret : meth.sig.returnType = some .int) {pc : Nat} {Ls : Array Slot} {z : Int32} {rest : List Value} (hd : decode c.code pc = .ok (.ireturn, 1))
    (eT : T.heap = h) (hQ : Q (some (.int z)) h locs) (hC : cells ≤ C) (hN : slots ≤ N) : Gl p e below (Gd s Q C N) (T.setTop (mkF m pc Ls (.int z :: rest))) :=
  Gl.leaf X hlk (fun q => by rw [hret] at q; cases q) (fun fs hr => retOut X hx hret rfl (Or.inl ⟨rfl, Or.inl rfl, z, rfl⟩) hd hr) eT hQ hC hN
/-- ireturn of a boolean, byte, char, short -/
theorem Gl.retN {Q : Option Value → Heap → List Loc → Prop} {C N : Nat} (X : Stand p l e R s m args below meth c T locs cells slots) (hx : p.tables.exec = Jvm.exec) (hlk : meth.locks = false) {t : FieldType} (hret : meth.sig.returnType = some t) (ht : t = .boolean ∨ t = .byte ∨ t = .char ∨ t = .short) {pc : Nat} {Ls : Array Slot} {z : Int32} {rest : List Value} (hd : decode c.code pc = .ok (.ireturn, 1))
    (eT : T.heap = h) (hQ : Q (some (.int (nar t z))) h locs) (hC : cells ≤ C) (hN : slots ≤ N) : Gl p e below (Gd s Q C N) (T.setTop (mkF m pc Ls (.int z :: rest))) :=
  Gl.leaf X hlk (fun q => by rw [hret] at q; cases q) (fun fs hr => Jvm.RoadKit.retN X hx hret ht hd hr) eT hQ hC hN
/-- areturn -/
theorem Gl.retR {Q : Option Value → Heap → List Loc → Prop} {C N : Nat} (X : Stand p l e R s m args below meth c T locs cells slots) (hx : p.tables.exec = Jvm.exec) (hlk : meth.locks = false) {t : FieldType} (hret : meth.sig.returnType = some t) (ht : t.isReference = true) {pc : Nat} {Ls : Array Slot} {w : Value} (hw : w.isRef = true) {rest : List Value} (hd : decode c.code pc = .ok (.areturn, 1))
    (eT : T.heap = h) (hQ : Q (some w) h locs) (hC : cells ≤ C) (hN : slots ≤ N) : Gl p e below (Gd s Q C N) (T.setTop (mkF m pc Ls (w :: rest))) :=
  Gl.leaf X hlk (fun q => by rw [hret] at q; cases q) (fun fs hr => retOut X hx hret (by cases t <;> first | (cases ht; done) | (rcases ref_cases hw with rfl | ⟨_, rfl⟩ <;> rfl)) (Or.inr (Or.inr (Or.inr (Or.inr ⟨rfl, ht, hw⟩)))) hd hr) eT hQ hC hN
/-- dreturn -/
theorem Gl.retD {Q : Option Value → Heap → List Loc → Prop} {C N : Nat} (X : Stand p l e R s m args below meth c T locs cells slots) (hx : p.tables.exec = Jvm.exec) (hlk : meth.locks = false) (hret : meth.sig.returnType = some .double) {pc : Nat} {Ls : Array Slot} {z : UInt64} {rest : List Value} (hd : decode c.code pc = .ok (.dreturn, 1))
    (eT : T.heap = h) (hQ : Q (some (.double z)) h locs) (hC : cells ≤ C) (hN : slots ≤ N) : Gl p e below (Gd s Q C N) (T.setTop (mkF m pc Ls (.double z :: rest))) :=
  Gl.leaf X hlk (fun q => by rw [hret] at q; cases q) (fun fs hr => retOut X hx hret rfl (Or.inr (Or.inr (Or.inl ⟨rfl, rfl, z, rfl⟩))) hd hr) eT hQ hC hN
/-- return -/
theorem Gl.ret0 {Q : Option Value → Heap → List Loc → Prop} {C N : Nat} (X : Stand p l e R s m args below meth c T locs cells slots) (hx : p.tables.exec = Jvm.exec) (hlk : meth.locks = false) (hret : meth.sig.returnType = none) {pc : Nat} {Ls : Array Slot} (hd : decode c.code pc = .ok (.return_, 1))
    (eT : T.heap = h) (hQ : Q none h locs) (hC : cells ≤ C) (hN : slots ≤ N) : Gl p e below (Gd s Q C N) (T.setTop (mkF m pc Ls [])) :=
  Gl.leaf X hlk (fun _ => rfl) (fun fs hr => X.returnOut hx hret hd hr) eT hQ hC hN
/-- the end of a walk that may have interned -/
def GdW (s : State) (Q : Option Value → Heap → List Loc → Prop) (C N : Nat) (t : State) (o : Outcome) : Prop := ∃ v L, o = .returned v ∧ Q v t.heap L ∧ ReturnedEndW s o t L C N
def ConW (l : Launch) (Z : State) (y : MethodName) (bytes : ByteArray) (maxL : Nat) (rt : Option FieldType) (ws : List Jvm.Cond) (rm : Room) (C N : Nat) (as : Array Value) (h : Heap) (Q : Option Value → Heap → List Loc → Prop) : Prop :=
  MetFree l y (head1 (Jvm.Cond.code y bytes maxL rt :: ws) rm) (fun a U => a = as ∧ Z.Warmed39 U.vm ∧ U.heap = h) (fun _ _ _ _ _ => True) (fun _ U o U' => ∃ v L, o = .returned v ∧ Q v U'.heap L ∧ ReturnedEndW U o U' L C N)
theorem ConW.intro {y : MethodName} {bytes : ByteArray} {maxL : Nat} {rt : Option FieldType} {ws : List Jvm.Cond} {rm : Room} {C N : Nat} {as : Array Value} {Q : Option Value → Heap → List Loc → Prop} (hp : plainFor y = true)
    (body : ∀ p e s m below meth c s₁, Stand p l e rm s m as below meth c s₁ [] 0 0 → p.tables.exec = Jvm.exec → c.code = bytes → c.maxLocals = maxL → Z.Warmed39 s.vm → s.vm.findClass y.cls = some m.cls → meth.name = y.name → meth.sig.returnType = rt → meth.locks = false → s₁.heap = h → s.heap = h →
      Gl p e below (GdW s Q C N) (s₁.setTop (entryFrame m as maxL))) : ConW l Z y bytes maxL rt ws rm C N as h Q := by
  refine MetFree.of_bodySF hp hisR ?_
  intro p e s m args below meth c s₁ Bd hml0 hP hK
  obtain ⟨rfl, hZ, hh⟩ := hP
  exact body p e s m below meth c s₁ (Stand.of_body Bd) Bd.exec Bd.bytes hml0 hZ (findClass_of_methodNamed Bd.named) (name_of_methodNamed Bd.named Bd.method).1 Bd.returns (BodyLoose.notSynchronized Bd) (by rw [← hh, Bd.state]; rfl) hh
theorem Gl.leafW {Q : Option Value → Heap → List Loc → Prop} {C N n : Nat} {vm₁ : Vm} (X : Stand p l e R (s.setVm vm₁) m args below meth c T locs cells slots) (hlk : meth.locks = false) {v : Option Value} (hv : meth.sig.returnType = none → v = none) {S : State}
    (st : ∀ fs, (∀ (f : JFrame) (acts : List Action), f.method = m → f.locked = none → f.entered = [] → (doReturn e (T.setTop f) acts v).1 = T.setFrames fs) → Steps p.tables e below S (T.setFrames fs)) (eT : T.heap = h) (hQ : Q v h locs) (hS : s.Since vm₁ n) (hn : n ≤ h.size) (hC : cells ≤ C) (hN : slots ≤ N) : Gl p e below (GdW s Q C N) S := by
  obtain ⟨fs, hr, hrun, hended, hW⟩ := X.leaveW hS (by rw [eT]; exact hn) (v := v) hv hlk
  exact ⟨_, _, st fs hr, hrun, hended, v, locs, rfl, by show Q v T.heap locs; rw [eT]; exact hQ, hW.1, hW.2.1, hW.2.2.1, hW.2.2.2.mono hC hN⟩
theorem Gl.retNW {Q : Option Value → Heap → List Loc → Prop} {C N n : Nat} {vm₁ : Vm} (X : Stand p l e R (s.setVm vm₁) m args below meth c T locs cells slots) (hx : p.tables.exec = Jvm.exec) (hlk : meth.locks = false) {t : FieldType} (hret : meth.sig.returnType = some t) (ht : t = .boolean ∨ t = .byte ∨ t = .char ∨ t = .short) {pc : Nat} {Ls : Array Slot} {z : Int32} {rest : List Value} (hd : decode c.code pc = .ok (.ireturn, 1))
    (eT : T.heap = h) (hQ : Q (some (.int (nar t z))) h locs) (hS : s.Since vm₁ n) (hn : n ≤ h.size) (hC : cells ≤ C) (hN : slots ≤ N) : Gl p e below (GdW s Q C N) (T.setTop (mkF m pc Ls (.int z :: rest))) :=
  Gl.leafW X hlk (fun q => by rw [hret] at q; cases q) (fun fs hr => Jvm.RoadKit.retN X hx hret ht hd hr) eT hQ hS hn hC hN
theorem Gl.retRW {Q : Option Value → Heap → List Loc → Prop} {C N n : Nat} {vm₁ : Vm} (X : Stand p l e R (s.setVm vm₁) m args below meth c T locs cells slots) (hx : p.tables.exec = Jvm.exec) (hlk : meth.locks = false) {t : FieldType} (hret : meth.sig.returnType = some t) (ht : t.isReference = true) {pc : Nat} {Ls : Array Slot} {w : Value} (hw : w.isRef = true) {rest : List Value} (hd : decode c.code pc = .ok (.areturn, 1))
    (eT : T.heap = h) (hQ : Q (some w) h locs) (hS : s.Since vm₁ n) (hn : n ≤ h.size) (hC : cells ≤ C) (hN : slots ≤ N) : Gl p e below (GdW s Q C N) (T.setTop (mkF m pc Ls (w :: rest))) :=
  Gl.leafW X hlk (fun q => by rw [hret] at q; cases q) (fun fs hr => retOut X hx hret (by cases t <;> first | (cases ht; done) | (rcases ref_cases hw with rfl | ⟨_, rfl⟩ <;> rfl)) (Or.inr (Or.inr (Or.inr (Or.inr ⟨rfl, ht, hw⟩)))) hd hr) eT hQ hS hn hC hN
theorem ref_nar {r : Value} {C : String} (h : r.isRef = true) : narrow (.object C) r = r := by rcases ref_cases h with rfl | ⟨_, rfl⟩ <;> rfl
theorem ref_fit {r : Value} {C : String} (h : r.isRef = true) : fits (.object C) r = true := by rcases ref_cases h with rfl | ⟨_, rfl⟩ <;> rfl
theorem cat_ref {r : Value} (h : r.isRef = true) : r.category = 1 := by rcases ref_cases h with rfl | ⟨_, rfl⟩ <;> rfl
/-- what a callee that writes and makes nothing leaves -/
def Pur (F : Option Value → Prop) (h0 : Heap) (v : Option Value) (h : Heap) (L : List Loc) : Prop := F v ∧ h = h0 ∧ L = []
theorem desc_ne {n : String} (h : (n == "java/lang/invoke/MethodHandle" || n == "java/lang/invoke/VarHandle") = false) : n ≠ "java/lang/invoke/MethodHandle" ∧ n ≠ "java/lang/invoke/VarHandle" := by
  simp only [Bool.or_eq_false_iff, beq_eq_false_iff_ne, ne_eq] at h
  exact h
/-- a static call by its contract -/
theorem Gl.callS {G : State → Outcome → Prop} (X : Stand p l e R s m args below meth c T locs cells slots) (hx : p.tables.exec = Jvm.exec) (hZ : Z.Warmed39 s.vm) {own : String} {index : Nat} {y : MethodName} {bytes : ByteArray} {maxL : Nat} {rt : Option FieldType} (hown : s.vm.findClass own = some m.cls)
    (w1 : (Jvm.Cond.methodLink own index y).before a0 Z = true) (w2 : (Jvm.Cond.static y).before a0 Z = true) (w3 : (Jvm.Cond.initialized y.cls).before a0 Z = true) (w4 : (Jvm.Cond.code y bytes maxL rt).before a0 Z = true) (hy : y.cls ≠ "java/lang/invoke/MethodHandle" ∧ y.cls ≠ "java/lang/invoke/VarHandle")
    {rm : Room} {Q : Option Value → Heap → List Loc → Prop} {argsL rest : List Value} (hM : Con l Z y bytes maxL rt [] rm rm.cells rm.slots argsL.toArray h Q) (W : Nat) (hf : rm.frames + 1 ≤ R.frames) (hl : W + (maxL + 11) + rm.locals ≤ R.locals) (hcl : cells + rm.cells ≤ R.cells) (hsl : slots + rm.slots ≤ R.slots) (eT : T.heap = h)
    {pc : Nat} {Ls : Array Slot} {st : List Value} (hsz : Ls.size = c.maxLocals) {ps : List FieldType} {r' : Option FieldType} (hds : parseMethodDescriptor y.desc = some ⟨ps, r'⟩) (hlen : argsL.length = ps.length) (hst : st = argsL.reverse ++ rest) (hW : 2 * 0 + (rest.map fun v => v.category).sum ≤ W) (hd : decode c.code pc = .ok (.invokestatic index, 3))
    (k : ∀ (v : Option Value) (T' : State) (L : List Loc), Stand p l e R s m args below meth c T' (locs ++ L) (cells + rm.cells) (slots + rm.slots) → Q v T'.heap L → Gl p e below G (T'.setTop (mkF m (pc + 3) Ls (v.toList ++ rest)))) : Gl p e below G (T.setTop (mkF m pc Ls st)) := by
  obtain ⟨v, _, ⟨T', L', k', n'⟩, -, X', ⟨Lc, hQ, l1, y1, z1⟩, stp⟩ := Jvm.LawKit.callS X hx (y := y) hown (mvT hZ w1) (mvT hZ w2) (mvT hZ w3) (mvT hZ w4) hy (backOf (W := W) hM hZ w4 w3 hf hl) (g := mkF m pc Ls st) rfl hsz (argsL := argsL) (rest := rest) (lenOf hds hlen) hst hW hd (fun _ _ => ⟨rfl, eT, hcl, hsl⟩)
  dsimp only [Pt.U, Pt.locs, Pt.cells, Pt.slots] at X' l1 y1 z1 stp hQ
  subst l1 y1 z1
  exact Gl.of stp (k v T' Lc X' hQ)
theorem Gl.callS0 {G : State → Outcome → Prop} (X : Stand p l e R s m args below meth c T locs cells slots) (hx : p.tables.exec = Jvm.exec) (hZ : Z.Warmed39 s.vm) {own : String} {index : Nat} {y : MethodName} {bytes : ByteArray} {maxL : Nat} {rt : Option FieldType} (hown : s.vm.findClass own = some m.cls)
    (w1 : (Jvm.Cond.methodLink own index y).before a0 Z = true) (w2 : (Jvm.Cond.static y).before a0 Z = true) (w3 : (Jvm.Cond.initialized y.cls).before a0 Z = true) (w4 : (Jvm.Cond.code y bytes maxL rt).before a0 Z = true) (hy : y.cls ≠ "java/lang/invoke/MethodHandle" ∧ y.cls ≠ "java/lang/invoke/VarHandle")
    {fr lo : Nat} {F : Option Value → Prop} {argsL rest : List Value} (hM : Con l Z y bytes maxL rt [] ({ frames := fr, cells := 0, slots := 0, locals := lo } : Room) 0 0 argsL.toArray h (Pur F h)) (W : Nat) (hf : fr + 1 ≤ R.frames) (hl : W + (maxL + 11) + lo ≤ R.locals) (eT : T.heap = h)
    {pc : Nat} {Ls : Array Slot} {st : List Value} (hsz : Ls.size = c.maxLocals) {ps : List FieldType} {r' : Option FieldType} (hds : parseMethodDescriptor y.desc = some ⟨ps, r'⟩) (hlen : argsL.length = ps.length) (hst : st = argsL.reverse ++ rest) (hW : 2 * 0 + (rest.map fun v => v.category).sum ≤ W) (hd : decode c.code pc = .ok (.invokestatic index, 3)) (hcl : cells ≤ R.cells) (hsl : slots ≤ R.slots)
    (k : ∀ (v : Option Value) (T' : State), Stand p l e R s m args below meth c T' locs cells slots → T'.heap = h → F v → Gl p e below G (T'.setTop (mkF m (pc + 3) Ls (v.toList ++ rest)))) : Gl p e below G (T.setTop (mkF m pc Ls st)) := by
  refine Gl.callS X hx hZ hown w1 w2 w3 w4 hy hM W hf hl hcl hsl eT hsz hds hlen hst hW hd ?_
  intro v T' L X' hQ
  obtain ⟨q1, q2, rfl⟩ := hQ
  rw [List.append_nil] at X'
  exact k v T' X' q2 q1
/-- an instance method that the receiver's class selects, by its contract -/
theorem Gl.callV {G : State → Outcome → Prop} (X : Stand p l e R s m args below meth c T locs cells slots) (hx : p.tables.exec = Jvm.exec) (hZ : Z.Warmed39 s.vm) {own C : String} {index : Nat} {y z : MethodName} {bytes : ByteArray} {maxL : Nat} {rt : Option FieldType} (hown : s.vm.findClass own = some m.cls)
    (w1 : (Jvm.Cond.methodLink own index y).before a0 Z = true) (w2 : (Jvm.Cond.declares y).before a0 Z = true) (nf : NotFace s y) (w3 : (Jvm.Cond.selects C y z).before a0 Z = true) (w4 : (Jvm.Cond.instanceMethod z).before a0 Z = true) (w5 : (Jvm.Cond.code z bytes maxL rt).before a0 Z = true) (w6 : (Jvm.Cond.initialized z.cls).before a0 Z = true) (hy : y.cls ≠ "java/lang/invoke/MethodHandle" ∧ y.cls ≠ "java/lang/invoke/VarHandle")
    {rm : Room} {Q : Option Value → Heap → List Loc → Prop} {b : Addr} {argsL rest : List Value} (hE : Exa Z h b C) (hM : Con l Z z bytes maxL rt [] rm rm.cells rm.slots (.ref b :: argsL).toArray h Q) (W : Nat) (hf : rm.frames + 1 ≤ R.frames) (hl : W + (maxL + 11) + rm.locals ≤ R.locals) (hcl : cells + rm.cells ≤ R.cells) (hsl : slots + rm.slots ≤ R.slots) (eT : T.heap = h)
    {pc : Nat} {Ls : Array Slot} {st : List Value} (hsz : Ls.size = c.maxLocals) {ps : List FieldType} {r' : Option FieldType} (hds : parseMethodDescriptor y.desc = some ⟨ps, r'⟩) (hlen : argsL.length = ps.length) (hst : st = argsL.reverse ++ .ref b :: rest) (hW : 2 * 0 + (rest.map fun v => v.category).sum ≤ W) (hd : decode c.code pc = .ok (.invokevirtual index, 3))
    (k : ∀ (v : Option Value) (T' : State) (L : List Loc), Stand p l e R s m args below meth c T' (locs ++ L) (cells + rm.cells) (slots + rm.slots) → Q v T'.heap L → Gl p e below G (T'.setTop (mkF m (pc + 3) Ls (v.toList ++ rest)))) : Gl p e below G (T.setTop (mkF m pc Ls st)) := by
  obtain ⟨cq, kq, qa, qb, qc⟩ := isOf hZ eT hE
  obtain ⟨v, _, ⟨T', L', k', n'⟩, -, X', ⟨Lc, hQ, l1, y1, z1⟩, stp⟩ := X.virtualBack hx (y := y) (z := z) hown (mvT hZ w1) (mvT hZ w2) nf (mvT hZ w3) (mvT hZ w4) hy (backOf (W := W) hM hZ w5 w6 hf hl) qa qc (g := mkF m pc Ls st) rfl hsz (Steps.refl _) (argsL := argsL) (rest := rest) (lenOf hds hlen) hst hW hd (fun _ _ => ⟨rfl, eT, hcl, hsl⟩)
  dsimp only [Pt.U, Pt.locs, Pt.cells, Pt.slots] at X' l1 y1 z1 stp hQ
  subst l1 y1 z1
  exact Gl.of (fun t q => stp.trans q) (k v T' Lc X' hQ)
theorem Gl.callV0 {G : State → Outcome → Prop} (X : Stand p l e R s m args below meth c T locs cells slots) (hx : p.tables.exec = Jvm.exec) (hZ : Z.Warmed39 s.vm) {own C : String} {index : Nat} {y z : MethodName} {bytes : ByteArray} {maxL : Nat} {rt : Option FieldType} (hown : s.vm.findClass own = some m.cls)
    (w1 : (Jvm.Cond.methodLink own index y).before a0 Z = true) (w2 : (Jvm.Cond.declares y).before a0 Z = true) (nf : NotFace s y) (w3 : (Jvm.Cond.selects C y z).before a0 Z = true) (w4 : (Jvm.Cond.instanceMethod z).before a0 Z = true) (w5 : (Jvm.Cond.code z bytes maxL rt).before a0 Z = true) (w6 : (Jvm.Cond.initialized z.cls).before a0 Z = true) (hy : y.cls ≠ "java/lang/invoke/MethodHandle" ∧ y.cls ≠ "java/lang/invoke/VarHandle")
    {fr lo : Nat} {F : Option Value → Prop} {b : Addr} {argsL rest : List Value} (hE : Exa Z h b C) (hM : Con l Z z bytes maxL rt [] ({ frames := fr, cells := 0, slots := 0, locals := lo } : Room) 0 0 (.ref b :: argsL).toArray h (Pur F h)) (W : Nat) (hf : fr + 1 ≤ R.frames) (hl : W + (maxL + 11) + lo ≤ R.locals) (eT : T.heap = h)
    {pc : Nat} {Ls : Array Slot} {st : List Value} (hsz : Ls.size = c.maxLocals) {ps : List FieldType} {r' : Option FieldType} (hds : parseMethodDescriptor y.desc = some ⟨ps, r'⟩) (hlen : argsL.length = ps.length) (hst : st = argsL.reverse ++ .ref b :: rest) (hW : 2 * 0 + (rest.map fun v => v.category).sum ≤ W) (hd : decode c.code pc = .ok (.invokevirtual index, 3)) (hcl : cells ≤ R.cells) (hsl : slots ≤ R.slots)
    (k : ∀ (v : Option Value) (T' : State), Stand p l e R s m args below meth c T' locs cells slots → T'.heap = h → F v → Gl p e below G (T'.setTop (mkF m (pc + 3) Ls (v.toList ++ rest)))) : Gl p e below G (T.setTop (mkF m pc Ls st)) := by
  refine Gl.callV X hx hZ hown w1 w2 nf w3 w4 w5 w6 hy hE hM W hf hl hcl hsl eT hsz hds hlen hst hW hd ?_
  intro v T' L X' hQ
  obtain ⟨q1, q2, rfl⟩ := hQ
  rw [List.append_nil] at X'
  exact k v T' X' q2 q1
/-- a private instance method by its contract -/
theorem Gl.callP {G : State → Outcome → Prop} (X : Stand p l e R s m args below meth c T locs cells slots) (hx : p.tables.exec = Jvm.exec) (hZ : Z.Warmed39 s.vm) {own C : String} {index : Nat} {y : MethodName} {bytes : ByteArray} {maxL : Nat} {rt : Option FieldType} (hown : s.vm.findClass own = some m.cls)
    (w1 : (Jvm.Cond.methodLink own index y).before a0 Z = true) (nf : NotFace s y) (w3 : (Jvm.Cond.privateMethod y).before a0 Z = true) (w4 : (Jvm.Cond.instanceMethod y).before a0 Z = true) (w5 : (Jvm.Cond.code y bytes maxL rt).before a0 Z = true) (w6 : (Jvm.Cond.initialized y.cls).before a0 Z = true) (hy : y.cls ≠ "java/lang/invoke/MethodHandle" ∧ y.cls ≠ "java/lang/invoke/VarHandle")
    {rm : Room} {Q : Option Value → Heap → List Loc → Prop} {b : Addr} {argsL rest : List Value} (hE : Exa Z h b C) (hM : Con l Z y bytes maxL rt [] rm rm.cells rm.slots (.ref b :: argsL).toArray h Q) (W : Nat) (hf : rm.frames + 1 ≤ R.frames) (hl : W + (maxL + 11) + rm.locals ≤ R.locals) (hcl : cells + rm.cells ≤ R.cells) (hsl : slots + rm.slots ≤ R.slots) (eT : T.heap = h)
    {pc : Nat} {Ls : Array Slot} {st : List Value} (hsz : Ls.size = c.maxLocals) {ps : List FieldType} {r' : Option FieldType} (hds : parseMethodDescriptor y.desc = some ⟨ps, r'⟩) (hlen : argsL.length = ps.length) (hst : st = argsL.reverse ++ .ref b :: rest) (hW : 2 * 0 + (rest.map fun v => v.category).sum ≤ W) (hd : decode c.code pc = .ok (.invokevirtual index, 3))
    (k : ∀ (v : Option Value) (T' : State) (L : List Loc), Stand p l e R s m args below meth c T' (locs ++ L) (cells + rm.cells) (slots + rm.slots) → Q v T'.heap L → Gl p e below G (T'.setTop (mkF m (pc + 3) Ls (v.toList ++ rest)))) : Gl p e below G (T.setTop (mkF m pc Ls st)) := by
  obtain ⟨cq, q, q'⟩ := hE.cell
  have hpv := Cond.privateMethod_at (mvP hZ w3 (args := #[]))
  have hin : (Jvm.Cond.instanceMethod y).before args s = true := mvT hZ w4
  obtain ⟨mk, methM, hnamed, hmethM, -, -⟩ := Cond.instanceMethod_spec hin
  obtain ⟨kc, hkc, hkni⟩ := nf mk hnamed
  have hsel : (Jvm.Cond.selects y.cls y y).before args s = true := selects_self_of_private (findClass_of_methodNamed hnamed) hkc hkni hpv hin hy
  obtain ⟨v, _, ⟨T', L', k', n'⟩, -, X', ⟨Lc, hQ, l1, y1, z1⟩, stp⟩ := X.privateBack hx (y := y) hown (mvT hZ w1) hin hsel hpv (mvT hZ w5) hy (backOf (W := W) hM hZ w5 w6 hf hl) (g := mkF m pc Ls st) rfl hsz (Steps.refl _) (a := b) (by rw [eT]; exact q) q' (argsL := argsL) (rest := rest) (lenOf hds hlen) hst hW hd (fun _ _ => ⟨rfl, eT, hcl, hsl⟩)
  dsimp only [Pt.U, Pt.locs, Pt.cells, Pt.slots] at X' l1 y1 z1 stp hQ
  subst l1 y1 z1
  exact Gl.of (fun t q => stp.trans q) (k v T' Lc X' hQ)
theorem Gl.callP0 {G : State → Outcome → Prop} (X : Stand p l e R s m args below meth c T locs cells slots) (hx : p.tables.exec = Jvm.exec) (hZ : Z.Warmed39 s.vm) {own C : String} {index : Nat} {y : MethodName} {bytes : ByteArray} {maxL : Nat} {rt : Option FieldType} (hown : s.vm.findClass own = some m.cls)
    (w1 : (Jvm.Cond.methodLink own index y).before a0 Z = true) (nf : NotFace s y) (w3 : (Jvm.Cond.privateMethod y).before a0 Z = true) (w4 : (Jvm.Cond.instanceMethod y).before a0 Z = true) (w5 : (Jvm.Cond.code y bytes maxL rt).before a0 Z = true) (w6 : (Jvm.Cond.initialized y.cls).before a0 Z = true) (hy : y.cls ≠ "java/lang/invoke/MethodHandle" ∧ y.cls ≠ "java/lang/invoke/VarHandle")
    {fr lo : Nat} {F : Option Value → Prop} {b : Addr} {argsL rest : List Value} (hE : Exa Z h b C) (hM : Con l Z y bytes maxL rt [] ({ frames := fr, cells := 0, slots := 0, locals := lo } : Room) 0 0 (.ref b :: argsL).toArray h (Pur F h)) (W : Nat) (hf : fr + 1 ≤ R.frames) (hl : W + (maxL + 11) + lo ≤ R.locals) (eT : T.heap = h)
    {pc : Nat} {Ls : Array Slot} {st : List Value} (hsz : Ls.size = c.maxLocals) {ps : List FieldType} {r' : Option FieldType} (hds : parseMethodDescriptor y.desc = some ⟨ps, r'⟩) (hlen : argsL.length = ps.length) (hst : st = argsL.reverse ++ .ref b :: rest) (hW : 2 * 0 + (rest.map fun v => v.category).sum ≤ W) (hd : decode c.code pc = .ok (.invokevirtual index, 3)) (hcl : cells ≤ R.cells) (hsl : slots ≤ R.slots)
    (k : ∀ (v : Option Value) (T' : State), Stand p l e R s m args below meth c T' locs cells slots → T'.heap = h → F v → Gl p e below G (T'.setTop (mkF m (pc + 3) Ls (v.toList ++ rest)))) : Gl p e below G (T.setTop (mkF m pc Ls st)) := by
  refine Gl.callP X hx hZ hown w1 nf w3 w4 w5 w6 hy hE hM W hf hl hcl hsl eT hsz hds hlen hst hW hd ?_
  intro v T' L X' hQ
  obtain ⟨q1, q2, rfl⟩ := hQ
  rw [List.append_nil] at X'
  exact k v T' X' q2 q1
/-- a constructor by its contract -/
theorem Gl.callI {G : State → Outcome → Prop} (X : Stand p l e R s m args below meth c T locs cells slots) (hx : p.tables.exec = Jvm.exec) (hZ : Z.Warmed39 s.vm) {own : String} {index : Nat} {y : MethodName} {bytes : ByteArray} {maxL : Nat} (hy1 : y.name = "<init>") (hown : s.vm.findClass own = some m.cls)
    (w1 : (Jvm.Cond.methodLink own index y).before a0 Z = true) (w2 : (Jvm.Cond.instanceMethod y).before a0 Z = true) (w3 : (Jvm.Cond.initialized y.cls).before a0 Z = true) (w4 : (Jvm.Cond.code y bytes maxL none).before a0 Z = true) (hy : y.cls ≠ "java/lang/invoke/MethodHandle" ∧ y.cls ≠ "java/lang/invoke/VarHandle")
    {rm : Room} {Q : Option Value → Heap → List Loc → Prop} {b : Addr} {argsL rest : List Value} (hM : Con l Z y bytes maxL none [] rm rm.cells rm.slots (.ref b :: argsL).toArray h Q) (W : Nat) (hf : rm.frames + 1 ≤ R.frames) (hl : W + (maxL + 11) + rm.locals ≤ R.locals) (hcl : cells + rm.cells ≤ R.cells) (hsl : slots + rm.slots ≤ R.slots) (eT : T.heap = h)
    {pc : Nat} {Ls : Array Slot} {st : List Value} (hsz : Ls.size = c.maxLocals) {ps : List FieldType} {r' : Option FieldType} (hds : parseMethodDescriptor y.desc = some ⟨ps, r'⟩) (hlen : argsL.length = ps.length) (hst : st = argsL.reverse ++ .ref b :: rest) (hW : 2 * 0 + (rest.map fun v => v.category).sum ≤ W) (hd : decode c.code pc = .ok (.invokespecial index, 3))
    (k : ∀ (v : Option Value) (T' : State) (L : List Loc), Stand p l e R s m args below meth c T' (locs ++ L) (cells + rm.cells) (slots + rm.slots) → Q v T'.heap L → Gl p e below G (T'.setTop (mkF m (pc + 3) Ls (v.toList ++ rest)))) : Gl p e below G (T.setTop (mkF m pc Ls st)) := by
  obtain ⟨v, _, ⟨T', L', k', n'⟩, -, X', ⟨Lc, hQ, l1, y1, z1⟩, stp⟩ := X.specialBack hx (y := y) hy1 hown (mvT hZ w1) (mvT hZ w2) (mvT hZ w4) hy (backOf (W := W) hM hZ w4 w3 hf hl) (g := mkF m pc Ls st) rfl hsz (Steps.refl _) (a := b) (argsL := argsL) (rest := rest) (lenOf hds hlen) hst hW hd (fun _ _ => ⟨rfl, eT, hcl, hsl⟩)
  dsimp only [Pt.U, Pt.locs, Pt.cells, Pt.slots] at X' l1 y1 z1 stp hQ
  subst l1 y1 z1
  exact Gl.of (fun t q => stp.trans q) (k v T' Lc X' hQ)
theorem Gl.callI0 {G : State → Outcome → Prop} (X : Stand p l e R s m args below meth c T locs cells slots) (hx : p.tables.exec = Jvm.exec) (hZ : Z.Warmed39 s.vm) {own : String} {index : Nat} {y : MethodName} {bytes : ByteArray} {maxL : Nat} (hy1 : y.name = "<init>") (hown : s.vm.findClass own = some m.cls)
    (w1 : (Jvm.Cond.methodLink own index y).before a0 Z = true) (w2 : (Jvm.Cond.instanceMethod y).before a0 Z = true) (w3 : (Jvm.Cond.initialized y.cls).before a0 Z = true) (w4 : (Jvm.Cond.code y bytes maxL none).before a0 Z = true) (hy : y.cls ≠ "java/lang/invoke/MethodHandle" ∧ y.cls ≠ "java/lang/invoke/VarHandle")
    {fr lo : Nat} {F : Option Value → Prop} {b : Addr} {argsL rest : List Value} (hM : Con l Z y bytes maxL none [] ({ frames := fr, cells := 0, slots := 0, locals := lo } : Room) 0 0 (.ref b :: argsL).toArray h (Pur F h)) (W : Nat) (hf : fr + 1 ≤ R.frames) (hl : W + (maxL + 11) + lo ≤ R.locals) (eT : T.heap = h)
    {pc : Nat} {Ls : Array Slot} {st : List Value} (hsz : Ls.size = c.maxLocals) {ps : List FieldType} {r' : Option FieldType} (hds : parseMethodDescriptor y.desc = some ⟨ps, r'⟩) (hlen : argsL.length = ps.length) (hst : st = argsL.reverse ++ .ref b :: rest) (hW : 2 * 0 + (rest.map fun v => v.category).sum ≤ W) (hd : decode c.code pc = .ok (.invokespecial index, 3)) (hcl : cells ≤ R.cells) (hsl : slots ≤ R.slots)
    (k : ∀ (v : Option Value) (T' : State), Stand p l e R s m args below meth c T' locs cells slots → T'.heap = h → F v → Gl p e below G (T'.setTop (mkF m (pc + 3) Ls (v.toList ++ rest)))) : Gl p e below G (T.setTop (mkF m pc Ls st)) := by
  refine Gl.callI X hx hZ hy1 hown w1 w2 w3 w4 hy hM W hf hl hcl hsl eT hsz hds hlen hst hW hd ?_
  intro v T' L X' hQ
  obtain ⟨q1, q2, rfl⟩ := hQ
  rw [List.append_nil] at X'
  exact k v T' X' q2 q1
/-- a constructor, by a Back -/
theorem Gl.callIB {G : State → Outcome → Prop} (X : Stand p l e R s m args below meth c T locs cells slots) (hx : p.tables.exec = Jvm.exec) (hZ : Z.Warmed39 s.vm) {own : String} {index : Nat} {y : MethodName} {bytes : ByteArray} {maxL : Nat} (hy1 : y.name = "<init>") (hown : s.vm.findClass own = some m.cls)
    (w1 : (Jvm.Cond.methodLink own index y).before a0 Z = true) (w2 : (Jvm.Cond.instanceMethod y).before a0 Z = true) (w4 : (Jvm.Cond.code y bytes maxL none).before a0 Z = true) (hy : y.cls ≠ "java/lang/invoke/MethodHandle" ∧ y.cls ≠ "java/lang/invoke/VarHandle")
    {C N W : Nat} (Q : Option Value → Heap → List Loc → Prop) {b : Addr} {argsL rest : List Value} (hK : Back l R p e below s args y 3 W (fun A a => a = (Value.ref b :: argsL).toArray ∧ A.U.heap = h ∧ A.cells + C ≤ R.cells ∧ A.slots + N ≤ R.slots) (fun A _ v B => ∃ L, Q v B.U.heap L ∧ B.locs = A.locs ++ L ∧ B.cells = A.cells + C ∧ B.slots = A.slots + N)) (hcl : cells + C ≤ R.cells) (hsl : slots + N ≤ R.slots) (eT : T.heap = h)
    {pc : Nat} {Ls : Array Slot} {st : List Value} (hsz : Ls.size = c.maxLocals) {ps : List FieldType} {r' : Option FieldType} (hds : parseMethodDescriptor y.desc = some ⟨ps, r'⟩) (hlen : argsL.length = ps.length) (hst : st = argsL.reverse ++ .ref b :: rest) (hW : 2 * 0 + (rest.map fun v => v.category).sum ≤ W) (hd : decode c.code pc = .ok (.invokespecial index, 3))
    (k : ∀ (v : Option Value) (T' : State) (L : List Loc), Stand p l e R s m args below meth c T' (locs ++ L) (cells + C) (slots + N) → Q v T'.heap L → Gl p e below G (T'.setTop (mkF m (pc + 3) Ls (v.toList ++ rest)))) : Gl p e below G (T.setTop (mkF m pc Ls st)) := by
  obtain ⟨v, _, ⟨T', L', k', n'⟩, -, X', ⟨Lc, hQ, l1, y1, z1⟩, stp⟩ := X.specialBack hx (y := y) hy1 hown (mvT hZ w1) (mvT hZ w2) (mvT hZ w4) hy hK (g := mkF m pc Ls st) rfl hsz (Steps.refl _) (a := b) (argsL := argsL) (rest := rest) (lenOf hds hlen) hst hW hd (fun _ _ => ⟨rfl, eT, hcl, hsl⟩)
  dsimp only [Pt.U, Pt.locs, Pt.cells, Pt.slots] at X' l1 y1 z1 stp hQ
  subst l1 y1 z1
  exact Gl.of (fun t q => stp.trans q) (k v T' Lc X' hQ)
/-- an instance method that writes and makes nothing, by a Back -/
theorem Gl.callVB {G : State → Outcome → Prop} (X : Stand p l e R s m args below meth c T locs cells slots) (hx : p.tables.exec = Jvm.exec) (hZ : Z.Warmed39 s.vm) {own C : String} {index : Nat} {y z : MethodName} (hown : s.vm.findClass own = some m.cls)
    (w1 : (Jvm.Cond.methodLink own index y).before a0 Z = true) (w2 : (Jvm.Cond.declares y).before a0 Z = true) (nf : NotFace s y) (w3 : (Jvm.Cond.selects C y z).before a0 Z = true) (w4 : (Jvm.Cond.instanceMethod z).before a0 Z = true) (hy : y.cls ≠ "java/lang/invoke/MethodHandle" ∧ y.cls ≠ "java/lang/invoke/VarHandle")
    {W : Nat} (F : Option Value → Prop) {b : Addr} {argsL rest : List Value} (hE : Exa Z h b C) (hK : Back l R p e below s args z 3 W (fun A a => a = (Value.ref b :: argsL).toArray ∧ A.U.heap = h ∧ A.cells + 0 ≤ R.cells ∧ A.slots + 0 ≤ R.slots) (fun A _ v B => ∃ L, (F v ∧ L = [] ∧ B.U.heap = h) ∧ B.locs = A.locs ++ L ∧ B.cells = A.cells + 0 ∧ B.slots = A.slots + 0)) (hcl : cells ≤ R.cells) (hsl : slots ≤ R.slots) (eT : T.heap = h)
    {pc : Nat} {Ls : Array Slot} {st : List Value} (hsz : Ls.size = c.maxLocals) {ps : List FieldType} {r' : Option FieldType} (hds : parseMethodDescriptor y.desc = some ⟨ps, r'⟩) (hlen : argsL.length = ps.length) (hst : st = argsL.reverse ++ .ref b :: rest) (hW : 2 * 0 + (rest.map fun v => v.category).sum ≤ W) (hd : decode c.code pc = .ok (.invokevirtual index, 3))
    (k : ∀ (v : Option Value) (T' : State), Stand p l e R s m args below meth c T' locs cells slots → T'.heap = h → F v → Gl p e below G (T'.setTop (mkF m (pc + 3) Ls (v.toList ++ rest)))) : Gl p e below G (T.setTop (mkF m pc Ls st)) := by
  obtain ⟨cq, kq, qa, qb, qc⟩ := isOf hZ eT hE
  obtain ⟨v, _, ⟨T', L', k', n'⟩, -, X', ⟨Lc, ⟨hF, hL, hH⟩, l1, y1, z1⟩, stp⟩ := X.virtualBack hx (y := y) (z := z) hown (mvT hZ w1) (mvT hZ w2) nf (mvT hZ w3) (mvT hZ w4) hy hK qa qc (g := mkF m pc Ls st) rfl hsz (Steps.refl _) (argsL := argsL) (rest := rest) (lenOf hds hlen) hst hW hd (fun _ _ => ⟨rfl, eT, hcl, hsl⟩)
  dsimp only [Pt.U, Pt.locs, Pt.cells, Pt.slots] at X' l1 y1 z1 stp hH
  subst l1 y1 z1 hL
  rw [List.append_nil] at X'
  exact Gl.of (fun t q => stp.trans q) (k v T' X' hH hF)
theorem nf_same {y y' : MethodName} {C : String} (hc : y'.cls = y.cls) (w : (Jvm.Cond.selects C y y).before args s = true) : NotFace s y' := fun r0 h0 => by
  obtain ⟨c2, r2, m2, q1, q2, q3, q4, kP, hkP, hkPi⟩ := Cond.selects_spec w
  have a := findClass_of_methodNamed h0
  rw [hc] at a
  have b := Option.some.inj (a.symm.trans (findClass_of_methodNamed q3))
  exact ⟨kP, by rw [b]; exact hkP, hkPi⟩
theorem fld_ne {a b : Addr} {C n d : String} {v w : Value} (F : Fld Z h a C n d v) (G : Fld Z h b C n d w) (hn : v ≠ w) : ¬ a = b := fun e => by
  subst e
  obtain ⟨c1, cf, k, i, f, h1, h2, -, -, -, -, h7⟩ := F
  obtain ⟨c2, cf', k', i', f', g1, g2, -, -, -, -, g7⟩ := G
  cases h1.symm.trans g1
  cases h2.symm.trans g2
  exact hn (Option.some.inj (h7.symm.trans g7))
theorem own_nb1 : nar .boolean 1 = 1 := rfl
theorem own_nb0 : nar .boolean 0 = 0 := rfl
/-- the words of a case: an equation with an int -/
theorem eq_at {args : Array Value} {s : State} {t : Term} {idx : List Nat} {z : Int32} (h : (Jvm.Cond.eq t (.int z)).value args s none s idx = some true) : t.eval args s none idx s = some (.int z) := by
  obtain ⟨x, y', e1, e2, k1, k2⟩ := cmp_v (Or.inl h)
  cases (Term.int_eval z).symm.trans e2
  obtain ⟨z', rfl⟩ : ∃ z', x = .int z' := k2
  exact e1.trans (congrArg (fun z => some (Value.int z)) (gotT (Cond.eq_ints e1 (Term.int_eval z)) h))
theorem eqR_at {args : Array Value} {s : State} {t u : Term} {idx : List Nat} {a : Addr} (h : (Jvm.Cond.eq t u).value args s none s idx = some true) (hu : u.eval args s none idx s = some (.ref a)) : t.eval args s none idx s = some (.ref a) := by
  obtain ⟨x, y', e1, e2, k1, k2⟩ := cmp_v (Or.inl h)
  cases hu.symm.trans e2
  have hx : x.isRef = true := k2.2
  have q := gotT (eq_R e1 hu hx rfl) h
  rw [q] at e1
  exact e1
theorem len_at {args : Array Value} {s : State} {t : Term} {z : Int32} {a : Addr} {cl : Cell} (h : (Term.length t).eval args s none [] s = some (.int z)) (ht : t.eval args s none [] s = some (.ref a)) (ha : s.arrayAt? a = some cl) : cl.slots.size.toInt32 = z ∧ cl.slots.size < 2 ^ 31 := by
  by_cases q : cl.slots.size < 2 ^ 31
  · rw [len_f ht ha q] at h
    cases h
    exact ⟨rfl, q⟩
  · simp [Term.eval, ht, ha, q] at h
theorem len_sz {n : Nat} {z : Int32} (h : n.toInt32 = z) (q : n < 2 ^ 31) : n = z.toNatClampNeg := by
  rw [← h]; simp only [Int32.toNatClampNeg, len_toInt q]; rfl
end Own
def own_kind (a b c d f : Addr) (k : Int32) : Addr := if k = (0 : Int32) then a else if k = (1 : Int32) then b else if k = (2 : Int32) then c else if k = (3 : Int32) then d else f
theorem own_kindP {P : Addr → Prop} {a b c d f : Addr} (ha : P a) (hb : P b) (hc : P c) (hd : P d) (hf : P f) (k : Int32) : P (own_kind a b c d f k) := by
  unfold own_kind
  split
  · exact ha
  split
  · exact hb
  split
  · exact hc
  split
  · exact hd
  · exact hf
def own_num (b c x : Addr) : Int32 := if x = b then 1 else if x = c then 1 else 0
def own_cmp (b c x y : Addr) : Int32 := if x = y then 1 else if own_num b c x = (0 : Int32) then 0 else if own_num b c y = (0 : Int32) then 0 else 1
def own_exp (i j : Int32) : Int32 := if ((((17045697 : Int32).toUInt32 >>> (((i * (5 : Int32)) + j) &&& 31).toUInt32).toInt32) &&& (1 : Int32)) = (0 : Int32) then 0 else 1
def own_in (i : Int32) : Prop := i = 0 ∨ i = 1 ∨ i = 2 ∨ i = 3 ∨ i = 4
theorem own_rem (x : Int32) : own_in ((x &&& (2147483647 : Int32)) % (5 : Int32)) := by
  have h : (x &&& (2147483647 : Int32)).toInt = x.toInt % 2 ^ 31 := Jvm.Kit.i32_mask x 2147483647 (k := 31) (by decide) (by decide)
  have h2 : ((x &&& (2147483647 : Int32)) % (5 : Int32)).toInt = (x &&& (2147483647 : Int32)).toInt.tmod 5 := Int32.toInt_mod _ _
  have h3 : 0 ≤ (x &&& (2147483647 : Int32)).toInt := by rw [h]; omega
  rw [Int.tmod_eq_emod_of_nonneg h3] at h2
  generalize ((x &&& (2147483647 : Int32)) % (5 : Int32)) = z at h2
  have h4 : z.toInt = 0 ∨ z.toInt = 1 ∨ z.toInt = 2 ∨ z.toInt = 3 ∨ z.toInt = 4 := by omega
  rcases h4 with q | q | q | q | q
  · exact Or.inl (Int32.toInt_inj.mp q)
  · exact Or.inr (Or.inl (Int32.toInt_inj.mp q))
  · exact Or.inr (Or.inr (Or.inl (Int32.toInt_inj.mp q)))
  · exact Or.inr (Or.inr (Or.inr (Or.inl (Int32.toInt_inj.mp q))))
  · exact Or.inr (Or.inr (Or.inr (Or.inr (Int32.toInt_inj.mp q))))
theorem own_fin {aS aI aD aB aT : Addr} (h01 : ¬ aS = aI) (h02 : ¬ aS = aD) (h03 : ¬ aS = aB) (h04 : ¬ aS = aT) (h12 : ¬ aI = aD) (h13 : ¬ aI = aB) (h14 : ¬ aI = aT) (h23 : ¬ aD = aB) (h24 : ¬ aD = aT) (h34 : ¬ aB = aT) {i j : Int32} (hi : own_in i) (hj : own_in j) : own_cmp aI aD (own_kind aS aI aD aB aT i) (own_kind aS aI aD aB aT j) = own_exp i j := by
  have g01 : ¬ aI = aS := fun e => h01 (Eq.symm e)
  have g02 : ¬ aD = aS := fun e => h02 (Eq.symm e)
  have g03 : ¬ aB = aS := fun e => h03 (Eq.symm e)
  have g04 : ¬ aT = aS := fun e => h04 (Eq.symm e)
  have g12 : ¬ aD = aI := fun e => h12 (Eq.symm e)
  have g13 : ¬ aB = aI := fun e => h13 (Eq.symm e)
  have g14 : ¬ aT = aI := fun e => h14 (Eq.symm e)
  have g23 : ¬ aB = aD := fun e => h23 (Eq.symm e)
  have g24 : ¬ aT = aD := fun e => h24 (Eq.symm e)
  have g34 : ¬ aT = aB := fun e => h34 (Eq.symm e)
  have k0 : own_kind aS aI aD aB aT 0 = aS := rfl
  have k1 : own_kind aS aI aD aB aT 1 = aI := rfl
  have k2 : own_kind aS aI aD aB aT 2 = aD := rfl
  have k3 : own_kind aS aI aD aB aT 3 = aB := rfl
  have k4 : own_kind aS aI aD aB aT 4 = aT := rfl
  have x00 : own_exp 0 0 = 1 := by decide +kernel
  have x01 : own_exp 0 1 = 0 := by decide +kernel
  have x02 : own_exp 0 2 = 0 := by decide +kernel
  have x03 : own_exp 0 3 = 0 := by decide +kernel
  have x04 : own_exp 0 4 = 0 := by decide +kernel
  have x10 : own_exp 1 0 = 0 := by decide +kernel
  have x11 : own_exp 1 1 = 1 := by decide +kernel
  have x12 : own_exp 1 2 = 1 := by decide +kernel
  have x13 : own_exp 1 3 = 0 := by decide +kernel
  have x14 : own_exp 1 4 = 0 := by decide +kernel
  have x20 : own_exp 2 0 = 0 := by decide +kernel
  have x21 : own_exp 2 1 = 1 := by decide +kernel
  have x22 : own_exp 2 2 = 1 := by decide +kernel
  have x23 : own_exp 2 3 = 0 := by decide +kernel
  have x24 : own_exp 2 4 = 0 := by decide +kernel
  have x30 : own_exp 3 0 = 0 := by decide +kernel
  have x31 : own_exp 3 1 = 0 := by decide +kernel
  have x32 : own_exp 3 2 = 0 := by decide +kernel
  have x33 : own_exp 3 3 = 1 := by decide +kernel
  have x34 : own_exp 3 4 = 0 := by decide +kernel
  have x40 : own_exp 4 0 = 0 := by decide +kernel
  have x41 : own_exp 4 1 = 0 := by decide +kernel
  have x42 : own_exp 4 2 = 0 := by decide +kernel
  have x43 : own_exp 4 3 = 0 := by decide +kernel
  have x44 : own_exp 4 4 = 1 := by decide +kernel
  rcases hi with rfl | rfl | rfl | rfl | rfl <;> rcases hj with rfl | rfl | rfl | rfl | rfl
  all_goals simp only [k0, k1, k2, k3, k4, x00, x01, x02, x03, x04, x10, x11, x12, x13, x14, x20, x21, x22, x23, x24, x30, x31, x32, x33, x34, x40, x41, x42, x43, x44]
  all_goals simp [own_cmp, own_num, h01, h02, h03, h04, h12, h13, h14, h23, h24, h34, g01, g02, g03, g04, g12, g13, g14, g23, g24, g34]
theorem ef_1 (m : MethodId) (x0 : Int32) : entryFrame m #[(.int x0)] 1 = mkF m 0 #[.val (.int x0)] [] := by first | (simp [entryFrame, mkF, argsToLocals, Value.category, maxLocals]; done) | rfl
theorem pn_0 : plainName "com/example/rulr/rulr/policy/ValueTypeComparesWithPinLaw" = true := by first | (simp [plainName, overriddenIn]; done) | decide +kernel
theorem d1_0 : decode method_2_code 0 = .ok (.iload_n 0, 1) := by decide +kernel
theorem d1_1 : decode method_2_code 1 = .ok (.ifCond .ne 7, 3) := by decide +kernel
theorem d1_4 : decode method_2_code 4 = .ok (.getstatic 7, 3) := by decide +kernel
theorem w6 {Z : State} {a0 : Array Value} (hw : ∀ d ∈ tables_1, d.before a0 Z = true) : (Jvm.Cond.fieldLink "com/example/rulr/rulr/policy/ValueTypeComparesWithPinLaw" (7 : Nat) "com/example/rulr/rulr/policy/ValueType" "STRING" "Lcom/example/rulr/rulr/policy/ValueType;").before a0 Z = true := hw _ (List.mem_of_getElem? (i := 6) rfl)
theorem d1_7 : decode method_2_code 7 = .ok (.areturn, 1) := by decide +kernel
theorem d1_8 : decode method_2_code 8 = .ok (.iload_n 0, 1) := by decide +kernel
theorem d1_9 : decode method_2_code 9 = .ok (.iconst 1, 1) := by decide +kernel
theorem d1_10 : decode method_2_code 10 = .ok (.if_icmp .ne 7, 3) := by decide +kernel
theorem d1_13 : decode method_2_code 13 = .ok (.getstatic 13, 3) := by decide +kernel
theorem w26 {Z : State} {a0 : Array Value} (hw : ∀ d ∈ tables_1, d.before a0 Z = true) : (Jvm.Cond.fieldLink "com/example/rulr/rulr/policy/ValueTypeComparesWithPinLaw" (13 : Nat) "com/example/rulr/rulr/policy/ValueType" "INTEGER" "Lcom/example/rulr/rulr/policy/ValueType;").before a0 Z = true := hw _ (List.mem_of_getElem? (i := 26) rfl)
theorem d1_16 : decode method_2_code 16 = .ok (.areturn, 1) := by decide +kernel
theorem d1_17 : decode method_2_code 17 = .ok (.iload_n 0, 1) := by decide +kernel
theorem d1_18 : decode method_2_code 18 = .ok (.iconst 2, 1) := by decide +kernel
theorem d1_19 : decode method_2_code 19 = .ok (.if_icmp .ne 7, 3) := by decide +kernel
theorem d1_22 : decode method_2_code 22 = .ok (.getstatic 16, 3) := by decide +kernel
theorem w27 {Z : State} {a0 : Array Value} (hw : ∀ d ∈ tables_1, d.before a0 Z = true) : (Jvm.Cond.fieldLink "com/example/rulr/rulr/policy/ValueTypeComparesWithPinLaw" (16 : Nat) "com/example/rulr/rulr/policy/ValueType" "DOUBLE" "Lcom/example/rulr/rulr/policy/ValueType;").before a0 Z = true := hw _ (List.mem_of_getElem? (i := 27) rfl)
theorem d1_25 : decode method_2_code 25 = .ok (.areturn, 1) := by decide +kernel
theorem d1_26 : decode method_2_code 26 = .ok (.iload_n 0, 1) := by decide +kernel
theorem d1_27 : decode method_2_code 27 = .ok (.iconst 3, 1) := by decide +kernel
theorem d1_28 : decode method_2_code 28 = .ok (.if_icmp .ne 7, 3) := by decide +kernel
theorem d1_31 : decode method_2_code 31 = .ok (.getstatic 19, 3) := by decide +kernel
theorem w9 {Z : State} {a0 : Array Value} (hw : ∀ d ∈ tables_1, d.before a0 Z = true) : (Jvm.Cond.fieldLink "com/example/rulr/rulr/policy/ValueTypeComparesWithPinLaw" (19 : Nat) "com/example/rulr/rulr/policy/ValueType" "BOOLEAN" "Lcom/example/rulr/rulr/policy/ValueType;").before a0 Z = true := hw _ (List.mem_of_getElem? (i := 9) rfl)
theorem d1_34 : decode method_2_code 34 = .ok (.areturn, 1) := by decide +kernel
theorem d1_35 : decode method_2_code 35 = .ok (.getstatic 22, 3) := by decide +kernel
theorem w24 {Z : State} {a0 : Array Value} (hw : ∀ d ∈ tables_1, d.before a0 Z = true) : (Jvm.Cond.fieldLink "com/example/rulr/rulr/policy/ValueTypeComparesWithPinLaw" (22 : Nat) "com/example/rulr/rulr/policy/ValueType" "TIMESTAMP" "Lcom/example/rulr/rulr/policy/ValueType;").before a0 Z = true := hw _ (List.mem_of_getElem? (i := 24) rfl)
theorem d1_38 : decode method_2_code 38 = .ok (.areturn, 1) := by decide +kernel
set_option maxRecDepth 65536 in
set_option maxHeartbeats 40000000 in
theorem rm1 (l : Launch) (Z : State) (a0 : Array Value) (hw : ∀ d ∈ tables_1, d.before a0 Z = true) (h0 : Heap) (aS aI aD aB aT : Addr) (p1 : Int32) (S0 : Sta Z h0 "com/example/rulr/rulr/policy/ValueType" "STRING" "Lcom/example/rulr/rulr/policy/ValueType;" (.ref aS)) (S1 : Sta Z h0 "com/example/rulr/rulr/policy/ValueType" "INTEGER" "Lcom/example/rulr/rulr/policy/ValueType;" (.ref aI)) (S2 : Sta Z h0 "com/example/rulr/rulr/policy/ValueType" "DOUBLE" "Lcom/example/rulr/rulr/policy/ValueType;" (.ref aD)) (S3 : Sta Z h0 "com/example/rulr/rulr/policy/ValueType" "BOOLEAN" "Lcom/example/rulr/rulr/policy/ValueType;" (.ref aB)) (S4 : Sta Z h0 "com/example/rulr/rulr/policy/ValueType" "TIMESTAMP" "Lcom/example/rulr/rulr/policy/ValueType;" (.ref aT)) : Con l Z (⟨"com/example/rulr/rulr/policy/ValueTypeComparesWithPinLaw", "kind", "(I)Lcom/example/rulr/rulr/policy/ValueType;"⟩ : MethodName) method_2_code 1 (some (.object "com/example/rulr/rulr/policy/ValueType")) [] ({ frames := 0, cells := 0, slots := 0, locals := 0 } : Room) 0 0 #[(.int p1)] h0 (Pur (fun v => v = some (.ref (own_kind aS aI aD aB aT p1))) h0) := by
  refine Con.intro (plainFor_of_name pn_0) ?_
  intro p e s m below meth c s₁ X0 hx hby hml hZ hown hnm hret hlk e0 hs0
  refine Gl.of (fun _ k => castTop (ef_1 m p1) k) ?_
  show Gl p e below _ (s₁.setTop (mkF m 0 #[.val (.int p1)] []))
  refine Gl.of (fun _ k => XS.iloadN X0.here hx rfl (hb hby d1_0) rfl k) ?_
  show Gl p e below _ (s₁.setTop (mkF m 1 #[.val (.int p1)] [(.int p1)]))
  by_cases hc1_1 : p1 = (0 : Int32)
  · refine Gl.of (fun _ k => XS.ifNo X0.here hx rfl (hb hby d1_1) rfl ((if0 _ _).trans (teq hc1_1).2) k) ?_
    show Gl p e below _ (s₁.setTop (mkF m 4 #[.val (.int p1)] []))
    obtain ⟨T2, X2, e2, st2⟩ := getS2 X0 hx hZ hown (host := "") (Or.inl (w6 hw)) Via.refl e0 S0 (g := (mkF m 4 #[.val (.int p1)] [])) rfl (hb hby d1_4)
    refine Gl.of st2 ?_
    show Gl p e below _ (T2.setTop (mkF m 7 #[.val (.int p1)] [(.ref aS)]))
    exact Gl.retR X2 hx hlk hret rfl rfl (hb hby d1_7) e2 (⟨by simp [own_kind, hc1_1], rfl, rfl⟩) (by decide) (by decide)
  · refine Gl.of (fun _ k => XS.ifYes X0.here hx rfl (pc0 := 1) (pc' := 8) rfl (hb hby d1_1) rfl ((if0 _ _).trans (feq hc1_1).2) (by decide) (by decide) k) ?_
    show Gl p e below _ (s₁.setTop (mkF m 8 #[.val (.int p1)] []))
    refine Gl.of (fun _ k => XS.iloadN X0.here hx rfl (hb hby d1_8) rfl k) ?_
    show Gl p e below _ (s₁.setTop (mkF m 9 #[.val (.int p1)] [(.int p1)]))
    refine Gl.of (fun _ k => XS.iconst X0.here hx rfl (hb hby d1_9) k) ?_
    show Gl p e below _ (s₁.setTop (mkF m 10 #[.val (.int p1)] [(.int (1 : Int32)), (.int p1)]))
    by_cases hc10_3 : p1 = (1 : Int32)
    · refine Gl.of (fun _ k => XS.icmpNo X0.here hx rfl (hb hby d1_10) rfl (teq hc10_3).2 k) ?_
      show Gl p e below _ (s₁.setTop (mkF m 13 #[.val (.int p1)] []))
      obtain ⟨T4, X4, e4, st4⟩ := getS2 X0 hx hZ hown (host := "") (Or.inl (w26 hw)) Via.refl e0 S1 (g := (mkF m 13 #[.val (.int p1)] [])) rfl (hb hby d1_13)
      refine Gl.of st4 ?_
      show Gl p e below _ (T4.setTop (mkF m 16 #[.val (.int p1)] [(.ref aI)]))
      exact Gl.retR X4 hx hlk hret rfl rfl (hb hby d1_16) e4 (⟨by simp [own_kind, hc1_1, hc10_3], rfl, rfl⟩) (by decide) (by decide)
    · refine Gl.of (fun _ k => XS.icmpYes X0.here hx rfl (pc0 := 10) (pc' := 17) rfl (hb hby d1_10) rfl (feq hc10_3).2 (by decide) (by decide) k) ?_
      show Gl p e below _ (s₁.setTop (mkF m 17 #[.val (.int p1)] []))
      refine Gl.of (fun _ k => XS.iloadN X0.here hx rfl (hb hby d1_17) rfl k) ?_
      show Gl p e below _ (s₁.setTop (mkF m 18 #[.val (.int p1)] [(.int p1)]))
      refine Gl.of (fun _ k => XS.iconst X0.here hx rfl (hb hby d1_18) k) ?_
      show Gl p e below _ (s₁.setTop (mkF m 19 #[.val (.int p1)] [(.int (2 : Int32)), (.int p1)]))
      by_cases hc19_5 : p1 = (2 : Int32)
      · refine Gl.of (fun _ k => XS.icmpNo X0.here hx rfl (hb hby d1_19) rfl (teq hc19_5).2 k) ?_
        show Gl p e below _ (s₁.setTop (mkF m 22 #[.val (.int p1)] []))
        obtain ⟨T6, X6, e6, st6⟩ := getS2 X0 hx hZ hown (host := "") (Or.inl (w27 hw)) Via.refl e0 S2 (g := (mkF m 22 #[.val (.int p1)] [])) rfl (hb hby d1_22)
        refine Gl.of st6 ?_
        show Gl p e below _ (T6.setTop (mkF m 25 #[.val (.int p1)] [(.ref aD)]))
        exact Gl.retR X6 hx hlk hret rfl rfl (hb hby d1_25) e6 (⟨by simp [own_kind, hc1_1, hc10_3, hc19_5], rfl, rfl⟩) (by decide) (by decide)
      · refine Gl.of (fun _ k => XS.icmpYes X0.here hx rfl (pc0 := 19) (pc' := 26) rfl (hb hby d1_19) rfl (feq hc19_5).2 (by decide) (by decide) k) ?_
        show Gl p e below _ (s₁.setTop (mkF m 26 #[.val (.int p1)] []))
        refine Gl.of (fun _ k => XS.iloadN X0.here hx rfl (hb hby d1_26) rfl k) ?_
        show Gl p e below _ (s₁.setTop (mkF m 27 #[.val (.int p1)] [(.int p1)]))
        refine Gl.of (fun _ k => XS.iconst X0.here hx rfl (hb hby d1_27) k) ?_
        show Gl p e below _ (s₁.setTop (mkF m 28 #[.val (.int p1)] [(.int (3 : Int32)), (.int p1)]))
        by_cases hc28_7 : p1 = (3 : Int32)
        · refine Gl.of (fun _ k => XS.icmpNo X0.here hx rfl (hb hby d1_28) rfl (teq hc28_7).2 k) ?_
          show Gl p e below _ (s₁.setTop (mkF m 31 #[.val (.int p1)] []))
          obtain ⟨T8, X8, e8, st8⟩ := getS2 X0 hx hZ hown (host := "") (Or.inl (w9 hw)) Via.refl e0 S3 (g := (mkF m 31 #[.val (.int p1)] [])) rfl (hb hby d1_31)
          refine Gl.of st8 ?_
          show Gl p e below _ (T8.setTop (mkF m 34 #[.val (.int p1)] [(.ref aB)]))
          exact Gl.retR X8 hx hlk hret rfl rfl (hb hby d1_34) e8 (⟨by simp [own_kind, hc1_1, hc10_3, hc19_5, hc28_7], rfl, rfl⟩) (by decide) (by decide)
        · refine Gl.of (fun _ k => XS.icmpYes X0.here hx rfl (pc0 := 28) (pc' := 35) rfl (hb hby d1_28) rfl (feq hc28_7).2 (by decide) (by decide) k) ?_
          show Gl p e below _ (s₁.setTop (mkF m 35 #[.val (.int p1)] []))
          obtain ⟨T9, X9, e9, st9⟩ := getS2 X0 hx hZ hown (host := "") (Or.inl (w24 hw)) Via.refl e0 S4 (g := (mkF m 35 #[.val (.int p1)] [])) rfl (hb hby d1_35)
          refine Gl.of st9 ?_
          show Gl p e below _ (T9.setTop (mkF m 38 #[.val (.int p1)] [(.ref aT)]))
          exact Gl.retR X9 hx hlk hret rfl rfl (hb hby d1_38) e9 (⟨by simp [own_kind, hc1_1, hc10_3, hc19_5, hc28_7], rfl, rfl⟩) (by decide) (by decide)
theorem ef_2 (m : MethodId) (x0 : Addr) : entryFrame m #[(.ref x0)] 1 = mkF m 0 #[.val (.ref x0)] [] := by first | (simp [entryFrame, mkF, argsToLocals, Value.category, maxLocals]; done) | rfl
theorem pn_1 : plainName "com/example/rulr/rulr/policy/ValueType" = true := by first | (simp [plainName, overriddenIn]; done) | decide +kernel
theorem d3_0 : decode prog_65_method_9_code 0 = .ok (.aload_n 0, 1) := by decide +kernel
theorem d3_1 : decode prog_65_method_9_code 1 = .ok (.getstatic 7, 3) := by decide +kernel
theorem w20 {Z : State} {a0 : Array Value} (hw : ∀ d ∈ tables_1, d.before a0 Z = true) : (Jvm.Cond.fieldLink "com/example/rulr/rulr/policy/ValueType" (7 : Nat) "com/example/rulr/rulr/policy/ValueType" "INTEGER" "Lcom/example/rulr/rulr/policy/ValueType;").before a0 Z = true := hw _ (List.mem_of_getElem? (i := 20) rfl)
theorem d3_4 : decode prog_65_method_9_code 4 = .ok (.if_acmp .eq 10, 3) := by decide +kernel
theorem d3_14 : decode prog_65_method_9_code 14 = .ok (.iconst 1, 1) := by decide +kernel
theorem d3_15 : decode prog_65_method_9_code 15 = .ok (.goto 4, 3) := by decide +kernel
theorem d3_19 : decode prog_65_method_9_code 19 = .ok (.ireturn, 1) := by decide +kernel
theorem d3_7 : decode prog_65_method_9_code 7 = .ok (.aload_n 0, 1) := by decide +kernel
theorem d3_8 : decode prog_65_method_9_code 8 = .ok (.getstatic 10, 3) := by decide +kernel
theorem w22 {Z : State} {a0 : Array Value} (hw : ∀ d ∈ tables_1, d.before a0 Z = true) : (Jvm.Cond.fieldLink "com/example/rulr/rulr/policy/ValueType" (10 : Nat) "com/example/rulr/rulr/policy/ValueType" "DOUBLE" "Lcom/example/rulr/rulr/policy/ValueType;").before a0 Z = true := hw _ (List.mem_of_getElem? (i := 22) rfl)
theorem d3_11 : decode prog_65_method_9_code 11 = .ok (.if_acmp .ne 7, 3) := by decide +kernel
theorem d3_18 : decode prog_65_method_9_code 18 = .ok (.iconst 0, 1) := by decide +kernel
set_option maxRecDepth 65536 in
set_option maxHeartbeats 40000000 in
theorem rm2 (l : Launch) (Z : State) (a0 : Array Value) (hw : ∀ d ∈ tables_1, d.before a0 Z = true) (h0 : Heap) (aI aD a1 : Addr) (S1 : Sta Z h0 "com/example/rulr/rulr/policy/ValueType" "INTEGER" "Lcom/example/rulr/rulr/policy/ValueType;" (.ref aI)) (S2 : Sta Z h0 "com/example/rulr/rulr/policy/ValueType" "DOUBLE" "Lcom/example/rulr/rulr/policy/ValueType;" (.ref aD)) : Con l Z (⟨"com/example/rulr/rulr/policy/ValueType", "isNumber", "()Z"⟩ : MethodName) prog_65_method_9_code 1 (some .boolean) [] ({ frames := 0, cells := 0, slots := 0, locals := 0 } : Room) 0 0 #[(.ref a1)] h0 (Pur (fun v => v = some (.int (own_num aI aD a1))) h0) := by
  refine Con.intro (plainFor_of_name pn_1) ?_
  intro p e s m below meth c s₁ X0 hx hby hml hZ hown hnm hret hlk e0 hs0
  refine Gl.of (fun _ k => castTop (ef_2 m a1) k) ?_
  show Gl p e below _ (s₁.setTop (mkF m 0 #[.val (.ref a1)] []))
  refine Gl.of (fun _ k => XS.aloadN X0.here hx rfl (hb hby d3_0) rfl rfl k) ?_
  show Gl p e below _ (s₁.setTop (mkF m 1 #[.val (.ref a1)] [(.ref a1)]))
  obtain ⟨T1, X1, e1, st1⟩ := getS2 X0 hx hZ hown (host := "") (Or.inl (w20 hw)) Via.refl e0 S1 (g := (mkF m 1 #[.val (.ref a1)] [(.ref a1)])) rfl (hb hby d3_1)
  refine Gl.of st1 ?_
  show Gl p e below _ (T1.setTop (mkF m 4 #[.val (.ref a1)] [(.ref aI), (.ref a1)]))
  by_cases hc4_2 : a1 = aI
  · refine Gl.of (fun _ k => Jvm.RoadKit.acmp (g := (mkF m 4 #[.val (.ref a1)] [(.ref aI), (.ref a1)])) X1 hx rfl rfl rfl (pc0 := 4) (pc' := 14) (same := true) rfl (hb hby d3_4) rfl (decide_eq_true (congrArg Value.ref hc4_2)) (by decide) (by decide) k) ?_
    show Gl p e below _ (T1.setTop (mkF m 14 #[.val (.ref a1)] []))
    refine Gl.of (fun _ k => XS.iconst X1.here hx rfl (hb hby d3_14) k) ?_
    show Gl p e below _ (T1.setTop (mkF m 15 #[.val (.ref a1)] [(.int (1 : Int32))]))
    refine Gl.of (fun _ k => XS.goto X1.here hx rfl (pc0 := 15) (pc' := 19) rfl (hb hby d3_15) (by decide) (by decide) k) ?_
    show Gl p e below _ (T1.setTop (mkF m 19 #[.val (.ref a1)] [(.int (1 : Int32))]))
    exact Gl.retN X1 hx hlk hret (by simp) (hb hby d3_19) e1 (⟨by simp [own_num, own_nb1, own_nb0, hc4_2], rfl, rfl⟩) (by decide) (by decide)
  · refine Gl.of (fun _ k => Jvm.RoadKit.acmp (g := (mkF m 4 #[.val (.ref a1)] [(.ref aI), (.ref a1)])) X1 hx rfl rfl rfl (pc0 := 4) (pc' := 7) (same := false) rfl (hb hby d3_4) rfl (decide_eq_false fun q => hc4_2 (Value.ref.inj q)) (by decide) (by decide) k) ?_
    show Gl p e below _ (T1.setTop (mkF m 7 #[.val (.ref a1)] []))
    refine Gl.of (fun _ k => XS.aloadN X1.here hx rfl (hb hby d3_7) rfl rfl k) ?_
    show Gl p e below _ (T1.setTop (mkF m 8 #[.val (.ref a1)] [(.ref a1)]))
    obtain ⟨T3, X3, e3, st3⟩ := getS2 X1 hx hZ hown (host := "") (Or.inl (w22 hw)) Via.refl e1 S2 (g := (mkF m 8 #[.val (.ref a1)] [(.ref a1)])) rfl (hb hby d3_8)
    refine Gl.of st3 ?_
    show Gl p e below _ (T3.setTop (mkF m 11 #[.val (.ref a1)] [(.ref aD), (.ref a1)]))
    by_cases hc11_4 : a1 = aD
    · refine Gl.of (fun _ k => Jvm.RoadKit.acmp (g := (mkF m 11 #[.val (.ref a1)] [(.ref aD), (.ref a1)])) X3 hx rfl rfl rfl (pc0 := 11) (pc' := 14) (same := true) rfl (hb hby d3_11) rfl (decide_eq_true (congrArg Value.ref hc11_4)) (by decide) (by decide) k) ?_
      show Gl p e below _ (T3.setTop (mkF m 14 #[.val (.ref a1)] []))
      refine Gl.of (fun _ k => XS.iconst X3.here hx rfl (hb hby d3_14) k) ?_
      show Gl p e below _ (T3.setTop (mkF m 15 #[.val (.ref a1)] [(.int (1 : Int32))]))
      refine Gl.of (fun _ k => XS.goto X3.here hx rfl (pc0 := 15) (pc' := 19) rfl (hb hby d3_15) (by decide) (by decide) k) ?_
      show Gl p e below _ (T3.setTop (mkF m 19 #[.val (.ref a1)] [(.int (1 : Int32))]))
      exact Gl.retN X3 hx hlk hret (by simp) (hb hby d3_19) e3 (⟨by simp [own_num, own_nb1, own_nb0, hc4_2, hc11_4], rfl, rfl⟩) (by decide) (by decide)
    · refine Gl.of (fun _ k => Jvm.RoadKit.acmp (g := (mkF m 11 #[.val (.ref a1)] [(.ref aD), (.ref a1)])) X3 hx rfl rfl rfl (pc0 := 11) (pc' := 18) (same := false) rfl (hb hby d3_11) rfl (decide_eq_false fun q => hc11_4 (Value.ref.inj q)) (by decide) (by decide) k) ?_
      show Gl p e below _ (T3.setTop (mkF m 18 #[.val (.ref a1)] []))
      refine Gl.of (fun _ k => XS.iconst X3.here hx rfl (hb hby d3_18) k) ?_
      show Gl p e below _ (T3.setTop (mkF m 19 #[.val (.ref a1)] [(.int (0 : Int32))]))
      exact Gl.retN X3 hx hlk hret (by simp) (hb hby d3_19) e3 (⟨by simp [own_num, own_nb1, own_nb0, hc4_2, hc11_4], rfl, rfl⟩) (by decide) (by decide)
theorem ef_3 (m : MethodId) (x0 : Addr) (x1 : Addr) : entryFrame m #[(.ref x0), (.ref x1)] 2 = mkF m 0 #[.val (.ref x0), .val (.ref x1)] [] := by first | (simp [entryFrame, mkF, argsToLocals, Value.category, maxLocals]; done) | rfl
theorem w14 {Z : State} {a0 : Array Value} (hw : ∀ d ∈ tables_1, d.before a0 Z = true) : (Jvm.Cond.selects "com/example/rulr/rulr/policy/ValueType" ({ cls := "com/example/rulr/rulr/policy/ValueType", name := "comparesWith", desc := "(Lcom/example/rulr/rulr/policy/ValueType;)Z" } : Jvm.MethodName) ({ cls := "com/example/rulr/rulr/policy/ValueType", name := "comparesWith", desc := "(Lcom/example/rulr/rulr/policy/ValueType;)Z" } : Jvm.MethodName)).before a0 Z = true := hw _ (List.mem_of_getElem? (i := 14) rfl)
theorem d2_0 : decode prog_65_method_7_code 0 = .ok (.aload_n 0, 1) := by decide +kernel
theorem d2_1 : decode prog_65_method_7_code 1 = .ok (.aload_n 1, 1) := by decide +kernel
theorem d2_2 : decode prog_65_method_7_code 2 = .ok (.if_acmp .eq 17, 3) := by decide +kernel
theorem d2_19 : decode prog_65_method_7_code 19 = .ok (.iconst 1, 1) := by decide +kernel
theorem d2_20 : decode prog_65_method_7_code 20 = .ok (.goto 4, 3) := by decide +kernel
theorem d2_24 : decode prog_65_method_7_code 24 = .ok (.ireturn, 1) := by decide +kernel
theorem d2_5 : decode prog_65_method_7_code 5 = .ok (.aload_n 0, 1) := by decide +kernel
theorem d2_6 : decode prog_65_method_7_code 6 = .ok (.invokevirtual 49, 3) := by decide +kernel
theorem pd_0 : parseMethodDescriptor "()Z" = some ⟨[], some .boolean⟩ := by decide +kernel
theorem w16 {Z : State} {a0 : Array Value} (hw : ∀ d ∈ tables_1, d.before a0 Z = true) : (Jvm.Cond.methodLink "com/example/rulr/rulr/policy/ValueType" (49 : Nat) ({ cls := "com/example/rulr/rulr/policy/ValueType", name := "isNumber", desc := "()Z" } : Jvm.MethodName)).before a0 Z = true := hw _ (List.mem_of_getElem? (i := 16) rfl)
theorem w18 {Z : State} {a0 : Array Value} (hw : ∀ d ∈ tables_1, d.before a0 Z = true) : (Jvm.Cond.privateMethod ({ cls := "com/example/rulr/rulr/policy/ValueType", name := "isNumber", desc := "()Z" } : Jvm.MethodName)).before a0 Z = true := hw _ (List.mem_of_getElem? (i := 18) rfl)
theorem w17 {Z : State} {a0 : Array Value} (hw : ∀ d ∈ tables_1, d.before a0 Z = true) : (Jvm.Cond.instanceMethod ({ cls := "com/example/rulr/rulr/policy/ValueType", name := "isNumber", desc := "()Z" } : Jvm.MethodName)).before a0 Z = true := hw _ (List.mem_of_getElem? (i := 17) rfl)
theorem w19 {Z : State} {a0 : Array Value} (hw : ∀ d ∈ tables_1, d.before a0 Z = true) : (Jvm.Cond.code ({ cls := "com/example/rulr/rulr/policy/ValueType", name := "isNumber", desc := "()Z" } : Jvm.MethodName) prog_65_method_9_code (1 : Nat) (Option.some Jvm.ClassFile.FieldType.boolean)).before a0 Z = true := hw _ (List.mem_of_getElem? (i := 19) rfl)
theorem w7 {Z : State} {a0 : Array Value} (hw : ∀ d ∈ tables_1, d.before a0 Z = true) : (Jvm.Cond.initialized "com/example/rulr/rulr/policy/ValueType").before a0 Z = true := hw _ (List.mem_of_getElem? (i := 7) rfl)
theorem d2_9 : decode prog_65_method_7_code 9 = .ok (.ifCond .eq 14, 3) := by decide +kernel
theorem d2_23 : decode prog_65_method_7_code 23 = .ok (.iconst 0, 1) := by decide +kernel
theorem d2_12 : decode prog_65_method_7_code 12 = .ok (.aload_n 1, 1) := by decide +kernel
theorem d2_13 : decode prog_65_method_7_code 13 = .ok (.invokevirtual 49, 3) := by decide +kernel
theorem d2_16 : decode prog_65_method_7_code 16 = .ok (.ifCond .eq 7, 3) := by decide +kernel
set_option maxRecDepth 65536 in
set_option maxHeartbeats 40000000 in
theorem rm3 (l : Launch) (Z : State) (a0 : Array Value) (hw : ∀ d ∈ tables_1, d.before a0 Z = true) (h0 : Heap) (aI aD a1 a2 : Addr) (S1 : Sta Z h0 "com/example/rulr/rulr/policy/ValueType" "INTEGER" "Lcom/example/rulr/rulr/policy/ValueType;" (.ref aI)) (S2 : Sta Z h0 "com/example/rulr/rulr/policy/ValueType" "DOUBLE" "Lcom/example/rulr/rulr/policy/ValueType;" (.ref aD)) (Ea1 : Exa Z h0 a1 "com/example/rulr/rulr/policy/ValueType") (Ea2 : Exa Z h0 a2 "com/example/rulr/rulr/policy/ValueType") : Con l Z (⟨"com/example/rulr/rulr/policy/ValueType", "comparesWith", "(Lcom/example/rulr/rulr/policy/ValueType;)Z"⟩ : MethodName) prog_65_method_7_code 2 (some .boolean) [] ({ frames := 1, cells := 0, slots := 0, locals := 12 } : Room) 0 0 #[(.ref a1), (.ref a2)] h0 (Pur (fun v => v = some (.int (own_cmp aI aD a1 a2))) h0) := by
  refine Con.intro (plainFor_of_name pn_1) ?_
  intro p e s m below meth c s₁ X0 hx hby hml hZ hown hnm hret hlk e0 hs0
  refine Gl.of (fun _ k => castTop (ef_3 m a1 a2) k) ?_
  show Gl p e below _ (s₁.setTop (mkF m 0 #[.val (.ref a1), .val (.ref a2)] []))
  refine Gl.of (fun _ k => XS.aloadN X0.here hx rfl (hb hby d2_0) rfl rfl k) ?_
  show Gl p e below _ (s₁.setTop (mkF m 1 #[.val (.ref a1), .val (.ref a2)] [(.ref a1)]))
  refine Gl.of (fun _ k => XS.aloadN X0.here hx rfl (hb hby d2_1) rfl rfl k) ?_
  show Gl p e below _ (s₁.setTop (mkF m 2 #[.val (.ref a1), .val (.ref a2)] [(.ref a2), (.ref a1)]))
  by_cases hc2_1 : a1 = a2
  · refine Gl.of (fun _ k => Jvm.RoadKit.acmp (g := (mkF m 2 #[.val (.ref a1), .val (.ref a2)] [(.ref a2), (.ref a1)])) X0 hx rfl rfl rfl (pc0 := 2) (pc' := 19) (same := true) rfl (hb hby d2_2) rfl (decide_eq_true (congrArg Value.ref hc2_1)) (by decide) (by decide) k) ?_
    show Gl p e below _ (s₁.setTop (mkF m 19 #[.val (.ref a1), .val (.ref a2)] []))
    refine Gl.of (fun _ k => XS.iconst X0.here hx rfl (hb hby d2_19) k) ?_
    show Gl p e below _ (s₁.setTop (mkF m 20 #[.val (.ref a1), .val (.ref a2)] [(.int (1 : Int32))]))
    refine Gl.of (fun _ k => XS.goto X0.here hx rfl (pc0 := 20) (pc' := 24) rfl (hb hby d2_20) (by decide) (by decide) k) ?_
    show Gl p e below _ (s₁.setTop (mkF m 24 #[.val (.ref a1), .val (.ref a2)] [(.int (1 : Int32))]))
    exact Gl.retN X0 hx hlk hret (by simp) (hb hby d2_24) e0 (⟨by simp [own_cmp, own_nb1, own_nb0, hc2_1], rfl, rfl⟩) (by decide) (by decide)
  · refine Gl.of (fun _ k => Jvm.RoadKit.acmp (g := (mkF m 2 #[.val (.ref a1), .val (.ref a2)] [(.ref a2), (.ref a1)])) X0 hx rfl rfl rfl (pc0 := 2) (pc' := 5) (same := false) rfl (hb hby d2_2) rfl (decide_eq_false fun q => hc2_1 (Value.ref.inj q)) (by decide) (by decide) k) ?_
    show Gl p e below _ (s₁.setTop (mkF m 5 #[.val (.ref a1), .val (.ref a2)] []))
    refine Gl.of (fun _ k => XS.aloadN X0.here hx rfl (hb hby d2_5) rfl rfl k) ?_
    show Gl p e below _ (s₁.setTop (mkF m 6 #[.val (.ref a1), .val (.ref a2)] [(.ref a1)]))
    refine Gl.callP0 X0 hx hZ (y := (⟨"com/example/rulr/rulr/policy/ValueType", "isNumber", "()Z"⟩ : MethodName)) hown (w16 hw) (nf_same (args := #[]) (y := (⟨"com/example/rulr/rulr/policy/ValueType", "comparesWith", "(Lcom/example/rulr/rulr/policy/ValueType;)Z"⟩ : MethodName)) rfl (mvT hZ (w14 hw))) (w18 hw) (w17 hw) (w19 hw) (w7 hw) (desc_ne (by decide)) (b := a1) (argsL := []) (rest := []) Ea1 (rm2 l Z a0 hw h0 aI aD a1 S1 S2) 0 (by decide) (by decide) e0 (pc := 6) (Ls := #[.val (.ref a1), .val (.ref a2)]) (st := [(.ref a1)]) (by rw [hml]; rfl) pd_0 rfl rfl (Nat.le_of_eq rfl) (hb hby d2_6) (by decide) (by decide) ?_
    intro v2 T2 X2 e2 hv2
    subst hv2
    show Gl p e below _ (T2.setTop (mkF m 9 #[.val (.ref a1), .val (.ref a2)] [(.int (own_num aI aD a1))]))
    by_cases hc9_3 : (own_num aI aD a1) = (0 : Int32)
    · refine Gl.of (fun _ k => XS.ifYes X2.here hx rfl (pc0 := 9) (pc' := 23) rfl (hb hby d2_9) rfl ((if0 _ _).trans (teq hc9_3).1) (by decide) (by decide) k) ?_
      show Gl p e below _ (T2.setTop (mkF m 23 #[.val (.ref a1), .val (.ref a2)] []))
      refine Gl.of (fun _ k => XS.iconst X2.here hx rfl (hb hby d2_23) k) ?_
      show Gl p e below _ (T2.setTop (mkF m 24 #[.val (.ref a1), .val (.ref a2)] [(.int (0 : Int32))]))
      exact Gl.retN X2 hx hlk hret (by simp) (hb hby d2_24) e2 (⟨by simp [own_cmp, own_nb1, own_nb0, hc2_1, hc9_3], rfl, rfl⟩) (by decide) (by decide)
    · refine Gl.of (fun _ k => XS.ifNo X2.here hx rfl (hb hby d2_9) rfl ((if0 _ _).trans (feq hc9_3).1) k) ?_
      show Gl p e below _ (T2.setTop (mkF m 12 #[.val (.ref a1), .val (.ref a2)] []))
      refine Gl.of (fun _ k => XS.aloadN X2.here hx rfl (hb hby d2_12) rfl rfl k) ?_
      show Gl p e below _ (T2.setTop (mkF m 13 #[.val (.ref a1), .val (.ref a2)] [(.ref a2)]))
      refine Gl.callP0 X2 hx hZ (y := (⟨"com/example/rulr/rulr/policy/ValueType", "isNumber", "()Z"⟩ : MethodName)) hown (w16 hw) (nf_same (args := #[]) (y := (⟨"com/example/rulr/rulr/policy/ValueType", "comparesWith", "(Lcom/example/rulr/rulr/policy/ValueType;)Z"⟩ : MethodName)) rfl (mvT hZ (w14 hw))) (w18 hw) (w17 hw) (w19 hw) (w7 hw) (desc_ne (by decide)) (b := a2) (argsL := []) (rest := []) Ea2 (rm2 l Z a0 hw h0 aI aD a2 S1 S2) 0 (by decide) (by decide) e2 (pc := 13) (Ls := #[.val (.ref a1), .val (.ref a2)]) (st := [(.ref a2)]) (by rw [hml]; rfl) pd_0 rfl rfl (Nat.le_of_eq rfl) (hb hby d2_13) (by decide) (by decide) ?_
      intro v4 T4 X4 e4 hv4
      subst hv4
      show Gl p e below _ (T4.setTop (mkF m 16 #[.val (.ref a1), .val (.ref a2)] [(.int (own_num aI aD a2))]))
      by_cases hc16_5 : (own_num aI aD a2) = (0 : Int32)
      · refine Gl.of (fun _ k => XS.ifYes X4.here hx rfl (pc0 := 16) (pc' := 23) rfl (hb hby d2_16) rfl ((if0 _ _).trans (teq hc16_5).1) (by decide) (by decide) k) ?_
        show Gl p e below _ (T4.setTop (mkF m 23 #[.val (.ref a1), .val (.ref a2)] []))
        refine Gl.of (fun _ k => XS.iconst X4.here hx rfl (hb hby d2_23) k) ?_
        show Gl p e below _ (T4.setTop (mkF m 24 #[.val (.ref a1), .val (.ref a2)] [(.int (0 : Int32))]))
        exact Gl.retN X4 hx hlk hret (by simp) (hb hby d2_24) e4 (⟨by simp [own_cmp, own_nb1, own_nb0, hc2_1, hc9_3, hc16_5], rfl, rfl⟩) (by decide) (by decide)
      · refine Gl.of (fun _ k => XS.ifNo X4.here hx rfl (hb hby d2_16) rfl ((if0 _ _).trans (feq hc16_5).1) k) ?_
        show Gl p e below _ (T4.setTop (mkF m 19 #[.val (.ref a1), .val (.ref a2)] []))
        refine Gl.of (fun _ k => XS.iconst X4.here hx rfl (hb hby d2_19) k) ?_
        show Gl p e below _ (T4.setTop (mkF m 20 #[.val (.ref a1), .val (.ref a2)] [(.int (1 : Int32))]))
        refine Gl.of (fun _ k => XS.goto X4.here hx rfl (pc0 := 20) (pc' := 24) rfl (hb hby d2_20) (by decide) (by decide) k) ?_
        show Gl p e below _ (T4.setTop (mkF m 24 #[.val (.ref a1), .val (.ref a2)] [(.int (1 : Int32))]))
        exact Gl.retN X4 hx hlk hret (by simp) (hb hby d2_24) e4 (⟨by simp [own_cmp, own_nb1, own_nb0, hc2_1, hc9_3, hc16_5], rfl, rfl⟩) (by decide) (by decide)
theorem ef_4 (m : MethodId) (x0 : Int32) (x1 : Int32) : entryFrame m #[(.int x0), (.int x1)] maxLocals = mkF m 0 #[.val (.int x0), .val (.int x1), .unset, .unset, .unset] [] := by first | (simp [entryFrame, mkF, argsToLocals, Value.category, maxLocals]; done) | rfl
theorem w0 {Z : State} {a0 : Array Value} (hw : ∀ d ∈ tables_1, d.before a0 Z = true) : (Jvm.Cond.constant "com/example/rulr/rulr/policy/ValueTypeComparesWithPinLaw" (25 : Nat) (2147483647 : Int32)).before a0 Z = true := hw _ (List.mem_of_getElem? (i := 0) rfl)
theorem pd_1 : parseMethodDescriptor "(I)Lcom/example/rulr/rulr/policy/ValueType;" = some ⟨[.int], some (.object "com/example/rulr/rulr/policy/ValueType")⟩ := by decide +kernel
theorem w2 {Z : State} {a0 : Array Value} (hw : ∀ d ∈ tables_1, d.before a0 Z = true) : (Jvm.Cond.methodLink "com/example/rulr/rulr/policy/ValueTypeComparesWithPinLaw" (29 : Nat) ({ cls := "com/example/rulr/rulr/policy/ValueTypeComparesWithPinLaw", name := "kind", desc := "(I)Lcom/example/rulr/rulr/policy/ValueType;" } : Jvm.MethodName)).before a0 Z = true := hw _ (List.mem_of_getElem? (i := 2) rfl)
theorem w3 {Z : State} {a0 : Array Value} (hw : ∀ d ∈ tables_1, d.before a0 Z = true) : (Jvm.Cond.static ({ cls := "com/example/rulr/rulr/policy/ValueTypeComparesWithPinLaw", name := "kind", desc := "(I)Lcom/example/rulr/rulr/policy/ValueType;" } : Jvm.MethodName)).before a0 Z = true := hw _ (List.mem_of_getElem? (i := 3) rfl)
theorem w4 {Z : State} {a0 : Array Value} (hw : ∀ d ∈ tables_1, d.before a0 Z = true) : (Jvm.Cond.initialized "com/example/rulr/rulr/policy/ValueTypeComparesWithPinLaw").before a0 Z = true := hw _ (List.mem_of_getElem? (i := 4) rfl)
theorem w5 {Z : State} {a0 : Array Value} (hw : ∀ d ∈ tables_1, d.before a0 Z = true) : (Jvm.Cond.code ({ cls := "com/example/rulr/rulr/policy/ValueTypeComparesWithPinLaw", name := "kind", desc := "(I)Lcom/example/rulr/rulr/policy/ValueType;" } : Jvm.MethodName) method_2_code (1 : Nat) (Option.some (Jvm.ClassFile.FieldType.object "com/example/rulr/rulr/policy/ValueType"))).before a0 Z = true := hw _ (List.mem_of_getElem? (i := 5) rfl)
theorem pd_2 : parseMethodDescriptor "(Lcom/example/rulr/rulr/policy/ValueType;)Z" = some ⟨[(.object "com/example/rulr/rulr/policy/ValueType")], some .boolean⟩ := by decide +kernel
theorem w11 {Z : State} {a0 : Array Value} (hw : ∀ d ∈ tables_1, d.before a0 Z = true) : (Jvm.Cond.methodLink "com/example/rulr/rulr/policy/ValueTypeComparesWithPinLaw" (33 : Nat) ({ cls := "com/example/rulr/rulr/policy/ValueType", name := "comparesWith", desc := "(Lcom/example/rulr/rulr/policy/ValueType;)Z" } : Jvm.MethodName)).before a0 Z = true := hw _ (List.mem_of_getElem? (i := 11) rfl)
theorem w12 {Z : State} {a0 : Array Value} (hw : ∀ d ∈ tables_1, d.before a0 Z = true) : (Jvm.Cond.declares ({ cls := "com/example/rulr/rulr/policy/ValueType", name := "comparesWith", desc := "(Lcom/example/rulr/rulr/policy/ValueType;)Z" } : Jvm.MethodName)).before a0 Z = true := hw _ (List.mem_of_getElem? (i := 12) rfl)
theorem w13 {Z : State} {a0 : Array Value} (hw : ∀ d ∈ tables_1, d.before a0 Z = true) : (Jvm.Cond.instanceMethod ({ cls := "com/example/rulr/rulr/policy/ValueType", name := "comparesWith", desc := "(Lcom/example/rulr/rulr/policy/ValueType;)Z" } : Jvm.MethodName)).before a0 Z = true := hw _ (List.mem_of_getElem? (i := 13) rfl)
theorem w15 {Z : State} {a0 : Array Value} (hw : ∀ d ∈ tables_1, d.before a0 Z = true) : (Jvm.Cond.code ({ cls := "com/example/rulr/rulr/policy/ValueType", name := "comparesWith", desc := "(Lcom/example/rulr/rulr/policy/ValueType;)Z" } : Jvm.MethodName) prog_65_method_7_code (2 : Nat) (Option.some Jvm.ClassFile.FieldType.boolean)).before a0 Z = true := hw _ (List.mem_of_getElem? (i := 15) rfl)
theorem w1 {Z : State} {a0 : Array Value} (hw : ∀ d ∈ tables_1, d.before a0 Z = true) : (Jvm.Cond.constant "com/example/rulr/rulr/policy/ValueTypeComparesWithPinLaw" (28 : Nat) (17045697 : Int32)).before a0 Z = true := hw _ (List.mem_of_getElem? (i := 1) rfl)
set_option maxRecDepth 65536 in
set_option maxHeartbeats 40000000 in
theorem rm0 (l : Launch) (Z : State) (a0 : Array Value) (hw : ∀ d ∈ tables_1, d.before a0 Z = true) (ws : List Jvm.Cond) (h0 : Heap) (p1 p2 : Int32) (aS aI aD aB aT : Addr) (S0 : Sta Z h0 "com/example/rulr/rulr/policy/ValueType" "STRING" "Lcom/example/rulr/rulr/policy/ValueType;" (.ref aS)) (S1 : Sta Z h0 "com/example/rulr/rulr/policy/ValueType" "INTEGER" "Lcom/example/rulr/rulr/policy/ValueType;" (.ref aI)) (S2 : Sta Z h0 "com/example/rulr/rulr/policy/ValueType" "DOUBLE" "Lcom/example/rulr/rulr/policy/ValueType;" (.ref aD)) (S3 : Sta Z h0 "com/example/rulr/rulr/policy/ValueType" "BOOLEAN" "Lcom/example/rulr/rulr/policy/ValueType;" (.ref aB)) (S4 : Sta Z h0 "com/example/rulr/rulr/policy/ValueType" "TIMESTAMP" "Lcom/example/rulr/rulr/policy/ValueType;" (.ref aT)) (E0 : Exa Z h0 aS "com/example/rulr/rulr/policy/ValueType") (E1 : Exa Z h0 aI "com/example/rulr/rulr/policy/ValueType") (E2 : Exa Z h0 aD "com/example/rulr/rulr/policy/ValueType") (E3 : Exa Z h0 aB "com/example/rulr/rulr/policy/ValueType") (E4 : Exa Z h0 aT "com/example/rulr/rulr/policy/ValueType") (h01 : ¬ aS = aI) (h02 : ¬ aS = aD) (h03 : ¬ aS = aB) (h04 : ¬ aS = aT) (h12 : ¬ aI = aD) (h13 : ¬ aI = aB) (h14 : ¬ aI = aT) (h23 : ¬ aD = aB) (h24 : ¬ aD = aT) (h34 : ¬ aB = aT) : Con l Z x code maxLocals ret ws room_1 0 0 #[(.int p1), (.int p2)] h0 (Pur (fun v => v = some (.int 1)) h0) := by
  refine Con.intro (plainFor_of_name pn_0) ?_
  intro p e s m below meth c s₁ X0 hx hby hml hZ hown hnm hret hlk e0 hs0
  refine Gl.of (fun _ k => castTop (ef_4 m p1 p2) k) ?_
  show Gl p e below _ (s₁.setTop (mkF m 0 #[.val (.int p1), .val (.int p2), .unset, .unset, .unset] []))
  refine Gl.of (fun _ k => XS.iloadN X0.here hx rfl (hb hby at_0) rfl k) ?_
  show Gl p e below _ (s₁.setTop (mkF m 1 #[.val (.int p1), .val (.int p2), .unset, .unset, .unset] [(.int p1)]))
  refine Gl.of (fun _ k => X0.ldcInt hx hown (mvT hZ (w0 hw)) (g := (mkF m 1 #[.val (.int p1), .val (.int p2), .unset, .unset, .unset] [(.int p1)])) rfl (hb hby at_1) _ k) ?_
  show Gl p e below _ (s₁.setTop (mkF m 3 #[.val (.int p1), .val (.int p2), .unset, .unset, .unset] [(.int (2147483647 : Int32)), (.int p1)]))
  refine Gl.of (fun _ k => XS.iand X0.here hx rfl (hb hby at_3) rfl k) ?_
  show Gl p e below _ (s₁.setTop (mkF m 4 #[.val (.int p1), .val (.int p2), .unset, .unset, .unset] [(.int (p1 &&& (2147483647 : Int32)))]))
  refine Gl.of (fun _ k => XS.iconst X0.here hx rfl (hb hby at_4) k) ?_
  show Gl p e below _ (s₁.setTop (mkF m 5 #[.val (.int p1), .val (.int p2), .unset, .unset, .unset] [(.int (5 : Int32)), (.int (p1 &&& (2147483647 : Int32)))]))
  refine Gl.of (fun _ k => iremM X0 hx rfl (hb hby at_5) rfl (by decide) k) ?_
  show Gl p e below _ (s₁.setTop (mkF m 6 #[.val (.int p1), .val (.int p2), .unset, .unset, .unset] [(.int ((p1 &&& (2147483647 : Int32)) % (5 : Int32)))]))
  refine Gl.of (fun _ k => XS.istoreN X0.here hx rfl (hb hby at_6) rfl (l' := #[.val (.int p1), .val (.int p2), .val (.int ((p1 &&& (2147483647 : Int32)) % (5 : Int32))), .unset, .unset]) rfl k) ?_
  show Gl p e below _ (s₁.setTop (mkF m 7 #[.val (.int p1), .val (.int p2), .val (.int ((p1 &&& (2147483647 : Int32)) % (5 : Int32))), .unset, .unset] []))
  refine Gl.of (fun _ k => XS.iloadN X0.here hx rfl (hb hby at_7) rfl k) ?_
  show Gl p e below _ (s₁.setTop (mkF m 8 #[.val (.int p1), .val (.int p2), .val (.int ((p1 &&& (2147483647 : Int32)) % (5 : Int32))), .unset, .unset] [(.int p2)]))
  refine Gl.of (fun _ k => X0.ldcInt hx hown (mvT hZ (w0 hw)) (g := (mkF m 8 #[.val (.int p1), .val (.int p2), .val (.int ((p1 &&& (2147483647 : Int32)) % (5 : Int32))), .unset, .unset] [(.int p2)])) rfl (hb hby at_8) _ k) ?_
  show Gl p e below _ (s₁.setTop (mkF m 10 #[.val (.int p1), .val (.int p2), .val (.int ((p1 &&& (2147483647 : Int32)) % (5 : Int32))), .unset, .unset] [(.int (2147483647 : Int32)), (.int p2)]))
  refine Gl.of (fun _ k => XS.iand X0.here hx rfl (hb hby at_10) rfl k) ?_
  show Gl p e below _ (s₁.setTop (mkF m 11 #[.val (.int p1), .val (.int p2), .val (.int ((p1 &&& (2147483647 : Int32)) % (5 : Int32))), .unset, .unset] [(.int (p2 &&& (2147483647 : Int32)))]))
  refine Gl.of (fun _ k => XS.iconst X0.here hx rfl (hb hby at_11) k) ?_
  show Gl p e below _ (s₁.setTop (mkF m 12 #[.val (.int p1), .val (.int p2), .val (.int ((p1 &&& (2147483647 : Int32)) % (5 : Int32))), .unset, .unset] [(.int (5 : Int32)), (.int (p2 &&& (2147483647 : Int32)))]))
  refine Gl.of (fun _ k => iremM X0 hx rfl (hb hby at_12) rfl (by decide) k) ?_
  show Gl p e below _ (s₁.setTop (mkF m 13 #[.val (.int p1), .val (.int p2), .val (.int ((p1 &&& (2147483647 : Int32)) % (5 : Int32))), .unset, .unset] [(.int ((p2 &&& (2147483647 : Int32)) % (5 : Int32)))]))
  refine Gl.of (fun _ k => XS.istoreN X0.here hx rfl (hb hby at_13) rfl (l' := #[.val (.int p1), .val (.int p2), .val (.int ((p1 &&& (2147483647 : Int32)) % (5 : Int32))), .val (.int ((p2 &&& (2147483647 : Int32)) % (5 : Int32))), .unset]) rfl k) ?_
  show Gl p e below _ (s₁.setTop (mkF m 14 #[.val (.int p1), .val (.int p2), .val (.int ((p1 &&& (2147483647 : Int32)) % (5 : Int32))), .val (.int ((p2 &&& (2147483647 : Int32)) % (5 : Int32))), .unset] []))
  suffices J14 : ∀ i j : Int32, own_in i → own_in j → Gl p e below (Gd s (Pur (fun v => v = some (.int 1)) h0) 0 0) (s₁.setTop (mkF m 14 #[.val (.int p1), .val (.int p2), .val (.int i), .val (.int j), .unset] [])) from J14 _ _ (own_rem p1) (own_rem p2)
  intro i j hi hj
  have J34 : ∀ (T9 : State), Stand p l e room_1 s m #[(.int p1), (.int p2)] below meth c T9 [] 0 0 → T9.heap = h0 → ∀ (x : Int32), x = own_exp i j → Gl p e below (Gd s (Pur (fun v => v = some (.int 1)) h0) 0 0) (T9.setTop (mkF m 34 #[.val (.int p1), .val (.int p2), .val (.int i), .val (.int j), .val (.int x)] [])) := by
    intro T9 X9 e9 x hx'
    show Gl p e below _ (T9.setTop (mkF m 34 #[.val (.int p1), .val (.int p2), .val (.int i), .val (.int j), .val (.int x)] []))
    refine Gl.of (fun _ k => XS.iloadN X9.here hx rfl (hb hby at_34) rfl k) ?_
    show Gl p e below _ (T9.setTop (mkF m 35 #[.val (.int p1), .val (.int p2), .val (.int i), .val (.int j), .val (.int x)] [(.int i)]))
    refine Gl.callS0 X9 hx hZ (y := (⟨"com/example/rulr/rulr/policy/ValueTypeComparesWithPinLaw", "kind", "(I)Lcom/example/rulr/rulr/policy/ValueType;"⟩ : MethodName)) hown (w2 hw) (w3 hw) (w4 hw) (w5 hw) (desc_ne (by decide)) (argsL := [(.int i)]) (rest := []) (rm1 l Z a0 hw h0 aS aI aD aB aT i S0 S1 S2 S3 S4) 0 (by decide) (by decide) e9 (pc := 35) (Ls := #[.val (.int p1), .val (.int p2), .val (.int i), .val (.int j), .val (.int x)]) (st := [(.int i)]) (by rw [hml]; rfl) pd_1 rfl rfl (Nat.le_of_eq rfl) (hb hby at_35) (by decide) (by decide) ?_
    intro v1 T1 X1 e1 hv1
    subst hv1
    show Gl p e below _ (T1.setTop (mkF m 38 #[.val (.int p1), .val (.int p2), .val (.int i), .val (.int j), .val (.int x)] [(.ref (own_kind aS aI aD aB aT i))]))
    refine Gl.of (fun _ k => XS.iloadN X1.here hx rfl (hb hby at_38) rfl k) ?_
    show Gl p e below _ (T1.setTop (mkF m 39 #[.val (.int p1), .val (.int p2), .val (.int i), .val (.int j), .val (.int x)] [(.int j), (.ref (own_kind aS aI aD aB aT i))]))
    refine Gl.callS0 X1 hx hZ (y := (⟨"com/example/rulr/rulr/policy/ValueTypeComparesWithPinLaw", "kind", "(I)Lcom/example/rulr/rulr/policy/ValueType;"⟩ : MethodName)) hown (w2 hw) (w3 hw) (w4 hw) (w5 hw) (desc_ne (by decide)) (argsL := [(.int j)]) (rest := [(.ref (own_kind aS aI aD aB aT i))]) (rm1 l Z a0 hw h0 aS aI aD aB aT j S0 S1 S2 S3 S4) 1 (by decide) (by decide) e1 (pc := 39) (Ls := #[.val (.int p1), .val (.int p2), .val (.int i), .val (.int j), .val (.int x)]) (st := [(.int j), (.ref (own_kind aS aI aD aB aT i))]) (by rw [hml]; rfl) pd_1 rfl rfl (Nat.le_of_eq rfl) (hb hby at_39) (by decide) (by decide) ?_
    intro v2 T2 X2 e2 hv2
    subst hv2
    show Gl p e below _ (T2.setTop (mkF m 42 #[.val (.int p1), .val (.int p2), .val (.int i), .val (.int j), .val (.int x)] [(.ref (own_kind aS aI aD aB aT j)), (.ref (own_kind aS aI aD aB aT i))]))
    refine Gl.callV0 X2 hx hZ (y := (⟨"com/example/rulr/rulr/policy/ValueType", "comparesWith", "(Lcom/example/rulr/rulr/policy/ValueType;)Z"⟩ : MethodName)) (z := (⟨"com/example/rulr/rulr/policy/ValueType", "comparesWith", "(Lcom/example/rulr/rulr/policy/ValueType;)Z"⟩ : MethodName)) hown (w11 hw) (w12 hw) (notFace_of_selects (args := #[]) (mvT hZ (w14 hw))) (w14 hw) (w13 hw) (w15 hw) (w7 hw) (desc_ne (by decide)) (b := (own_kind aS aI aD aB aT i)) (argsL := [(.ref (own_kind aS aI aD aB aT j))]) (rest := []) (own_kindP (P := fun a => Exa Z h0 a "com/example/rulr/rulr/policy/ValueType") E0 E1 E2 E3 E4 i) (rm3 l Z a0 hw h0 aI aD (own_kind aS aI aD aB aT i) (own_kind aS aI aD aB aT j) S1 S2 (own_kindP (P := fun a => Exa Z h0 a "com/example/rulr/rulr/policy/ValueType") E0 E1 E2 E3 E4 i) (own_kindP (P := fun a => Exa Z h0 a "com/example/rulr/rulr/policy/ValueType") E0 E1 E2 E3 E4 j)) 0 (by decide) (by decide) e2 (pc := 42) (Ls := #[.val (.int p1), .val (.int p2), .val (.int i), .val (.int j), .val (.int x)]) (st := [(.ref (own_kind aS aI aD aB aT j)), (.ref (own_kind aS aI aD aB aT i))]) (by rw [hml]; rfl) pd_2 rfl rfl (Nat.le_of_eq rfl) (hb hby at_42) (by decide) (by decide) ?_
    intro v3 T3 X3 e3 hv3
    subst hv3
    show Gl p e below _ (T3.setTop (mkF m 45 #[.val (.int p1), .val (.int p2), .val (.int i), .val (.int j), .val (.int x)] [(.int (own_cmp aI aD (own_kind aS aI aD aB aT i) (own_kind aS aI aD aB aT j)))]))
    refine Gl.of (fun _ k => XS.iload X3.here hx rfl (hb hby at_45) rfl k) ?_
    show Gl p e below _ (T3.setTop (mkF m 47 #[.val (.int p1), .val (.int p2), .val (.int i), .val (.int j), .val (.int x)] [(.int x), (.int (own_cmp aI aD (own_kind aS aI aD aB aT i) (own_kind aS aI aD aB aT j)))]))
    refine Gl.of (fun _ k => XS.icmpNo X3.here hx rfl (hb hby at_47) rfl (teq ((own_fin h01 h02 h03 h04 h12 h13 h14 h23 h24 h34 hi hj).trans hx'.symm : (own_cmp aI aD (own_kind aS aI aD aB aT i) (own_kind aS aI aD aB aT j)) = x)).2 k) ?_
    show Gl p e below _ (T3.setTop (mkF m 50 #[.val (.int p1), .val (.int p2), .val (.int i), .val (.int j), .val (.int x)] []))
    refine Gl.of (fun _ k => XS.iconst X3.here hx rfl (hb hby at_50) k) ?_
    show Gl p e below _ (T3.setTop (mkF m 51 #[.val (.int p1), .val (.int p2), .val (.int i), .val (.int j), .val (.int x)] [(.int (1 : Int32))]))
    refine Gl.of (fun _ k => XS.goto X3.here hx rfl (pc0 := 51) (pc' := 55) rfl (hb hby at_51) (by decide) (by decide) k) ?_
    show Gl p e below _ (T3.setTop (mkF m 55 #[.val (.int p1), .val (.int p2), .val (.int i), .val (.int j), .val (.int x)] [(.int (1 : Int32))]))
    exact Gl.retN X3 hx hlk hret (by simp) (hb hby at_55) e3 (⟨rfl, rfl, rfl⟩) (by decide) (by decide)
  show Gl p e below _ (s₁.setTop (mkF m 14 #[.val (.int p1), .val (.int p2), .val (.int i), .val (.int j), .unset] []))
  refine Gl.of (fun _ k => X0.ldcInt hx hown (mvT hZ (w1 hw)) (g := (mkF m 14 #[.val (.int p1), .val (.int p2), .val (.int i), .val (.int j), .unset] [])) rfl (hb hby at_14) _ k) ?_
  show Gl p e below _ (s₁.setTop (mkF m 16 #[.val (.int p1), .val (.int p2), .val (.int i), .val (.int j), .unset] [(.int (17045697 : Int32))]))
  refine Gl.of (fun _ k => XS.iloadN X0.here hx rfl (hb hby at_16) rfl k) ?_
  show Gl p e below _ (s₁.setTop (mkF m 17 #[.val (.int p1), .val (.int p2), .val (.int i), .val (.int j), .unset] [(.int i), (.int (17045697 : Int32))]))
  refine Gl.of (fun _ k => XS.iconst X0.here hx rfl (hb hby at_17) k) ?_
  show Gl p e below _ (s₁.setTop (mkF m 18 #[.val (.int p1), .val (.int p2), .val (.int i), .val (.int j), .unset] [(.int (5 : Int32)), (.int i), (.int (17045697 : Int32))]))
  refine Gl.of (fun _ k => XS.imul X0.here hx rfl (hb hby at_18) rfl k) ?_
  show Gl p e below _ (s₁.setTop (mkF m 19 #[.val (.int p1), .val (.int p2), .val (.int i), .val (.int j), .unset] [(.int (i * (5 : Int32))), (.int (17045697 : Int32))]))
  refine Gl.of (fun _ k => XS.iloadN X0.here hx rfl (hb hby at_19) rfl k) ?_
  show Gl p e below _ (s₁.setTop (mkF m 20 #[.val (.int p1), .val (.int p2), .val (.int i), .val (.int j), .unset] [(.int j), (.int (i * (5 : Int32))), (.int (17045697 : Int32))]))
  refine Gl.of (fun _ k => XS.iadd X0.here hx rfl (hb hby at_20) rfl k) ?_
  show Gl p e below _ (s₁.setTop (mkF m 21 #[.val (.int p1), .val (.int p2), .val (.int i), .val (.int j), .unset] [(.int ((i * (5 : Int32)) + j)), (.int (17045697 : Int32))]))
  refine Gl.of (fun _ k => XS.iushr X0.here hx rfl (hb hby at_21) rfl k) ?_
  show Gl p e below _ (s₁.setTop (mkF m 22 #[.val (.int p1), .val (.int p2), .val (.int i), .val (.int j), .unset] [(.int (((17045697 : Int32).toUInt32 >>> (((i * (5 : Int32)) + j) &&& 31).toUInt32).toInt32))]))
  refine Gl.of (fun _ k => XS.iconst X0.here hx rfl (hb hby at_22) k) ?_
  show Gl p e below _ (s₁.setTop (mkF m 23 #[.val (.int p1), .val (.int p2), .val (.int i), .val (.int j), .unset] [(.int (1 : Int32)), (.int (((17045697 : Int32).toUInt32 >>> (((i * (5 : Int32)) + j) &&& 31).toUInt32).toInt32))]))
  refine Gl.of (fun _ k => XS.iand X0.here hx rfl (hb hby at_23) rfl k) ?_
  show Gl p e below _ (s₁.setTop (mkF m 24 #[.val (.int p1), .val (.int p2), .val (.int i), .val (.int j), .unset] [(.int ((((17045697 : Int32).toUInt32 >>> (((i * (5 : Int32)) + j) &&& 31).toUInt32).toInt32) &&& (1 : Int32)))]))
  by_cases hc24_4 : ((((17045697 : Int32).toUInt32 >>> (((i * (5 : Int32)) + j) &&& 31).toUInt32).toInt32) &&& (1 : Int32)) = (0 : Int32)
  · refine Gl.of (fun _ k => XS.ifYes X0.here hx rfl (pc0 := 24) (pc' := 31) rfl (hb hby at_24) rfl ((if0 _ _).trans (teq hc24_4).1) (by decide) (by decide) k) ?_
    show Gl p e below _ (s₁.setTop (mkF m 31 #[.val (.int p1), .val (.int p2), .val (.int i), .val (.int j), .unset] []))
    refine Gl.of (fun _ k => XS.iconst X0.here hx rfl (hb hby at_31) k) ?_
    show Gl p e below _ (s₁.setTop (mkF m 32 #[.val (.int p1), .val (.int p2), .val (.int i), .val (.int j), .unset] [(.int (0 : Int32))]))
    refine Gl.of (fun _ k => XS.istore X0.here hx rfl (hb hby at_32) rfl (l' := #[.val (.int p1), .val (.int p2), .val (.int i), .val (.int j), .val (.int (0 : Int32))]) rfl k) ?_
    show Gl p e below _ (s₁.setTop (mkF m 34 #[.val (.int p1), .val (.int p2), .val (.int i), .val (.int j), .val (.int (0 : Int32))] []))
    exact J34 _ X0 e0 _ (by unfold own_exp; rw [if_pos hc24_4])
  · refine Gl.of (fun _ k => XS.ifNo X0.here hx rfl (hb hby at_24) rfl ((if0 _ _).trans (feq hc24_4).1) k) ?_
    show Gl p e below _ (s₁.setTop (mkF m 27 #[.val (.int p1), .val (.int p2), .val (.int i), .val (.int j), .unset] []))
    refine Gl.of (fun _ k => XS.iconst X0.here hx rfl (hb hby at_27) k) ?_
    show Gl p e below _ (s₁.setTop (mkF m 28 #[.val (.int p1), .val (.int p2), .val (.int i), .val (.int j), .unset] [(.int (1 : Int32))]))
    refine Gl.of (fun _ k => XS.goto X0.here hx rfl (pc0 := 28) (pc' := 32) rfl (hb hby at_28) (by decide) (by decide) k) ?_
    show Gl p e below _ (s₁.setTop (mkF m 32 #[.val (.int p1), .val (.int p2), .val (.int i), .val (.int j), .unset] [(.int (1 : Int32))]))
    refine Gl.of (fun _ k => XS.istore X0.here hx rfl (hb hby at_32) rfl (l' := #[.val (.int p1), .val (.int p2), .val (.int i), .val (.int j), .val (.int (1 : Int32))]) rfl k) ?_
    show Gl p e below _ (s₁.setTop (mkF m 34 #[.val (.int p1), .val (.int p2), .val (.int i), .val (.int j), .val (.int (1 : Int32))] []))
    exact J34 _ X0 e0 _ (by unfold own_exp; rw [if_neg hc24_4])
theorem w8 {Z : State} {a0 : Array Value} (hw : ∀ d ∈ tables_1, d.before a0 Z = true) : (Jvm.Cond.laysStatic "com/example/rulr/rulr/policy/ValueType" "STRING" "Lcom/example/rulr/rulr/policy/ValueType;").before a0 Z = true := hw _ (List.mem_of_getElem? (i := 8) rfl)
theorem w21 {Z : State} {a0 : Array Value} (hw : ∀ d ∈ tables_1, d.before a0 Z = true) : (Jvm.Cond.laysStatic "com/example/rulr/rulr/policy/ValueType" "INTEGER" "Lcom/example/rulr/rulr/policy/ValueType;").before a0 Z = true := hw _ (List.mem_of_getElem? (i := 21) rfl)
theorem w23 {Z : State} {a0 : Array Value} (hw : ∀ d ∈ tables_1, d.before a0 Z = true) : (Jvm.Cond.laysStatic "com/example/rulr/rulr/policy/ValueType" "DOUBLE" "Lcom/example/rulr/rulr/policy/ValueType;").before a0 Z = true := hw _ (List.mem_of_getElem? (i := 23) rfl)
theorem w10 {Z : State} {a0 : Array Value} (hw : ∀ d ∈ tables_1, d.before a0 Z = true) : (Jvm.Cond.laysStatic "com/example/rulr/rulr/policy/ValueType" "BOOLEAN" "Lcom/example/rulr/rulr/policy/ValueType;").before a0 Z = true := hw _ (List.mem_of_getElem? (i := 10) rfl)
theorem w25 {Z : State} {a0 : Array Value} (hw : ∀ d ∈ tables_1, d.before a0 Z = true) : (Jvm.Cond.laysStatic "com/example/rulr/rulr/policy/ValueType" "TIMESTAMP" "Lcom/example/rulr/rulr/policy/ValueType;").before a0 Z = true := hw _ (List.mem_of_getElem? (i := 25) rfl)
set_option maxRecDepth 65536 in
set_option maxHeartbeats 40000000 in
theorem comes_1 {Post : Tables → Env → Array Value → State → Outcome → State → Prop} (hpost : ∀ tb e args s v u, (limb_1_1.after args s (.returned v) u = true ∧ limb_1_2.after args s (.returned v) u = true ∧ True) → FrameEnd s (.returned v) u (Jvm.fieldLocs frame_1_writes args s ++ Jvm.arrayLocs frame_1_arrays args s ++ Jvm.staticLocs frame_1_statics s) 0 0 → Post tb e args s (.returned v) u) :
    ArmFor flags0 classFile x code maxLocals ret World_1 tables_1 room_1 Calls_1 rest_1 Pre_1 Post := by
  intro l hfl _ _ p e ha hc hk s m args below hf hA hF happ hP
  obtain ⟨hcalls, hrest, hpre⟩ := hP
  obtain ⟨-, -, -, hnamed, -, -, -, hat⟩ := (Spec.applies_iff hf).mp happ
  obtain ⟨hg, hn⟩ := and_e (Cond.before_iff.mp (show (Jvm.Cond.and given_1 narrow_1).before args s = true from hpre))
  obtain ⟨g_c, q_g_c⟩ := and_e hg
  obtain ⟨g_0, q_g_0⟩ := and_e q_g_c
  have g_1 := q_g_0
  obtain ⟨w_0, w_1, rfl⟩ : ∃ w_0 w_1 : Value, args = #[w_0, w_1] := by
    have hs : args.size = 2 := by simpa [Cond.value, given_1] using g_c
    obtain ⟨L⟩ := args
    match L, hs with
    | [w_0, w_1], _ => exact ⟨w_0, w_1, rfl⟩
  have hw := fun d (hd : d ∈ tables_1) => atoms_spec (ws := Jvm.Cond.code x code maxLocals ret :: tables_1) hat d (List.mem_cons_of_mem _ hd)
  have hfit : Fit s := fun {y c} hc i hi => by
    obtain ⟨ha, rfl⟩ := Array.getElem?_eq_some_iff.mp hc
    have q := List.all_eq_true.mp ((Array.all_eq_true_iff_forall_mem.mp hF) _ (Array.getElem_mem ha)) i (List.mem_range.mpr hi)
    simpa [Array.getElem?_eq_getElem hi] using q
  obtain ⟨p1, ei0⟩ := is_v g_0
  obtain rfl : w_0 = (.int p1) := Option.some.inj ei0
  obtain ⟨p2, ei1⟩ := is_v g_1
  obtain rfl : w_1 = (.int p2) := Option.some.inj ei1
  obtain ⟨n0, q_n0⟩ := and_e hn
  obtain ⟨n1, q_n1⟩ := and_e q_n0
  obtain ⟨n2, q_n2⟩ := and_e q_n1
  obtain ⟨n3, q_n3⟩ := and_e q_n2
  obtain ⟨n4, q_n4⟩ := and_e q_n3
  obtain ⟨n5, q_n5⟩ := and_e q_n4
  obtain ⟨n6, q_n6⟩ := and_e q_n5
  obtain ⟨n7, q_n7⟩ := and_e q_n6
  obtain ⟨n8, q_n8⟩ := and_e q_n7
  have n9 := q_n8
  obtain ⟨aS, ea0⟩ := exa_v n0
  have S0 := Sta.start ea0 (Or.inr ⟨(w7 hw), (w8 hw)⟩)
  have E0 := Exa.start ea0 n0
  have F0 := Fld.start ((fld_at ea0).symm.trans (eq_at n2))
  obtain ⟨aI, ea1⟩ := exa_v n4
  have S1 := Sta.start ea1 (Or.inr ⟨(w7 hw), (w21 hw)⟩)
  have E1 := Exa.start ea1 n4
  have F1 := Fld.start ((fld_at ea1).symm.trans (eq_at n5))
  obtain ⟨aD, ea2⟩ := exa_v n6
  have S2 := Sta.start ea2 (Or.inr ⟨(w7 hw), (w23 hw)⟩)
  have E2 := Exa.start ea2 n6
  have F2 := Fld.start ((fld_at ea2).symm.trans (eq_at n7))
  obtain ⟨aB, ea3⟩ := exa_v n1
  have S3 := Sta.start ea3 (Or.inr ⟨(w7 hw), (w10 hw)⟩)
  have E3 := Exa.start ea3 n1
  have F3 := Fld.start ((fld_at ea3).symm.trans (eq_at n3))
  obtain ⟨aT, ea4⟩ := exa_v n8
  have S4 := Sta.start ea4 (Or.inr ⟨(w7 hw), (w25 hw)⟩)
  have E4 := Exa.start ea4 n8
  have F4 := Fld.start ((fld_at ea4).symm.trans (eq_at n9))
  obtain ⟨n, o, h1, h2, h3, _, L, rfl, hQ, hq⟩ := rm0 l s _ hw tables_1 s.heap p1 p2 aS aI aD aB aT S0 S1 S2 S3 S4 E0 E1 E2 E3 E4 (fld_ne F0 F1 (by simp)) (fld_ne F0 F2 (by simp)) (fld_ne F0 F3 (by simp)) (fld_ne F0 F4 (by simp)) (fld_ne F1 F2 (by simp)) (fld_ne F1 F3 (by simp)) (fld_ne F1 F4 (by simp)) (fld_ne F2 F3 (by simp)) (fld_ne F2 F4 (by simp)) (fld_ne F3 F4 (by simp)) p e ha hc hk s m _ below hf ((Spec.applies_iff_loose hf).mp happ).1 ⟨rfl, State.Warmed39.refl s, rfl⟩ trivial
  obtain ⟨rfl, -, rfl⟩ := hQ
  have N := Fr.nil s.heap.size
  exact ⟨n, _, h1, h2, h3, hpost _ _ _ _ _ _ ⟨Cond.after_iff.mpr rfl, Cond.after_iff.mpr (eq_i res_at (Term.int_eval (1)) rfl), trivial⟩ ⟨hq.1, hq.2.1, (hq.2.2.sift fun y hy => Or.inr (N y hy)).mono (by decide) (by decide)⟩⟩
theorem main_1_1 : Claimed_1_1 := comes_1 fun _ _ _ _ _ _ h hF => ⟨h.1, hF⟩
theorem main_1_2 : Claimed_1_2 := comes_1 fun _ _ _ _ _ _ h hF => ⟨h.2.1, hF⟩
end Jvm.Pilot.@@N@@
namespace Jvm.Pilot.@@N@@
open Jvm Jvm.ClassFile Sem Op Lib Jvm.Free Jvm.Stand Jvm.Pilot.@@N@@.Jvm.D
/-! MADE BY PROGRAM (witnessworld.py) out of the Statement's table words and the real class files: 10 classes; the members and pool entries that the words name. The judged class is class 1, her method 2. -/
namespace start1
open Jvm.ClassFile
def u (s : String) : CpInfo := .utf8 (stringToUtf16 s)
/-- a pool by its gaps: so many unusable entries, then the entry; so many at the end -/
def gap : Nat → List CpInfo → List CpInfo
  | 0, r => r
  | n + 1, r => .unusable :: gap n r
def poolList (es : List (Nat × CpInfo)) (last : Nat) : List CpInfo := es.foldr (fun e r => gap e.1 (e.2 :: r)) (gap last [])
def pool (es : List (Nat × CpInfo)) (last : Nat) : Array CpInfo := ⟨poolList es last⟩
def fileOf (pool : Array CpInfo) (this : Nat) (attrs : Array Attribute := #[]) (ms : Array MethodInfo := #[]) (fl : Nat := 33) (sup : Nat := 0) (ifs : Array Nat := #[]) (fds : Array FieldInfo := #[]) : ClassFile where
  minorVersion := 0
  majorVersion := 65
  constantPool := pool
  accessFlags := fl
  thisClass := this
  superClass := sup
  interfaces := ifs
  fields := fds
  methods := ms
  attributes := attrs
def plain (name : String) (sup : Option ClassId) : Class where
  name := name
  kind := .ordinary
  loader := none
  accessFlags := 33
  super := sup
  interfaces := #[]
  cf := none
  fields := #[]
  methods := #[]
  instanceTypes := #[]
  staticTypes := #[]
  resolved := #[]
  callSites := []
  init := .initialized
  statics := none
  mirror := none

def pool0 : Array CpInfo := pool [(5, u "<init>"), (0, u "()V"), (1, .class_ 10), (1, u "java/lang/Object")] 113

def k0m0 : Method := { name := "<init>", desc := "()V", sig := { parameters := [], returnType := none }, accessFlags := 1, code := none }
/-- java/lang/Object -/
def k0 : Class := { plain "java/lang/Object" none with
  accessFlags := 33
  interfaces := #[]
  cf := some (fileOf pool0 8 #[] #[{ accessFlags := 1, nameIndex := 5, descriptorIndex := 6, attributes := #[] }] 33 0 #[] #[])
  fields := #[]
  methods := #[k0m0]
  instanceTypes := #[]
  staticTypes := #[]
  resolved := Array.replicate 124 none
  statics := none }

def pool1 : Array CpInfo := pool [(2, .class_ 4), (1, u "java/lang/Object"), (0, u "<init>"), (0, u "()V"), (0, .fieldref 8 9), (0, .class_ 10), (0, .nameAndType 11 12), (0, u "com/example/rulr/rulr/policy/ValueType"), (0, u "STRING"), (0, u "Lcom/example/rulr/rulr/policy/ValueType;"), (0, .fieldref 8 14), (0, .nameAndType 15 12), (0, u "INTEGER"), (0, .fieldref 8 17), (0, .nameAndType 18 12), (0, u "DOUBLE"), (0, .fieldref 8 20), (0, .nameAndType 21 12), (0, u "BOOLEAN"), (0, .fieldref 8 23), (0, .nameAndType 24 12), (0, u "TIMESTAMP"), (0, .integer 2147483647), (0, .class_ 27), (0, u "com/example/rulr/rulr/policy/ValueTypeComparesWithPinLaw"), (0, .integer 17045697), (0, .methodref 26 30), (0, .nameAndType 31 32), (0, u "kind"), (0, u "(I)Lcom/example/rulr/rulr/policy/ValueType;"), (0, .methodref 8 34), (0, .nameAndType 35 36), (0, u "comparesWith"), (0, u "(Lcom/example/rulr/rulr/policy/ValueType;)Z"), (0, u "TABLE"), (0, u "I"), (4, u "law"), (0, u "(II)Z")] 2

def k1m0 : Method := { name := "<init>", desc := "()V", sig := { parameters := [], returnType := none }, accessFlags := 2, code := none }
def k1c1 : Code := { maxStack := 2, maxLocals := 1, code := method_2_code, exceptionTable := #[], attributes := #[] }
def k1m1 : Method := { name := "kind", desc := "(I)Lcom/example/rulr/rulr/policy/ValueType;", sig := { parameters := [.int], returnType := some (.object "com/example/rulr/rulr/policy/ValueType") }, accessFlags := 10, code := some k1c1 }
def k1c2 : Code := { maxStack := 3, maxLocals := 5, code := code, exceptionTable := #[], attributes := #[] }
def k1m2 : Method := { name := "law", desc := "(II)Z", sig := { parameters := [.int, .int], returnType := some .boolean }, accessFlags := 9, code := some k1c2 }
/-- com/example/rulr/rulr/policy/ValueTypeComparesWithPinLaw -/
def k1 : Class := { plain "com/example/rulr/rulr/policy/ValueTypeComparesWithPinLaw" (some 0) with
  accessFlags := 49
  interfaces := #[]
  cf := some (fileOf pool1 26 #[] #[{ accessFlags := 2, nameIndex := 5, descriptorIndex := 6, attributes := #[] }, { accessFlags := 10, nameIndex := 31, descriptorIndex := 32, attributes := #[] }, { accessFlags := 9, nameIndex := 43, descriptorIndex := 44, attributes := #[] }] 49 2 #[] #[{ accessFlags := 26, nameIndex := 37, descriptorIndex := 38, attributes := #[] }])
  fields := #[{ name := "TABLE", type := .int, accessFlags := 26, slot := 0, constantValue := 0 }]
  methods := #[k1m0, k1m1, k1m2]
  instanceTypes := #[]
  staticTypes := #[.int]
  resolved := Array.replicate 47 none
  statics := none }

def pool2 : Array CpInfo := pool [(1, .class_ 2), (0, u "java/lang/constant/Constable"), (0, .class_ 4), (0, u "java/lang/Object")] 6

/-- java/lang/constant/Constable -/
def k2 : Class := { plain "java/lang/constant/Constable" (some 0) with
  accessFlags := 1537
  interfaces := #[]
  cf := some (fileOf pool2 1 #[] #[] 1537 3 #[] #[])
  fields := #[]
  methods := #[]
  instanceTypes := #[]
  staticTypes := #[]
  resolved := Array.replicate 11 none
  statics := none }

def pool3 : Array CpInfo := pool [(1, .class_ 2), (0, u "java/lang/Comparable"), (0, .class_ 4), (0, u "java/lang/Object")] 7

/-- java/lang/Comparable -/
def k3 : Class := { plain "java/lang/Comparable" (some 0) with
  accessFlags := 1537
  interfaces := #[]
  cf := some (fileOf pool3 1 #[] #[] 1537 3 #[] #[])
  fields := #[]
  methods := #[]
  instanceTypes := #[]
  staticTypes := #[]
  resolved := Array.replicate 12 none
  statics := none }

def pool4 : Array CpInfo := pool [(1, .class_ 2), (0, u "java/io/Serializable"), (0, .class_ 4), (0, u "java/lang/Object")] 2

/-- java/io/Serializable -/
def k4 : Class := { plain "java/io/Serializable" (some 0) with
  accessFlags := 1537
  interfaces := #[]
  cf := some (fileOf pool4 1 #[] #[] 1537 3 #[] #[])
  fields := #[]
  methods := #[]
  instanceTypes := #[]
  staticTypes := #[]
  resolved := Array.replicate 7 none
  statics := none }

def pool5 : Array CpInfo := pool [(2, .class_ 4), (1, u "java/lang/Enum"), (0, u "name"), (0, u "Ljava/lang/String;"), (2, u "ordinal"), (0, u "I"), (1, .class_ 14), (1, u "java/lang/Object"), (4, u "hash"), (86, .class_ 108), (1, u "java/lang/Enum$EnumDesc"), (2, .class_ 112), (0, u "java/lang/constant/Constable"), (0, .class_ 114), (0, u "java/lang/Comparable"), (0, .class_ 116), (0, u "java/io/Serializable")] 87

/-- java/lang/Enum -/
def k5 : Class := { plain "java/lang/Enum" (some 0) with
  accessFlags := 1057
  interfaces := #[2, 3, 4]
  cf := some (fileOf pool5 2 #[.nestMembers #[106]] #[] 1057 12 #[111, 113, 115] #[{ accessFlags := 18, nameIndex := 5, descriptorIndex := 6, attributes := #[] }, { accessFlags := 18, nameIndex := 9, descriptorIndex := 10, attributes := #[] }, { accessFlags := 2, nameIndex := 19, descriptorIndex := 10, attributes := #[] }])
  fields := #[{ name := "name", type := (.object "java/lang/String"), accessFlags := 18, slot := 0, constantValue := 0 }, { name := "ordinal", type := .int, accessFlags := 18, slot := 1, constantValue := 0 }, { name := "hash", type := .int, accessFlags := 2, slot := 2, constantValue := 0 }]
  methods := #[]
  instanceTypes := #[(.object "java/lang/String"), .int, .int]
  staticTypes := #[]
  resolved := Array.replicate 204 none
  statics := none }

def pool6 : Array CpInfo := pool [(1, .class_ 2), (0, u "com/example/rulr/rulr/policy/ValueType"), (2, u "STRING"), (0, u "Lcom/example/rulr/rulr/policy/ValueType;"), (0, .fieldref 1 8), (0, .nameAndType 9 6), (0, u "INTEGER"), (0, .fieldref 1 11), (0, .nameAndType 12 6), (0, u "DOUBLE"), (2, u "BOOLEAN"), (2, u "TIMESTAMP"), (2, u "$VALUES"), (0, u "[Lcom/example/rulr/rulr/policy/ValueType;"), (6, .class_ 31), (1, u "java/lang/Enum"), (8, u "word"), (0, u "Ljava/lang/String;"), (2, u "sqlType"), (2, u "valueClass"), (0, u "Ljava/lang/Class;"), (0, .methodref 1 50), (0, .nameAndType 51 52), (0, u "isNumber"), (0, u "()Z"), (107, u "comparesWith"), (0, u "(Lcom/example/rulr/rulr/policy/ValueType;)Z")] 36

def k6c0 : Code := { maxStack := 2, maxLocals := 2, code := prog_65_method_7_code, exceptionTable := #[], attributes := #[] }
def k6m0 : Method := { name := "comparesWith", desc := "(Lcom/example/rulr/rulr/policy/ValueType;)Z", sig := { parameters := [(.object "com/example/rulr/rulr/policy/ValueType")], returnType := some .boolean }, accessFlags := 1, code := some k6c0 }
def k6c1 : Code := { maxStack := 2, maxLocals := 1, code := prog_65_method_9_code, exceptionTable := #[], attributes := #[] }
def k6m1 : Method := { name := "isNumber", desc := "()Z", sig := { parameters := [], returnType := some .boolean }, accessFlags := 2, code := some k6c1 }
/-- com/example/rulr/rulr/policy/ValueType -/
def k6 : Class := { plain "com/example/rulr/rulr/policy/ValueType" (some 5) with
  accessFlags := 16433
  interfaces := #[]
  cf := some (fileOf pool6 1 #[] #[{ accessFlags := 1, nameIndex := 160, descriptorIndex := 161, attributes := #[] }, { accessFlags := 2, nameIndex := 51, descriptorIndex := 52, attributes := #[] }] 16433 29 #[] #[{ accessFlags := 16409, nameIndex := 5, descriptorIndex := 6, attributes := #[] }, { accessFlags := 16409, nameIndex := 9, descriptorIndex := 6, attributes := #[] }, { accessFlags := 16409, nameIndex := 12, descriptorIndex := 6, attributes := #[] }, { accessFlags := 16409, nameIndex := 15, descriptorIndex := 6, attributes := #[] }, { accessFlags := 16409, nameIndex := 18, descriptorIndex := 6, attributes := #[] }, { accessFlags := 18, nameIndex := 40, descriptorIndex := 41, attributes := #[] }, { accessFlags := 18, nameIndex := 44, descriptorIndex := 41, attributes := #[] }, { accessFlags := 18, nameIndex := 47, descriptorIndex := 48, attributes := #[] }, { accessFlags := 4122, nameIndex := 21, descriptorIndex := 22, attributes := #[] }])
  fields := #[{ name := "STRING", type := (.object "com/example/rulr/rulr/policy/ValueType"), accessFlags := 16409, slot := 0, constantValue := 0 }, { name := "INTEGER", type := (.object "com/example/rulr/rulr/policy/ValueType"), accessFlags := 16409, slot := 1, constantValue := 0 }, { name := "DOUBLE", type := (.object "com/example/rulr/rulr/policy/ValueType"), accessFlags := 16409, slot := 2, constantValue := 0 }, { name := "BOOLEAN", type := (.object "com/example/rulr/rulr/policy/ValueType"), accessFlags := 16409, slot := 3, constantValue := 0 }, { name := "TIMESTAMP", type := (.object "com/example/rulr/rulr/policy/ValueType"), accessFlags := 16409, slot := 4, constantValue := 0 }, { name := "word", type := (.object "java/lang/String"), accessFlags := 18, slot := 3, constantValue := 0 }, { name := "sqlType", type := (.object "java/lang/String"), accessFlags := 18, slot := 4, constantValue := 0 }, { name := "valueClass", type := (.object "java/lang/Class"), accessFlags := 18, slot := 5, constantValue := 0 }, { name := "$VALUES", type := (.array (.object "com/example/rulr/rulr/policy/ValueType")), accessFlags := 4122, slot := 5, constantValue := 0 }]
  methods := #[k6m0, k6m1]
  instanceTypes := #[(.object "java/lang/String"), .int, .int, (.object "java/lang/String"), (.object "java/lang/String"), (.object "java/lang/Class")]
  staticTypes := #[(.object "com/example/rulr/rulr/policy/ValueType"), (.object "com/example/rulr/rulr/policy/ValueType"), (.object "com/example/rulr/rulr/policy/ValueType"), (.object "com/example/rulr/rulr/policy/ValueType"), (.object "com/example/rulr/rulr/policy/ValueType"), (.array (.object "com/example/rulr/rulr/policy/ValueType"))]
  resolved := Array.replicate 198 none
  statics := some 0 }

def pool7 : Array CpInfo := pool [(1, u "java/lang/Cloneable"), (0, .class_ 1), (0, u "java/lang/Object"), (0, .class_ 3)] 3

/-- java/lang/Cloneable -/
def k7 : Class := { plain "java/lang/Cloneable" (some 0) with
  accessFlags := 1537
  interfaces := #[]
  cf := some (fileOf pool7 2 #[] #[] 1537 4 #[] #[])
  fields := #[]
  methods := #[]
  instanceTypes := #[]
  staticTypes := #[]
  resolved := Array.replicate 8 none
  statics := none }

/-- the primitive byte -/
def k8 : Class := { plain "byte" none with kind := .primitive 'B', accessFlags := 0x411 }
/-- [B -/
def k9 : Class := { plain "[B" (some 0) with kind := .array 8 .byte, interfaces := #[7, 4], accessFlags := 1041 }

def heap : Heap := #[{ cls := 6, slots := #[.ref 1, .ref 2, .ref 3, .ref 4, .ref 5, .null], vm := .statics 6 },
  { cls := 6, slots := #[.null, .int 0, .int 0, .null, .null, .null], vm := .none },
  { cls := 6, slots := #[.null, .int 1, .int 0, .null, .null, .null], vm := .none },
  { cls := 6, slots := #[.null, .int 2, .int 0, .null, .null, .null], vm := .none },
  { cls := 6, slots := #[.null, .int 3, .int 0, .null, .null, .null], vm := .none },
  { cls := 6, slots := #[.null, .int 4, .int 0, .null, .null, .null], vm := .none }]
def classes : Array Class := #[k0, k1, k2, k3, k4, k5, k6, k7, k8, k9]
def interned : List (Array UInt16 × Addr) := []
def slotsUsed : Nat := 36
def theMethod : MethodId := ⟨1, 2⟩
def args0 : Array Value := #[.int 7, .int 11]
def aboutOver (below : List Frame) : State where
  vm := { classes := classes, interned := interned.toArray }
  heap := heap
  slotsUsed := slotsUsed
  threads := #[{ frames := .invoking theMethod args0 :: below }]
def below0 : List Frame := [.native { method := ⟨0, 0⟩, args := #[] }]
def about1 : State := aboutOver below0
def p0 : Program := .bare "" "" ""
def e0 : Env := launch0.env 0 0 0
theorem w_frames : about1.frames = Frame.invoking theMethod args0 :: below0 := rfl
set_option maxRecDepth 65536 in
theorem w_args : argsFit about1.vm theMethod args0 = true := by decide +kernel
set_option maxRecDepth 65536 in
theorem w_heap : heapFits about1 = true := by decide +kernel
set_option maxRecDepth 65536 in
theorem w_runnable : about1.curStatus? = some .runnable := by decide +kernel
set_option maxRecDepth 65536 in
theorem w_alone : about1.alone = true := by decide +kernel
set_option maxRecDepth 65536 in
theorem w_named : about1.methodNamed? x = some theMethod := by decide +kernel
set_option maxRecDepth 65536 in
theorem w_hears : about1.hears theMethod below0 = true := by decide +kernel
set_option maxRecDepth 65536 in
theorem w_ripe : about1.ripe theMethod args0 below0 = true := by decide +kernel
theorem w_running : about1.status = .running := rfl
set_option maxRecDepth 65536 in
theorem w_room : about1.hasRoom e0.platform room_1 = true :=
  launch0.hasRoom_least _ room_1 (by decide +kernel) (by decide +kernel) (by decide +kernel) (by decide +kernel) (by decide +kernel) (by decide +kernel)
theorem allAtoms_all (ts : List Jvm.Cond) (a : Array Jvm.Value) (st : Jvm.State) : (allAtoms ts).before a st = ts.all (fun c => c.before a st) := by
  induction ts with
  | nil => rfl
  | cons c t ih =>
    show (Jvm.Cond.and c (allAtoms t)).before a st = _
    rw [Jvm.Cond.before_and, ih, List.all_cons]
def words1 : List Jvm.Cond := Jvm.Cond.code x code maxLocals ret :: tables_1
/-- a 'code' word, met by the world's own term for the bytes: nothing is compared byte by byte -/
theorem code_word {y : MethodName} {bytes : ByteArray} {mx : Nat} {rt : Option FieldType} {a : Array Value} {s : State} {m : MethodId} {meth : Method} {c : Code} (h1 : s.methodNamed? y = some m) (h2 : s.vm.method? m = some meth) (h3 : meth.code = some c) (h4 : c.code = bytes)
    (h5 : (c.maxLocals == mx && c.exceptionTable.isEmpty && decide (c.maxStack ≤ mostOperands) && decide (meth.sig.returnType = rt) && !meth.locks && decide (parseMethodDescriptor y.desc = some meth.sig)) = true) : (Jvm.Cond.code y bytes mx rt).before a s = true := by
  simp only [Bool.and_eq_true, beq_iff_eq, Bool.not_eq_true', decide_eq_true_eq] at h5
  obtain ⟨⟨⟨⟨⟨g1, g2⟩, g3⟩, g4⟩, g5⟩, g6⟩ := h5
  simp [Cond.before, Cond.holds, Cond.value, h1, h2, h3, h4, g1, g2, g3, g4, g5, g6]
def isCode : Jvm.Cond → Bool
  | .code _ _ _ _ => true
  | _ => false
theorem all_split {L : List Jvm.Cond} {P : Jvm.Cond → Bool} (h1 : L.all (fun c => isCode c || P c) = true) (h2 : ∀ c ∈ L.filter isCode, P c = true) : L.all P = true := by
  refine List.all_eq_true.mpr fun c hc => ?_
  have h := List.all_eq_true.mp h1 c hc
  rcases Bool.eq_false_or_eq_true (isCode c) with hi | hi
  · exact h2 c (List.mem_filter.mpr ⟨hc, hi⟩)
  · simpa [hi] using h
set_option maxRecDepth 65536 in
theorem w_c0 : (Jvm.Cond.code x code maxLocals ret).before args0 about1 = true := code_word (m := ⟨1, 2⟩) (meth := k1m2) (c := k1c2) (by decide +kernel) rfl rfl rfl (by decide +kernel)
set_option maxRecDepth 65536 in
theorem w_c1 : (Jvm.Cond.code ({ cls := "com/example/rulr/rulr/policy/ValueTypeComparesWithPinLaw", name := "kind", desc := "(I)Lcom/example/rulr/rulr/policy/ValueType;" } : Jvm.MethodName) method_2_code (1 : Nat) (Option.some (Jvm.ClassFile.FieldType.object "com/example/rulr/rulr/policy/ValueType"))).before args0 about1 = true := code_word (m := ⟨1, 1⟩) (meth := k1m1) (c := k1c1) (by decide +kernel) rfl rfl rfl (by decide +kernel)
set_option maxRecDepth 65536 in
theorem w_c2 : (Jvm.Cond.code ({ cls := "com/example/rulr/rulr/policy/ValueType", name := "comparesWith", desc := "(Lcom/example/rulr/rulr/policy/ValueType;)Z" } : Jvm.MethodName) prog_65_method_7_code (2 : Nat) (Option.some Jvm.ClassFile.FieldType.boolean)).before args0 about1 = true := code_word (m := ⟨6, 0⟩) (meth := k6m0) (c := k6c0) (by decide +kernel) rfl rfl rfl (by decide +kernel)
set_option maxRecDepth 65536 in
theorem w_c3 : (Jvm.Cond.code ({ cls := "com/example/rulr/rulr/policy/ValueType", name := "isNumber", desc := "()Z" } : Jvm.MethodName) prog_65_method_9_code (1 : Nat) (Option.some Jvm.ClassFile.FieldType.boolean)).before args0 about1 = true := code_word (m := ⟨6, 1⟩) (meth := k6m1) (c := k6c1) (by decide +kernel) rfl rfl rfl (by decide +kernel)
def codes1 : List Jvm.Cond := [Jvm.Cond.code x code maxLocals ret, Jvm.Cond.code ({ cls := "com/example/rulr/rulr/policy/ValueTypeComparesWithPinLaw", name := "kind", desc := "(I)Lcom/example/rulr/rulr/policy/ValueType;" } : Jvm.MethodName) method_2_code (1 : Nat) (Option.some (Jvm.ClassFile.FieldType.object "com/example/rulr/rulr/policy/ValueType")), Jvm.Cond.code ({ cls := "com/example/rulr/rulr/policy/ValueType", name := "comparesWith", desc := "(Lcom/example/rulr/rulr/policy/ValueType;)Z" } : Jvm.MethodName) prog_65_method_7_code (2 : Nat) (Option.some Jvm.ClassFile.FieldType.boolean), Jvm.Cond.code ({ cls := "com/example/rulr/rulr/policy/ValueType", name := "isNumber", desc := "()Z" } : Jvm.MethodName) prog_65_method_9_code (1 : Nat) (Option.some Jvm.ClassFile.FieldType.boolean)]
set_option maxRecDepth 65536 in
theorem codes_eq : words1.filter isCode = codes1 := rfl
theorem w_codes : ∀ c ∈ words1.filter isCode, c.before args0 about1 = true := by
  rw [codes_eq]
  intro c hc
  simp only [codes1, List.mem_cons, List.not_mem_nil, or_false] at hc
  rcases hc with rfl | rfl | rfl | rfl
  · exact w_c0
  · exact w_c1
  · exact w_c2
  · exact w_c3
set_option maxRecDepth 65536 in
theorem w_t1 : (words1.take 24).all (fun c => isCode c || c.before args0 about1) = true := by decide +kernel
set_option maxRecDepth 65536 in
theorem w_t2 : (words1.drop 24).all (fun c => isCode c || c.before args0 about1) = true := by decide +kernel
theorem w_tables : (allAtoms (Jvm.Cond.code x code maxLocals ret :: tables_1)).before args0 about1 = true := by
  rw [allAtoms_all]
  show words1.all (fun c => c.before args0 about1) = true
  refine all_split ?_ w_codes
  rw [← List.take_append_drop 24 words1, List.all_append, w_t1, w_t2]
  rfl
set_option maxRecDepth 65536 in
theorem w_case : (Jvm.Cond.and given_1 narrow_1).before args0 about1 = true := by decide +kernel
theorem w_applies : (headSpec (Jvm.Cond.code x code maxLocals ret :: tables_1) room_1).applies x e0.platform about1 = true :=
  (Spec.applies_iff w_frames).mpr ⟨w_running, w_runnable, w_alone, w_named, w_hears, w_ripe, w_room, w_tables⟩
theorem atStart : AtStart classFile x code maxLocals ret World_1 tables_1 room_1 Calls_1 rest_1 Pre_1 launch0 p0 e0 about1 theMethod args0 below0 :=
  ⟨lists_1, trivial, launch0.admits_env _ _ _, launch0.least_env, fairChoices_fair.cas, fairChoices_fair.clock, w_frames, w_args, w_heap, w_applies, trivial, trivial, w_case⟩
end start1
theorem witness_1 : WitnessClaimed_1 := ⟨start1.p0, start1.e0, start1.about1, start1.theMethod, start1.args0, start1.below0, start1.atStart⟩
end Jvm.Pilot.@@N@@
