import JvmDerived
import JvmDerived.Pilot.@@N@@Statement
import JvmDerived.Pilot.@@N@@Code
set_option linter.unusedVariables false
set_option linter.unusedSimpArgs false
@@BLOCK:NumsL.lean.txt@@
namespace Jvm.Pilot.@@N@@
open Jvm Jvm.ClassFile Sem Op Lib Jvm.Free Jvm.Stand Jvm.LawKit Jvm.RoadKit Bundle Jvm.Pilot.@@N@@.Jvm.D
section Own
variable {p : Program} {l : Launch} {e : Env} {R : Room} {s : State} {m : MethodId} {args : Array Value} {below : List Frame} {meth : Method} {c : Code} {T : State} {locs : List Loc} {cells slots : Nat} {Z : State} {a0 : Array Value} {h : Heap}
/-- from S the invocation ends, and G holds of the end -/
def Gl (p : Program) (e : Env) (below : List Frame) (G : State → Outcome → Prop) (S : State) : Prop :=
  ∃ s₂ o, Steps p.tables e below S s₂ ∧ s₂.status = .running ∧ Ended s₂ below o ∧ G s₂ o
theorem Gl.of {G : State → Outcome → Prop} {S S' : State} (h : ∀ t, Steps p.tables e below S' t → Steps p.tables e below S t) (g : Gl p e below G S') : Gl p e below G S := by
  obtain ⟨s2, o, a, b⟩ := g
  exact ⟨s2, o, h _ a, b⟩
def Gd (s : State) (Q : Option Value → Heap → List Loc → Prop) (C N : Nat) (t : State) (o : Outcome) : Prop := ∃ v L, o = .returned v ∧ Q v t.heap L ∧ FrameEnd s o t L C N
def Con (l : Launch) (Z : State) (y : MethodName) (bytes : ByteArray) (maxL : Nat) (rt : Option FieldType) (ws : List Jvm.Cond) (rm : Room) (C N : Nat) (as : Array Value) (h : Heap) (Q : Option Value → Heap → List Loc → Prop) : Prop :=
  MetFree l y (head1 (Jvm.Cond.code y bytes maxL rt :: ws) rm) (fun a U => a = as ∧ Z.Warmed39 U.vm ∧ U.heap = h) (fun _ _ _ _ _ => True) (fun _ U o U' => ∃ v L, o = .returned v ∧ Q v U'.heap L ∧ FrameEnd U o U' L C N)
theorem Con.intro {y : MethodName} {bytes : ByteArray} {maxL : Nat} {rt : Option FieldType} {ws : List Jvm.Cond} {rm : Room} {C N : Nat} {as : Array Value} {Q : Option Value → Heap → List Loc → Prop} (hp : plainFor y = true)
    (body : ∀ p e s m below meth c s₁, Stand p l e rm s m as below meth c s₁ [] 0 0 → p.tables.exec = Jvm.exec → c.code = bytes → c.maxLocals = maxL → Z.Warmed39 s.vm → s.vm.findClass y.cls = some m.cls → meth.name = y.name → meth.sig.returnType = rt → meth.locks = false → s₁.heap = h → s.heap = h →
      Gl p e below (Gd s Q C N) (s₁.setTop (entryFrame m as maxL))) : Con l Z y bytes maxL rt ws rm C N as h Q := by
  refine MetFree.of_bodySF hp hisR ?_
  intro p e s m args below meth c s₁ Bd hml0 hP hK
  obtain ⟨rfl, hZ, hh⟩ := hP
  exact body p e s m below meth c s₁ (Stand.of_body Bd) Bd.exec Bd.bytes hml0 hZ (findClass_of_methodNamed Bd.named) (name_of_methodNamed Bd.named Bd.method).1 Bd.returns (BodyLoose.notSynchronized Bd) (by rw [← hh, Bd.state]; rfl) hh
theorem Gl.leaf {Q : Option Value → Heap → List Loc → Prop} {C N : Nat} (X : Stand p l e R s m args below meth c T locs cells slots) (hlk : meth.locks = false) {v : Option Value} (hv : meth.sig.returnType = none → v = none) {S : State}
    (st : ∀ fs, (∀ (f : JFrame) (acts : List Action), f.method = m → f.locked = none → f.entered = [] → (doReturn e (T.setTop f) acts v).1 = T.setFrames fs) → Steps p.tables e below S (T.setFrames fs)) (eT : T.heap = h) (hQ : Q v h locs) (hC : cells ≤ C) (hN : slots ≤ N) : Gl p e below (Gd s Q C N) S := by
  obtain ⟨fs, hr, hrun, hended, hW, hsame⟩ := X.leave (v := v) hv hlk
  exact ⟨_, _, st fs hr, hrun, hended, v, locs, rfl, by show Q v T.heap locs; rw [eT]; exact hQ, ⟨_, rfl⟩, hW, hsame.mono hC hN⟩
/-- ireturn of an int -/
theorem Gl.retI {Q : Option Value → Heap → List Loc → Prop} {C N : Nat} (X : Stand p l e R s m args below meth c T locs cells slots) (hx : p.tables.exec = Jvm.exec) (hlk : meth.locks = false) (hret : meth.sig.returnType = some .int) {pc : Nat} {Ls : Array Slot} {z : Int32} {rest : List Value} (hd : decode c.code pc = .ok (.ireturn, 1))
    (eT : T.heap = h) (hQ : Q (some (.int z)) h locs) (hC : cells ≤ C) (hN : slots ≤ N) : Gl p e below (Gd s Q C N) (T.setTop (mkF m pc Ls (.int z :: rest))) :=
  Gl.leaf X hlk (fun q => by rw [hret] at q; cases q) (fun fs hr => retOut X hx hret rfl (Or.inl ⟨rfl, Or.inl rfl, z, rfl⟩) hd hr) eT hQ hC hN
/-- ireturn of a boolean, byte, char, short -/
theorem Gl.retN {Q : Option Value → Heap → List Loc → Prop} {C N : Nat} (X : Stand p l e R s m args below meth c T locs cells slots) (hx : p.tables.exec = Jvm.exec) (hlk : meth.locks = false) {t : FieldType} (hret : meth.sig.returnType = some t) (ht : t = .boolean ∨ t = .byte ∨ t = .char ∨ t = .short) {pc : Nat} {Ls : Array Slot} {z : Int32} {rest : List Value} (hd : decode c.code pc = .ok (.ireturn, 1))
    (eT : T.heap = h) (hQ : Q (some (.int (nar t z))) h locs) (hC : cells ≤ C) (hN : slots ≤ N) : Gl p e below (Gd s Q C N) (T.setTop (mkF m pc Ls (.int z :: rest))) :=
  Gl.leaf X hlk (fun q => by rw [hret] at q; cases q) (fun fs hr => Jvm.RoadKit.retN X hx hret ht hd hr) eT hQ hC hN
/-- areturn -/
theorem Gl.retR {Q : Option Value → Heap → List Loc → Prop} {C N : Nat} (X : Stand p l e R s m args below meth c T locs cells slots) (hx : p.tables.exec = Jvm.exec) (hlk : meth.locks = false) {t : FieldType} (hret : meth.sig.returnType = some t) (ht : t.isReference = true) {pc : Nat} {Ls : Array Slot} {w : Value} (hw : w.isRef = true) {rest : List Value} (hd : decode c.code pc = .ok (.areturn, 1))
    (eT : T.heap = h) (hQ : Q (some w) h locs) (hC : cells ≤ C) (hN : slots ≤ N) : Gl p e below (Gd s Q C N) (T.setTop (mkF m pc Ls (w :: rest))) :=
  Gl.leaf X hlk (fun q => by rw [hret] at q; cases q) (fun fs hr => retOut X hx hret (by cases t <;> first | (cases ht; done) | (rcases ref_cases hw with rfl | ⟨_, rfl⟩ <;> rfl)) (Or.inr (Or.inr (Or.inr (Or.inr ⟨rfl, ht, hw⟩)))) hd hr) eT hQ hC hN
/-- dreturn -/
theorem Gl.retD {Q : Option Value → Heap → List Loc → Prop} {C N : Nat} (X : Stand p l e R s m args below meth c T locs cells slots) (hx : p.tables.exec = Jvm.exec) (hlk : meth.locks = false) (hret : meth.sig.returnType = some .double) {pc : Nat} {Ls : Array Slot} {z : UInt64} {rest : List Value} (hd : decode c.code pc = .ok (.dreturn, 1))
    (eT : T.heap = h) (hQ : Q (some (.double z)) h locs) (hC : cells ≤ C) (hN : slots ≤ N) : Gl p e below (Gd s Q C N) (T.setTop (mkF m pc Ls (.double z :: rest))) :=
  Gl.leaf X hlk (fun q => by rw [hret] at q; cases q) (fun fs hr => retOut X hx hret rfl (Or.inr (Or.inr (Or.inl ⟨rfl, rfl, z, rfl⟩))) hd hr) eT hQ hC hN
/-- return -/
theorem Gl.ret0 {Q : Option Value → Heap → List Loc → Prop} {C N : Nat} (X : Stand p l e R s m args below meth c T locs cells slots) (hx : p.tables.exec = Jvm.exec) (hlk : meth.locks = false) (hret : meth.sig.returnType = none) {pc : Nat} {Ls : Array Slot} (hd : decode c.code pc = .ok (.return_, 1))
    (eT : T.heap = h) (hQ : Q none h locs) (hC : cells ≤ C) (hN : slots ≤ N) : Gl p e below (Gd s Q C N) (T.setTop (mkF m pc Ls [])) :=
  Gl.leaf X hlk (fun _ => rfl) (fun fs hr => X.returnOut hx hret hd hr) eT hQ hC hN
/-- the end of a walk that may have interned -/
def GdW (s : State) (Q : Option Value → Heap → List Loc → Prop) (C N : Nat) (t : State) (o : Outcome) : Prop := ∃ v L, o = .returned v ∧ Q v t.heap L ∧ ReturnedEndW s o t L C N
def ConW (l : Launch) (Z : State) (y : MethodName) (bytes : ByteArray) (maxL : Nat) (rt : Option FieldType) (ws : List Jvm.Cond) (rm : Room) (C N : Nat) (as : Array Value) (h : Heap) (Q : Option Value → Heap → List Loc → Prop) : Prop :=
  MetFree l y (head1 (Jvm.Cond.code y bytes maxL rt :: ws) rm) (fun a U => a = as ∧ Z.Warmed39 U.vm ∧ U.heap = h) (fun _ _ _ _ _ => True) (fun _ U o U' => ∃ v L, o = .returned v ∧ Q v U'.heap L ∧ ReturnedEndW U o U' L C N)
theorem ConW.intro {y : MethodName} {bytes : ByteArray} {maxL : Nat} {rt : Option FieldType} {ws : List Jvm.Cond} {rm : Room} {C N : Nat} {as : Array Value} {Q : Option Value → Heap → List Loc → Prop} (hp : plainFor y = true)
    (body : ∀ p e s m below meth c s₁, Stand p l e rm s m as below meth c s₁ [] 0 0 → p.tables.exec = Jvm.exec → c.code = bytes → c.maxLocals = maxL → Z.Warmed39 s.vm → s.vm.findClass y.cls = some m.cls → meth.name = y.name → meth.sig.returnType = rt → meth.locks = false → s₁.heap = h → s.heap = h →
      Gl p e below (GdW s Q C N) (s₁.setTop (entryFrame m as maxL))) : ConW l Z y bytes maxL rt ws rm C N as h Q := by
  refine MetFree.of_bodySF hp hisR ?_
  intro p e s m args below meth c s₁ Bd hml0 hP hK
  obtain ⟨rfl, hZ, hh⟩ := hP
  exact body p e s m below meth c s₁ (Stand.of_body Bd) Bd.exec Bd.bytes hml0 hZ (findClass_of_methodNamed Bd.named) (name_of_methodNamed Bd.named Bd.method).1 Bd.returns (BodyLoose.notSynchronized Bd) (by rw [← hh, Bd.state]; rfl) hh
theorem Gl.leafW {Q : Option Value → Heap → List Loc → Prop} {C N n : Nat} {vm₁ : Vm} (X : Stand p l e R (s.setVm vm₁) m args below meth c T locs cells slots) (hlk : meth.locks = false) {v : Option Value} (hv : meth.sig.returnType = none → v = none) {S : State}
    (st : ∀ fs, (∀ (f : JFrame) (acts : List Action), f.method = m → f.locked = none → f.entered = [] → (doReturn e (T.setTop f) acts v).1 = T.setFrames fs) → Steps p.tables e below S (T.setFrames fs)) (eT : T.heap = h) (hQ : Q v h locs) (hS : s.Since vm₁ n) (hn : n ≤ h.size) (hC : cells ≤ C) (hN : slots ≤ N) : Gl p e below (GdW s Q C N) S := by
  obtain ⟨fs, hr, hrun, hended, hW⟩ := X.leaveW hS (by rw [eT]; exact hn) (v := v) hv hlk
  exact ⟨_, _, st fs hr, hrun, hended, v, locs, rfl, by show Q v T.heap locs; rw [eT]; exact hQ, hW.1, hW.2.1, hW.2.2.1, hW.2.2.2.mono hC hN⟩
theorem Gl.retNW {Q : Option Value → Heap → List Loc → Prop} {C N n : Nat} {vm₁ : Vm} (X : Stand p l e R (s.setVm vm₁) m args below meth c T locs cells slots) (hx : p.tables.exec = Jvm.exec) (hlk : meth.locks = false) {t : FieldType} (hret : meth.sig.returnType = some t) (ht : t = .boolean ∨ t = .byte ∨ t = .char ∨ t = .short) {pc : Nat} {Ls : Array Slot} {z : Int32} {rest : List Value} (hd : decode c.code pc = .ok (.ireturn, 1))
    (eT : T.heap = h) (hQ : Q (some (.int (nar t z))) h locs) (hS : s.Since vm₁ n) (hn : n ≤ h.size) (hC : cells ≤ C) (hN : slots ≤ N) : Gl p e below (GdW s Q C N) (T.setTop (mkF m pc Ls (.int z :: rest))) :=
  Gl.leafW X hlk (fun q => by rw [hret] at q; cases q) (fun fs hr => Jvm.RoadKit.retN X hx hret ht hd hr) eT hQ hS hn hC hN
theorem Gl.retRW {Q : Option Value → Heap → List Loc → Prop} {C N n : Nat} {vm₁ : Vm} (X : Stand p l e R (s.setVm vm₁) m args below meth c T locs cells slots) (hx : p.tables.exec = Jvm.exec) (hlk : meth.locks = false) {t : FieldType} (hret : meth.sig.returnType = some t) (ht : t.isReference = true) {pc : Nat} {Ls : Array Slot} {w : Value} (hw : w.isRef = true) {rest : List Value} (hd : decode c.code pc = .ok (.areturn, 1))
    (eT : T.heap = h) (hQ : Q (some w) h locs) (hS : s.Since vm₁ n) (hn : n ≤ h.size) (hC : cells ≤ C) (hN : slots ≤ N) : Gl p e below (GdW s Q C N) (T.setTop (mkF m pc Ls (w :: rest))) :=
  Gl.leafW X hlk (fun q => by rw [hret] at q; cases q) (fun fs hr => retOut X hx hret (by cases t <;> first | (cases ht; done) | (rcases ref_cases hw with rfl | ⟨_, rfl⟩ <;> rfl)) (Or.inr (Or.inr (Or.inr (Or.inr ⟨rfl, ht, hw⟩)))) hd hr) eT hQ hS hn hC hN
theorem ref_nar {r : Value} {C : String} (h : r.isRef = true) : narrow (.object C) r = r := by rcases ref_cases h with rfl | ⟨_, rfl⟩ <;> rfl
theorem ref_fit {r : Value} {C : String} (h : r.isRef = true) : fits (.object C) r = true := by rcases ref_cases h with rfl | ⟨_, rfl⟩ <;> rfl
theorem cat_ref {r : Value} (h : r.isRef = true) : r.category = 1 := by rcases ref_cases h with rfl | ⟨_, rfl⟩ <;> rfl
/-- what a callee that writes and makes nothing leaves -/
def Pur (F : Option Value → Prop) (h0 : Heap) (v : Option Value) (h : Heap) (L : List Loc) : Prop := F v ∧ h = h0 ∧ L = []
theorem desc_ne {n : String} (h : (n == "java/lang/invoke/MethodHandle" || n == "java/lang/invoke/VarHandle") = false) : n ≠ "java/lang/invoke/MethodHandle" ∧ n ≠ "java/lang/invoke/VarHandle" := by
  simp only [Bool.or_eq_false_iff, beq_eq_false_iff_ne, ne_eq] at h
  exact h
/-- a static call by its contract -/
theorem Gl.callS {G : State → Outcome → Prop} (X : Stand p l e R s m args below meth c T locs cells slots) (hx : p.tables.exec = Jvm.exec) (hZ : Z.Warmed39 s.vm) {own : String} {index : Nat} {y : MethodName} {bytes : ByteArray} {maxL : Nat} {rt : Option FieldType} (hown : s.vm.findClass own = some m.cls)
    (w1 : (Jvm.Cond.methodLink own index y).before a0 Z = true) (w2 : (Jvm.Cond.static y).before a0 Z = true) (w3 : (Jvm.Cond.initialized y.cls).before a0 Z = true) (w4 : (Jvm.Cond.code y bytes maxL rt).before a0 Z = true) (hy : y.cls ≠ "java/lang/invoke/MethodHandle" ∧ y.cls ≠ "java/lang/invoke/VarHandle")
    {rm : Room} {Q : Option Value → Heap → List Loc → Prop} {argsL rest : List Value} (hM : Con l Z y bytes maxL rt [] rm rm.cells rm.slots argsL.toArray h Q) (W : Nat) (hf : rm.frames + 1 ≤ R.frames) (hl : W + (maxL + 11) + rm.locals ≤ R.locals) (hcl : cells + rm.cells ≤ R.cells) (hsl : slots + rm.slots ≤ R.slots) (eT : T.heap = h)
    {pc : Nat} {Ls : Array Slot} {st : List Value} (hsz : Ls.size = c.maxLocals) {ps : List FieldType} {r' : Option FieldType} (hds : parseMethodDescriptor y.desc = some ⟨ps, r'⟩) (hlen : argsL.length = ps.length) (hst : st = argsL.reverse ++ rest) (hW : 2 * 0 + (rest.map fun v => v.category).sum ≤ W) (hd : decode c.code pc = .ok (.invokestatic index, 3))
    (k : ∀ (v : Option Value) (T' : State) (L : List Loc), Stand p l e R s m args below meth c T' (locs ++ L) (cells + rm.cells) (slots + rm.slots) → Q v T'.heap L → Gl p e below G (T'.setTop (mkF m (pc + 3) Ls (v.toList ++ rest)))) : Gl p e below G (T.setTop (mkF m pc Ls st)) := by
  obtain ⟨v, _, ⟨T', L', k', n'⟩, -, X', ⟨Lc, hQ, l1, y1, z1⟩, stp⟩ := Jvm.LawKit.callS X hx (y := y) hown (mvT hZ w1) (mvT hZ w2) (mvT hZ w3) (mvT hZ w4) hy (backOf (W := W) hM hZ w4 w3 hf hl) (g := mkF m pc Ls st) rfl hsz (argsL := argsL) (rest := rest) (lenOf hds hlen) hst hW hd (fun _ _ => ⟨rfl, eT, hcl, hsl⟩)
  dsimp only [Pt.U, Pt.locs, Pt.cells, Pt.slots] at X' l1 y1 z1 stp hQ
  subst l1 y1 z1
  exact Gl.of stp (k v T' Lc X' hQ)
theorem Gl.callS0 {G : State → Outcome → Prop} (X : Stand p l e R s m args below meth c T locs cells slots) (hx : p.tables.exec = Jvm.exec) (hZ : Z.Warmed39 s.vm) {own : String} {index : Nat} {y : MethodName} {bytes : ByteArray} {maxL : Nat} {rt : Option FieldType} (hown : s.vm.findClass own = some m.cls)
    (w1 : (Jvm.Cond.methodLink own index y).before a0 Z = true) (w2 : (Jvm.Cond.static y).before a0 Z = true) (w3 : (Jvm.Cond.initialized y.cls).before a0 Z = true) (w4 : (Jvm.Cond.code y bytes maxL rt).before a0 Z = true) (hy : y.cls ≠ "java/lang/invoke/MethodHandle" ∧ y.cls ≠ "java/lang/invoke/VarHandle")
    {fr lo : Nat} {F : Option Value → Prop} {argsL rest : List Value} (hM : Con l Z y bytes maxL rt [] ({ frames := fr, cells := 0, slots := 0, locals := lo } : Room) 0 0 argsL.toArray h (Pur F h)) (W : Nat) (hf : fr + 1 ≤ R.frames) (hl : W + (maxL + 11) + lo ≤ R.locals) (eT : T.heap = h)
    {pc : Nat} {Ls : Array Slot} {st : List Value} (hsz : Ls.size = c.maxLocals) {ps : List FieldType} {r' : Option FieldType} (hds : parseMethodDescriptor y.desc = some ⟨ps, r'⟩) (hlen : argsL.length = ps.length) (hst : st = argsL.reverse ++ rest) (hW : 2 * 0 + (rest.map fun v => v.category).sum ≤ W) (hd : decode c.code pc = .ok (.invokestatic index, 3)) (hcl : cells ≤ R.cells) (hsl : slots ≤ R.slots)
    (k : ∀ (v : Option Value) (T' : State), Stand p l e R s m args below meth c T' locs cells slots → T'.heap = h → F v → Gl p e below G (T'.setTop (mkF m (pc + 3) Ls (v.toList ++ rest)))) : Gl p e below G (T.setTop (mkF m pc Ls st)) := by
  refine Gl.callS X hx hZ hown w1 w2 w3 w4 hy hM W hf hl hcl hsl eT hsz hds hlen hst hW hd ?_
  intro v T' L X' hQ
  obtain ⟨q1, q2, rfl⟩ := hQ
  rw [List.append_nil] at X'
  exact k v T' X' q2 q1
/-- an instance method that the receiver's class selects, by its contract -/
theorem Gl.callV {G : State → Outcome → Prop} (X : Stand p l e R s m args below meth c T locs cells slots) (hx : p.tables.exec = Jvm.exec) (hZ : Z.Warmed39 s.vm) {own C : String} {index : Nat} {y z : MethodName} {bytes : ByteArray} {maxL : Nat} {rt : Option FieldType} (hown : s.vm.findClass own = some m.cls)
    (w1 : (Jvm.Cond.methodLink own index y).before a0 Z = true) (w2 : (Jvm.Cond.declares y).before a0 Z = true) (nf : NotFace s y) (w3 : (Jvm.Cond.selects C y z).before a0 Z = true) (w4 : (Jvm.Cond.instanceMethod z).before a0 Z = true) (w5 : (Jvm.Cond.code z bytes maxL rt).before a0 Z = true) (w6 : (Jvm.Cond.initialized z.cls).before a0 Z = true) (hy : y.cls ≠ "java/lang/invoke/MethodHandle" ∧ y.cls ≠ "java/lang/invoke/VarHandle")
    {rm : Room} {Q : Option Value → Heap → List Loc → Prop} {b : Addr} {argsL rest : List Value} (hE : Exa Z h b C) (hM : Con l Z z bytes maxL rt [] rm rm.cells rm.slots (.ref b :: argsL).toArray h Q) (W : Nat) (hf : rm.frames + 1 ≤ R.frames) (hl : W + (maxL + 11) + rm.locals ≤ R.locals) (hcl : cells + rm.cells ≤ R.cells) (hsl : slots + rm.slots ≤ R.slots) (eT : T.heap = h)
    {pc : Nat} {Ls : Array Slot} {st : List Value} (hsz : Ls.size = c.maxLocals) {ps : List FieldType} {r' : Option FieldType} (hds : parseMethodDescriptor y.desc = some ⟨ps, r'⟩) (hlen : argsL.length = ps.length) (hst : st = argsL.reverse ++ .ref b :: rest) (hW : 2 * 0 + (rest.map fun v => v.category).sum ≤ W) (hd : decode c.code pc = .ok (.invokevirtual index, 3))
    (k : ∀ (v : Option Value) (T' : State) (L : List Loc), Stand p l e R s m args below meth c T' (locs ++ L) (cells + rm.cells) (slots + rm.slots) → Q v T'.heap L → Gl p e below G (T'.setTop (mkF m (pc + 3) Ls (v.toList ++ rest)))) : Gl p e below G (T.setTop (mkF m pc Ls st)) := by
  obtain ⟨cq, kq, qa, qb, qc⟩ := isOf hZ eT hE
  obtain ⟨v, _, ⟨T', L', k', n'⟩, -, X', ⟨Lc, hQ, l1, y1, z1⟩, stp⟩ := X.virtualBack hx (y := y) (z := z) hown (mvT hZ w1) (mvT hZ w2) nf (mvT hZ w3) (mvT hZ w4) hy (backOf (W := W) hM hZ w5 w6 hf hl) qa qc (g := mkF m pc Ls st) rfl hsz (Steps.refl _) (argsL := argsL) (rest := rest) (lenOf hds hlen) hst hW hd (fun _ _ => ⟨rfl, eT, hcl, hsl⟩)
  dsimp only [Pt.U, Pt.locs, Pt.cells, Pt.slots] at X' l1 y1 z1 stp hQ
  subst l1 y1 z1
  exact Gl.of (fun t q => stp.trans q) (k v T' Lc X' hQ)
theorem Gl.callV0 {G : State → Outcome → Prop} (X : Stand p l e R s m args below meth c T locs cells slots) (hx : p.tables.exec = Jvm.exec) (hZ : Z.Warmed39 s.vm) {own C : String} {index : Nat} {y z : MethodName} {bytes : ByteArray} {maxL : Nat} {rt : Option FieldType} (hown : s.vm.findClass own = some m.cls)
    (w1 : (Jvm.Cond.methodLink own index y).before a0 Z = true) (w2 : (Jvm.Cond.declares y).before a0 Z = true) (nf : NotFace s y) (w3 : (Jvm.Cond.selects C y z).before a0 Z = true) (w4 : (Jvm.Cond.instanceMethod z).before a0 Z = true) (w5 : (Jvm.Cond.code z bytes maxL rt).before a0 Z = true) (w6 : (Jvm.Cond.initialized z.cls).before a0 Z = true) (hy : y.cls ≠ "java/lang/invoke/MethodHandle" ∧ y.cls ≠ "java/lang/invoke/VarHandle")
    {fr lo : Nat} {F : Option Value → Prop} {b : Addr} {argsL rest : List Value} (hE : Exa Z h b C) (hM : Con l Z z bytes maxL rt [] ({ frames := fr, cells := 0, slots := 0, locals := lo } : Room) 0 0 (.ref b :: argsL).toArray h (Pur F h)) (W : Nat) (hf : fr + 1 ≤ R.frames) (hl : W + (maxL + 11) + lo ≤ R.locals) (eT : T.heap = h)
    {pc : Nat} {Ls : Array Slot} {st : List Value} (hsz : Ls.size = c.maxLocals) {ps : List FieldType} {r' : Option FieldType} (hds : parseMethodDescriptor y.desc = some ⟨ps, r'⟩) (hlen : argsL.length = ps.length) (hst : st = argsL.reverse ++ .ref b :: rest) (hW : 2 * 0 + (rest.map fun v => v.category).sum ≤ W) (hd : decode c.code pc = .ok (.invokevirtual index, 3)) (hcl : cells ≤ R.cells) (hsl : slots ≤ R.slots)
    (k : ∀ (v : Option Value) (T' : State), Stand p l e R s m args below meth c T' locs cells slots → T'.heap = h → F v → Gl p e below G (T'.setTop (mkF m (pc + 3) Ls (v.toList ++ rest)))) : Gl p e below G (T.setTop (mkF m pc Ls st)) := by
  refine Gl.callV X hx hZ hown w1 w2 nf w3 w4 w5 w6 hy hE hM W hf hl hcl hsl eT hsz hds hlen hst hW hd ?_
  intro v T' L X' hQ
  obtain ⟨q1, q2, rfl⟩ := hQ
  rw [List.append_nil] at X'
  exact k v T' X' q2 q1
/-- a private instance method by its contract -/
theorem Gl.callP {G : State → Outcome → Prop} (X : Stand p l e R s m args below meth c T locs cells slots) (hx : p.tables.exec = Jvm.exec) (hZ : Z.Warmed39 s.vm) {own C : String} {index : Nat} {y : MethodName} {bytes : ByteArray} {maxL : Nat} {rt : Option FieldType} (hown : s.vm.findClass own = some m.cls)
    (w1 : (Jvm.Cond.methodLink own index y).before a0 Z = true) (nf : NotFace s y) (w3 : (Jvm.Cond.privateMethod y).before a0 Z = true) (w4 : (Jvm.Cond.instanceMethod y).before a0 Z = true) (w5 : (Jvm.Cond.code y bytes maxL rt).before a0 Z = true) (w6 : (Jvm.Cond.initialized y.cls).before a0 Z = true) (hy : y.cls ≠ "java/lang/invoke/MethodHandle" ∧ y.cls ≠ "java/lang/invoke/VarHandle")
    {rm : Room} {Q : Option Value → Heap → List Loc → Prop} {b : Addr} {argsL rest : List Value} (hE : Exa Z h b C) (hM : Con l Z y bytes maxL rt [] rm rm.cells rm.slots (.ref b :: argsL).toArray h Q) (W : Nat) (hf : rm.frames + 1 ≤ R.frames) (hl : W + (maxL + 11) + rm.locals ≤ R.locals) (hcl : cells + rm.cells ≤ R.cells) (hsl : slots + rm.slots ≤ R.slots) (eT : T.heap = h)
    {pc : Nat} {Ls : Array Slot} {st : List Value} (hsz : Ls.size = c.maxLocals) {ps : List FieldType} {r' : Option FieldType} (hds : parseMethodDescriptor y.desc = some ⟨ps, r'⟩) (hlen : argsL.length = ps.length) (hst : st = argsL.reverse ++ .ref b :: rest) (hW : 2 * 0 + (rest.map fun v => v.category).sum ≤ W) (hd : decode c.code pc = .ok (.invokevirtual index, 3))
    (k : ∀ (v : Option Value) (T' : State) (L : List Loc), Stand p l e R s m args below meth c T' (locs ++ L) (cells + rm.cells) (slots + rm.slots) → Q v T'.heap L → Gl p e below G (T'.setTop (mkF m (pc + 3) Ls (v.toList ++ rest)))) : Gl p e below G (T.setTop (mkF m pc Ls st)) := by
  obtain ⟨cq, q, q'⟩ := hE.cell
  have hpv := Cond.privateMethod_at (mvP hZ w3 (args := #[]))
  have hin : (Jvm.Cond.instanceMethod y).before args s = true := mvT hZ w4
  obtain ⟨mk, methM, hnamed, hmethM, -, -⟩ := Cond.instanceMethod_spec hin
  obtain ⟨kc, hkc, hkni⟩ := nf mk hnamed
  have hsel : (Jvm.Cond.selects y.cls y y).before args s = true := selects_self_of_private (findClass_of_methodNamed hnamed) hkc hkni hpv hin hy
  obtain ⟨v, _, ⟨T', L', k', n'⟩, -, X', ⟨Lc, hQ, l1, y1, z1⟩, stp⟩ := X.privateBack hx (y := y) hown (mvT hZ w1) hin hsel hpv (mvT hZ w5) hy (backOf (W := W) hM hZ w5 w6 hf hl) (g := mkF m pc Ls st) rfl hsz (Steps.refl _) (a := b) (by rw [eT]; exact q) q' (argsL := argsL) (rest := rest) (lenOf hds hlen) hst hW hd (fun _ _ => ⟨rfl, eT, hcl, hsl⟩)
  dsimp only [Pt.U, Pt.locs, Pt.cells, Pt.slots] at X' l1 y1 z1 stp hQ
  subst l1 y1 z1
  exact Gl.of (fun t q => stp.trans q) (k v T' Lc X' hQ)
theorem Gl.callP0 {G : State → Outcome → Prop} (X : Stand p l e R s m args below meth c T locs cells slots) (hx : p.tables.exec = Jvm.exec) (hZ : Z.Warmed39 s.vm) {own C : String} {index : Nat} {y : MethodName} {bytes : ByteArray} {maxL : Nat} {rt : Option FieldType} (hown : s.vm.findClass own = some m.cls)
    (w1 : (Jvm.Cond.methodLink own index y).before a0 Z = true) (nf : NotFace s y) (w3 : (Jvm.Cond.privateMethod y).before a0 Z = true) (w4 : (Jvm.Cond.instanceMethod y).before a0 Z = true) (w5 : (Jvm.Cond.code y bytes maxL rt).before a0 Z = true) (w6 : (Jvm.Cond.initialized y.cls).before a0 Z = true) (hy : y.cls ≠ "java/lang/invoke/MethodHandle" ∧ y.cls ≠ "java/lang/invoke/VarHandle")
    {fr lo : Nat} {F : Option Value → Prop} {b : Addr} {argsL rest : List Value} (hE : Exa Z h b C) (hM : Con l Z y bytes maxL rt [] ({ frames := fr, cells := 0, slots := 0, locals := lo } : Room) 0 0 (.ref b :: argsL).toArray h (Pur F h)) (W : Nat) (hf : fr + 1 ≤ R.frames) (hl : W + (maxL + 11) + lo ≤ R.locals) (eT : T.heap = h)
    {pc : Nat} {Ls : Array Slot} {st : List Value} (hsz : Ls.size = c.maxLocals) {ps : List FieldType} {r' : Option FieldType} (hds : parseMethodDescriptor y.desc = some ⟨ps, r'⟩) (hlen : argsL.length = ps.length) (hst : st = argsL.reverse ++ .ref b :: rest) (hW : 2 * 0 + (rest.map fun v => v.category).sum ≤ W) (hd : decode c.code pc = .ok (.invokevirtual index, 3)) (hcl : cells ≤ R.cells) (hsl : slots ≤ R.slots)
    (k : ∀ (v : Option Value) (T' : State), Stand p l e R s m args below meth c T' locs cells slots → T'.heap = h → F v → Gl p e below G (T'.setTop (mkF m (pc + 3) Ls (v.toList ++ rest)))) : Gl p e below G (T.setTop (mkF m pc Ls st)) := by
  refine Gl.callP X hx hZ hown w1 nf w3 w4 w5 w6 hy hE hM W hf hl hcl hsl eT hsz hds hlen hst hW hd ?_
  intro v T' L X' hQ
  obtain ⟨q1, q2, rfl⟩ := hQ
  rw [List.append_nil] at X'
  exact k v T' X' q2 q1
/-- a constructor by its contract -/
theorem Gl.callI {G : State → Outcome → Prop} (X : Stand p l e R s m args below meth c T locs cells slots) (hx : p.tables.exec = Jvm.exec) (hZ : Z.Warmed39 s.vm) {own : String} {index : Nat} {y : MethodName} {bytes : ByteArray} {maxL : Nat} (hy1 : y.name = "<init>") (hown : s.vm.findClass own = some m.cls)
    (w1 : (Jvm.Cond.methodLink own index y).before a0 Z = true) (w2 : (Jvm.Cond.instanceMethod y).before a0 Z = true) (w3 : (Jvm.Cond.initialized y.cls).before a0 Z = true) (w4 : (Jvm.Cond.code y bytes maxL none).before a0 Z = true) (hy : y.cls ≠ "java/lang/invoke/MethodHandle" ∧ y.cls ≠ "java/lang/invoke/VarHandle")
    {rm : Room} {Q : Option Value → Heap → List Loc → Prop} {b : Addr} {argsL rest : List Value} (hM : Con l Z y bytes maxL none [] rm rm.cells rm.slots (.ref b :: argsL).toArray h Q) (W : Nat) (hf : rm.frames + 1 ≤ R.frames) (hl : W + (maxL + 11) + rm.locals ≤ R.locals) (hcl : cells + rm.cells ≤ R.cells) (hsl : slots + rm.slots ≤ R.slots) (eT : T.heap = h)
    {pc : Nat} {Ls : Array Slot} {st : List Value} (hsz : Ls.size = c.maxLocals) {ps : List FieldType} {r' : Option FieldType} (hds : parseMethodDescriptor y.desc = some ⟨ps, r'⟩) (hlen : argsL.length = ps.length) (hst : st = argsL.reverse ++ .ref b :: rest) (hW : 2 * 0 + (rest.map fun v => v.category).sum ≤ W) (hd : decode c.code pc = .ok (.invokespecial index, 3))
    (k : ∀ (v : Option Value) (T' : State) (L : List Loc), Stand p l e R s m args below meth c T' (locs ++ L) (cells + rm.cells) (slots + rm.slots) → Q v T'.heap L → Gl p e below G (T'.setTop (mkF m (pc + 3) Ls (v.toList ++ rest)))) : Gl p e below G (T.setTop (mkF m pc Ls st)) := by
  obtain ⟨v, _, ⟨T', L', k', n'⟩, -, X', ⟨Lc, hQ, l1, y1, z1⟩, stp⟩ := X.specialBack hx (y := y) hy1 hown (mvT hZ w1) (mvT hZ w2) (mvT hZ w4) hy (backOf (W := W) hM hZ w4 w3 hf hl) (g := mkF m pc Ls st) rfl hsz (Steps.refl _) (a := b) (argsL := argsL) (rest := rest) (lenOf hds hlen) hst hW hd (fun _ _ => ⟨rfl, eT, hcl, hsl⟩)
  dsimp only [Pt.U, Pt.locs, Pt.cells, Pt.slots] at X' l1 y1 z1 stp hQ
  subst l1 y1 z1
  exact Gl.of (fun t q => stp.trans q) (k v T' Lc X' hQ)
theorem Gl.callI0 {G : State → Outcome → Prop} (X : Stand p l e R s m args below meth c T locs cells slots) (hx : p.tables.exec = Jvm.exec) (hZ : Z.Warmed39 s.vm) {own : String} {index : Nat} {y : MethodName} {bytes : ByteArray} {maxL : Nat} (hy1 : y.name = "<init>") (hown : s.vm.findClass own = some m.cls)
    (w1 : (Jvm.Cond.methodLink own index y).before a0 Z = true) (w2 : (Jvm.Cond.instanceMethod y).before a0 Z = true) (w3 : (Jvm.Cond.initialized y.cls).before a0 Z = true) (w4 : (Jvm.Cond.code y bytes maxL none).before a0 Z = true) (hy : y.cls ≠ "java/lang/invoke/MethodHandle" ∧ y.cls ≠ "java/lang/invoke/VarHandle")
    {fr lo : Nat} {F : Option Value → Prop} {b : Addr} {argsL rest : List Value} (hM : Con l Z y bytes maxL none [] ({ frames := fr, cells := 0, slots := 0, locals := lo } : Room) 0 0 (.ref b :: argsL).toArray h (Pur F h)) (W : Nat) (hf : fr + 1 ≤ R.frames) (hl : W + (maxL + 11) + lo ≤ R.locals) (eT : T.heap = h)
    {pc : Nat} {Ls : Array Slot} {st : List Value} (hsz : Ls.size = c.maxLocals) {ps : List FieldType} {r' : Option FieldType} (hds : parseMethodDescriptor y.desc = some ⟨ps, r'⟩) (hlen : argsL.length = ps.length) (hst : st = argsL.reverse ++ .ref b :: rest) (hW : 2 * 0 + (rest.map fun v => v.category).sum ≤ W) (hd : decode c.code pc = .ok (.invokespecial index, 3)) (hcl : cells ≤ R.cells) (hsl : slots ≤ R.slots)
    (k : ∀ (v : Option Value) (T' : State), Stand p l e R s m args below meth c T' locs cells slots → T'.heap = h → F v → Gl p e below G (T'.setTop (mkF m (pc + 3) Ls (v.toList ++ rest)))) : Gl p e below G (T.setTop (mkF m pc Ls st)) := by
  refine Gl.callI X hx hZ hy1 hown w1 w2 w3 w4 hy hM W hf hl hcl hsl eT hsz hds hlen hst hW hd ?_
  intro v T' L X' hQ
  obtain ⟨q1, q2, rfl⟩ := hQ
  rw [List.append_nil] at X'
  exact k v T' X' q2 q1
/-- a constructor, by a Back -/
theorem Gl.callIB {G : State → Outcome → Prop} (X : Stand p l e R s m args below meth c T locs cells slots) (hx : p.tables.exec = Jvm.exec) (hZ : Z.Warmed39 s.vm) {own : String} {index : Nat} {y : MethodName} {bytes : ByteArray} {maxL : Nat} (hy1 : y.name = "<init>") (hown : s.vm.findClass own = some m.cls)
    (w1 : (Jvm.Cond.methodLink own index y).before a0 Z = true) (w2 : (Jvm.Cond.instanceMethod y).before a0 Z = true) (w4 : (Jvm.Cond.code y bytes maxL none).before a0 Z = true) (hy : y.cls ≠ "java/lang/invoke/MethodHandle" ∧ y.cls ≠ "java/lang/invoke/VarHandle")
    {C N W : Nat} (Q : Option Value → Heap → List Loc → Prop) {b : Addr} {argsL rest : List Value} (hK : Back l R p e below s args y 3 W (fun A a => a = (Value.ref b :: argsL).toArray ∧ A.U.heap = h ∧ A.cells + C ≤ R.cells ∧ A.slots + N ≤ R.slots) (fun A _ v B => ∃ L, Q v B.U.heap L ∧ B.locs = A.locs ++ L ∧ B.cells = A.cells + C ∧ B.slots = A.slots + N)) (hcl : cells + C ≤ R.cells) (hsl : slots + N ≤ R.slots) (eT : T.heap = h)
    {pc : Nat} {Ls : Array Slot} {st : List Value} (hsz : Ls.size = c.maxLocals) {ps : List FieldType} {r' : Option FieldType} (hds : parseMethodDescriptor y.desc = some ⟨ps, r'⟩) (hlen : argsL.length = ps.length) (hst : st = argsL.reverse ++ .ref b :: rest) (hW : 2 * 0 + (rest.map fun v => v.category).sum ≤ W) (hd : decode c.code pc = .ok (.invokespecial index, 3))
    (k : ∀ (v : Option Value) (T' : State) (L : List Loc), Stand p l e R s m args below meth c T' (locs ++ L) (cells + C) (slots + N) → Q v T'.heap L → Gl p e below G (T'.setTop (mkF m (pc + 3) Ls (v.toList ++ rest)))) : Gl p e below G (T.setTop (mkF m pc Ls st)) := by
  obtain ⟨v, _, ⟨T', L', k', n'⟩, -, X', ⟨Lc, hQ, l1, y1, z1⟩, stp⟩ := X.specialBack hx (y := y) hy1 hown (mvT hZ w1) (mvT hZ w2) (mvT hZ w4) hy hK (g := mkF m pc Ls st) rfl hsz (Steps.refl _) (a := b) (argsL := argsL) (rest := rest) (lenOf hds hlen) hst hW hd (fun _ _ => ⟨rfl, eT, hcl, hsl⟩)
  dsimp only [Pt.U, Pt.locs, Pt.cells, Pt.slots] at X' l1 y1 z1 stp hQ
  subst l1 y1 z1
  exact Gl.of (fun t q => stp.trans q) (k v T' Lc X' hQ)
/-- an instance method that writes and makes nothing, by a Back -/
theorem Gl.callVB {G : State → Outcome → Prop} (X : Stand p l e R s m args below meth c T locs cells slots) (hx : p.tables.exec = Jvm.exec) (hZ : Z.Warmed39 s.vm) {own C : String} {index : Nat} {y z : MethodName} (hown : s.vm.findClass own = some m.cls)
    (w1 : (Jvm.Cond.methodLink own index y).before a0 Z = true) (w2 : (Jvm.Cond.declares y).before a0 Z = true) (nf : NotFace s y) (w3 : (Jvm.Cond.selects C y z).before a0 Z = true) (w4 : (Jvm.Cond.instanceMethod z).before a0 Z = true) (hy : y.cls ≠ "java/lang/invoke/MethodHandle" ∧ y.cls ≠ "java/lang/invoke/VarHandle")
    {W : Nat} (F : Option Value → Prop) {b : Addr} {argsL rest : List Value} (hE : Exa Z h b C) (hK : Back l R p e below s args z 3 W (fun A a => a = (Value.ref b :: argsL).toArray ∧ A.U.heap = h ∧ A.cells + 0 ≤ R.cells ∧ A.slots + 0 ≤ R.slots) (fun A _ v B => ∃ L, (F v ∧ L = [] ∧ B.U.heap = h) ∧ B.locs = A.locs ++ L ∧ B.cells = A.cells + 0 ∧ B.slots = A.slots + 0)) (hcl : cells ≤ R.cells) (hsl : slots ≤ R.slots) (eT : T.heap = h)
    {pc : Nat} {Ls : Array Slot} {st : List Value} (hsz : Ls.size = c.maxLocals) {ps : List FieldType} {r' : Option FieldType} (hds : parseMethodDescriptor y.desc = some ⟨ps, r'⟩) (hlen : argsL.length = ps.length) (hst : st = argsL.reverse ++ .ref b :: rest) (hW : 2 * 0 + (rest.map fun v => v.category).sum ≤ W) (hd : decode c.code pc = .ok (.invokevirtual index, 3))
    (k : ∀ (v : Option Value) (T' : State), Stand p l e R s m args below meth c T' locs cells slots → T'.heap = h → F v → Gl p e below G (T'.setTop (mkF m (pc + 3) Ls (v.toList ++ rest)))) : Gl p e below G (T.setTop (mkF m pc Ls st)) := by
  obtain ⟨cq, kq, qa, qb, qc⟩ := isOf hZ eT hE
  obtain ⟨v, _, ⟨T', L', k', n'⟩, -, X', ⟨Lc, ⟨hF, hL, hH⟩, l1, y1, z1⟩, stp⟩ := X.virtualBack hx (y := y) (z := z) hown (mvT hZ w1) (mvT hZ w2) nf (mvT hZ w3) (mvT hZ w4) hy hK qa qc (g := mkF m pc Ls st) rfl hsz (Steps.refl _) (argsL := argsL) (rest := rest) (lenOf hds hlen) hst hW hd (fun _ _ => ⟨rfl, eT, hcl, hsl⟩)
  dsimp only [Pt.U, Pt.locs, Pt.cells, Pt.slots] at X' l1 y1 z1 stp hH
  subst l1 y1 z1 hL
  rw [List.append_nil] at X'
  exact Gl.of (fun t q => stp.trans q) (k v T' X' hH hF)
theorem nf_same {y y' : MethodName} {C : String} (hc : y'.cls = y.cls) (w : (Jvm.Cond.selects C y y).before args s = true) : NotFace s y' := fun r0 h0 => by
  obtain ⟨c2, r2, m2, q1, q2, q3, q4, kP, hkP, hkPi⟩ := Cond.selects_spec w
  have a := findClass_of_methodNamed h0
  rw [hc] at a
  have b := Option.some.inj (a.symm.trans (findClass_of_methodNamed q3))
  exact ⟨kP, by rw [b]; exact hkP, hkPi⟩
theorem fld_ne {a b : Addr} {C n d : String} {v w : Value} (F : Fld Z h a C n d v) (G : Fld Z h b C n d w) (hn : v ≠ w) : ¬ a = b := fun e => by
  subst e
  obtain ⟨c1, cf, k, i, f, h1, h2, -, -, -, -, h7⟩ := F
  obtain ⟨c2, cf', k', i', f', g1, g2, -, -, -, -, g7⟩ := G
  cases h1.symm.trans g1
  cases h2.symm.trans g2
  exact hn (Option.some.inj (h7.symm.trans g7))
theorem own_nb1 : nar .boolean 1 = 1 := rfl
theorem own_nb0 : nar .boolean 0 = 0 := rfl
/-- the words of a case: an equation with an int -/
theorem eq_at {args : Array Value} {s : State} {t : Term} {idx : List Nat} {z : Int32} (h : (Jvm.Cond.eq t (.int z)).value args s none s idx = some true) : t.eval args s none idx s = some (.int z) := by
  obtain ⟨x, y', e1, e2, k1, k2⟩ := cmp_v (Or.inl h)
  cases (Term.int_eval z).symm.trans e2
  obtain ⟨z', rfl⟩ : ∃ z', x = .int z' := k2
  exact e1.trans (congrArg (fun z => some (Value.int z)) (gotT (Cond.eq_ints e1 (Term.int_eval z)) h))
theorem eqR_at {args : Array Value} {s : State} {t u : Term} {idx : List Nat} {a : Addr} (h : (Jvm.Cond.eq t u).value args s none s idx = some true) (hu : u.eval args s none idx s = some (.ref a)) : t.eval args s none idx s = some (.ref a) := by
  obtain ⟨x, y', e1, e2, k1, k2⟩ := cmp_v (Or.inl h)
  cases hu.symm.trans e2
  have hx : x.isRef = true := k2.2
  have q := gotT (eq_R e1 hu hx rfl) h
  rw [q] at e1
  exact e1
theorem len_at {args : Array Value} {s : State} {t : Term} {z : Int32} {a : Addr} {cl : Cell} (h : (Term.length t).eval args s none [] s = some (.int z)) (ht : t.eval args s none [] s = some (.ref a)) (ha : s.arrayAt? a = some cl) : cl.slots.size.toInt32 = z ∧ cl.slots.size < 2 ^ 31 := by
  by_cases q : cl.slots.size < 2 ^ 31
  · rw [len_f ht ha q] at h
    cases h
    exact ⟨rfl, q⟩
  · simp [Term.eval, ht, ha, q] at h
theorem len_sz {n : Nat} {z : Int32} (h : n.toInt32 = z) (q : n < 2 ^ 31) : n = z.toNatClampNeg := by
  rw [← h]; simp only [Int32.toNatClampNeg, len_toInt q]; rfl
end Own
def own_min (a b : Int32) : Int32 := if b < a then b else a
def own_max (a b : Int32) : Int32 := if a < b then b else a
def own_sp (a b c d : Int32) : Int32 := if a = c then (if b = d then 1 else 0) else 0
theorem own_nn (x : Int32) : ¬ (x &&& (2147483647 : Int32)) < 0 := by
  have h : (x &&& (2147483647 : Int32)).toInt = x.toInt % 2 ^ 31 := Jvm.Kit.i32_mask x 2147483647 (k := 31) (by decide) (by decide)
  rw [Int32.lt_iff_toInt_lt, h]
  have e : (0 : Int32).toInt = 0 := rfl
  omega
theorem own_mn {a b : Int32} (ha : ¬ a < 0) (hb : ¬ b < 0) : ¬ own_min a b < 0 := by unfold own_min; split <;> assumption
theorem own_mx (a b : Int32) : ¬ own_max a b < own_min a b := by
  unfold own_min own_max
  simp only [Int32.lt_iff_toInt_lt]
  split <;> split <;> omega
theorem own_spc (a b c d : Int32) : own_sp a b c d = own_sp c d a b := by
  unfold own_sp
  by_cases h : a = c
  · subst h
    by_cases g : b = d
    · subst g; rfl
    · have g' : ¬ d = b := fun e => g e.symm
      rw [if_pos rfl, if_pos rfl, if_neg g, if_neg g']
  · have h' : ¬ c = a := fun e => h e.symm
    rw [if_neg h, if_neg h']
theorem own_ins {Z : State} {a0 : Array Value} {h : Heap} {a : Addr} {C K : String} {n : Nat} {t : List String} (E : Exa Z h a C) (wi : (Jvm.Cond.instantiable K n).before a0 Z = true) (hc : ∀ w ∈ Cond.chainWords (C :: t), w.before a0 Z = true) (hn : K ∉ C :: t) : Ins Z h a K false := by
  obtain ⟨cell, k, h1, h2, h3, h4, -⟩ := E
  obtain ⟨cy, ky, i1, i2, i3, i4, -⟩ := Cond.instantiable_spec wi
  exact ⟨cell, cy, h1, i1, by rw [Vm.notAssignable_of_chain h2 i1 i2 i3 (Bool.or_eq_false_iff.mp i4).1 hc hn]; simp⟩
theorem own_in1 {p : Int32} (h0 : ¬ p < 0) (h1 : ¬ (127 : Int32) < p) : ¬ (p + (128 : Int32)) < 0 ∧ (p + (128 : Int32)) < (256 : Int32) := by
  simp only [Int32.lt_iff_toInt_lt] at *
  have e0 : (0 : Int32).toInt = 0 := rfl
  have e1 : (127 : Int32).toInt = 127 := rfl
  have e2 : (128 : Int32).toInt = 128 := rfl
  have e3 : (256 : Int32).toInt = 256 := rfl
  have e : (p + (128 : Int32)).toInt = p.toInt + 128 := by rw [Jvm.Kit.i32_add] <;> omega
  omega
theorem own_ge {p : Int32} (h0 : ¬ p < 0) : ¬ p < (-128 : Int32) := by
  simp only [Int32.lt_iff_toInt_lt] at *
  have e0 : (0 : Int32).toInt = 0 := rfl
  have e1 : (-128 : Int32).toInt = -128 := rfl
  omega
theorem ef_1 (m : MethodId) (x0 : Int32) (x1 : Int32) : entryFrame m #[(.int x0), (.int x1)] 2 = mkF m 0 #[.val (.int x0), .val (.int x1)] [] := by first | (simp [entryFrame, mkF, argsToLocals, Value.category, maxLocals]; done) | rfl
theorem d1_0 : decode jdk_29_method_69_code 0 = .ok (.iload_n 0, 1) := by decide +kernel
theorem d1_1 : decode jdk_29_method_69_code 1 = .ok (.iload_n 1, 1) := by decide +kernel
theorem d1_2 : decode jdk_29_method_69_code 2 = .ok (.if_icmp .gt 7, 3) := by decide +kernel
theorem d1_9 : decode jdk_29_method_69_code 9 = .ok (.iload_n 1, 1) := by decide +kernel
theorem d1_10 : decode jdk_29_method_69_code 10 = .ok (.ireturn, 1) := by decide +kernel
theorem d1_5 : decode jdk_29_method_69_code 5 = .ok (.iload_n 0, 1) := by decide +kernel
theorem d1_6 : decode jdk_29_method_69_code 6 = .ok (.goto 4, 3) := by decide +kernel
set_option maxRecDepth 65536 in
set_option maxHeartbeats 40000000 in
theorem rm1 (l : Launch) (Z : State) (a0 : Array Value) (hw : ∀ d ∈ tables_1, d.before a0 Z = true) (h0 : Heap) (p1 p2 : Int32) : Con l Z (⟨"java/lang/Math", "min", "(II)I"⟩ : MethodName) jdk_29_method_69_code 2 (some .int) [] ({ frames := 0, cells := 0, slots := 0, locals := 0 } : Room) 0 0 #[(.int p1), (.int p2)] h0 (Pur (fun v => v = some (.int (own_min p1 p2))) h0) := by
  refine Con.intro (by decide +kernel) ?_
  intro p e s m below meth c s₁ X0 hx hby hml hZ hown hnm hret hlk e0 hs0
  refine Gl.of (fun _ kq_ => castTop (ef_1 m p1 p2) kq_) ?_
  show Gl p e below _ (s₁.setTop (mkF m 0 #[.val (.int p1), .val (.int p2)] []))
  refine Gl.of (fun _ kq_ => XS.iloadN X0.here hx rfl (hb hby d1_0) rfl kq_) ?_
  show Gl p e below _ (s₁.setTop (mkF m 1 #[.val (.int p1), .val (.int p2)] [(.int p1)]))
  refine Gl.of (fun _ kq_ => XS.iloadN X0.here hx rfl (hb hby d1_1) rfl kq_) ?_
  show Gl p e below _ (s₁.setTop (mkF m 2 #[.val (.int p1), .val (.int p2)] [(.int p2), (.int p1)]))
  by_cases hc2_1 : p2 < p1
  · refine Gl.of (fun _ kq_ => XS.icmpYes X0.here hx rfl (pc0 := 2) (pc' := 9) rfl (hb hby d1_2) rfl (tlt hc2_1).2.2.1 (by decide) (by decide) kq_) ?_
    show Gl p e below _ (s₁.setTop (mkF m 9 #[.val (.int p1), .val (.int p2)] []))
    refine Gl.of (fun _ kq_ => XS.iloadN X0.here hx rfl (hb hby d1_9) rfl kq_) ?_
    show Gl p e below _ (s₁.setTop (mkF m 10 #[.val (.int p1), .val (.int p2)] [(.int p2)]))
    exact Gl.retI X0 hx hlk hret (hb hby d1_10) e0 (⟨by simp [own_min, hc2_1], rfl, rfl⟩) (by decide) (by decide)
  · refine Gl.of (fun _ kq_ => XS.icmpNo X0.here hx rfl (hb hby d1_2) rfl (flt hc2_1).2.2.1 kq_) ?_
    show Gl p e below _ (s₁.setTop (mkF m 5 #[.val (.int p1), .val (.int p2)] []))
    refine Gl.of (fun _ kq_ => XS.iloadN X0.here hx rfl (hb hby d1_5) rfl kq_) ?_
    show Gl p e below _ (s₁.setTop (mkF m 6 #[.val (.int p1), .val (.int p2)] [(.int p1)]))
    refine Gl.of (fun _ kq_ => XS.goto X0.here hx rfl (pc0 := 6) (pc' := 10) rfl (hb hby d1_6) (by decide) (by decide) kq_) ?_
    show Gl p e below _ (s₁.setTop (mkF m 10 #[.val (.int p1), .val (.int p2)] [(.int p1)]))
    exact Gl.retI X0 hx hlk hret (hb hby d1_10) e0 (⟨by simp [own_min, hc2_1], rfl, rfl⟩) (by decide) (by decide)
theorem ef_2 (m : MethodId) (x0 : Int32) (x1 : Int32) : entryFrame m #[(.int x0), (.int x1)] 2 = mkF m 0 #[.val (.int x0), .val (.int x1)] [] := by first | (simp [entryFrame, mkF, argsToLocals, Value.category, maxLocals]; done) | rfl
theorem d2_0 : decode jdk_29_method_65_code 0 = .ok (.iload_n 0, 1) := by decide +kernel
theorem d2_1 : decode jdk_29_method_65_code 1 = .ok (.iload_n 1, 1) := by decide +kernel
theorem d2_2 : decode jdk_29_method_65_code 2 = .ok (.if_icmp .lt 7, 3) := by decide +kernel
theorem d2_9 : decode jdk_29_method_65_code 9 = .ok (.iload_n 1, 1) := by decide +kernel
theorem d2_10 : decode jdk_29_method_65_code 10 = .ok (.ireturn, 1) := by decide +kernel
theorem d2_5 : decode jdk_29_method_65_code 5 = .ok (.iload_n 0, 1) := by decide +kernel
theorem d2_6 : decode jdk_29_method_65_code 6 = .ok (.goto 4, 3) := by decide +kernel
set_option maxRecDepth 65536 in
set_option maxHeartbeats 40000000 in
theorem rm2 (l : Launch) (Z : State) (a0 : Array Value) (hw : ∀ d ∈ tables_1, d.before a0 Z = true) (h0 : Heap) (p1 p2 : Int32) : Con l Z (⟨"java/lang/Math", "max", "(II)I"⟩ : MethodName) jdk_29_method_65_code 2 (some .int) [] ({ frames := 0, cells := 0, slots := 0, locals := 0 } : Room) 0 0 #[(.int p1), (.int p2)] h0 (Pur (fun v => v = some (.int (own_max p1 p2))) h0) := by
  refine Con.intro (by decide +kernel) ?_
  intro p e s m below meth c s₁ X0 hx hby hml hZ hown hnm hret hlk e0 hs0
  refine Gl.of (fun _ kq_ => castTop (ef_2 m p1 p2) kq_) ?_
  show Gl p e below _ (s₁.setTop (mkF m 0 #[.val (.int p1), .val (.int p2)] []))
  refine Gl.of (fun _ kq_ => XS.iloadN X0.here hx rfl (hb hby d2_0) rfl kq_) ?_
  show Gl p e below _ (s₁.setTop (mkF m 1 #[.val (.int p1), .val (.int p2)] [(.int p1)]))
  refine Gl.of (fun _ kq_ => XS.iloadN X0.here hx rfl (hb hby d2_1) rfl kq_) ?_
  show Gl p e below _ (s₁.setTop (mkF m 2 #[.val (.int p1), .val (.int p2)] [(.int p2), (.int p1)]))
  by_cases hc2_1 : p1 < p2
  · refine Gl.of (fun _ kq_ => XS.icmpYes X0.here hx rfl (pc0 := 2) (pc' := 9) rfl (hb hby d2_2) rfl (tlt hc2_1).1 (by decide) (by decide) kq_) ?_
    show Gl p e below _ (s₁.setTop (mkF m 9 #[.val (.int p1), .val (.int p2)] []))
    refine Gl.of (fun _ kq_ => XS.iloadN X0.here hx rfl (hb hby d2_9) rfl kq_) ?_
    show Gl p e below _ (s₁.setTop (mkF m 10 #[.val (.int p1), .val (.int p2)] [(.int p2)]))
    exact Gl.retI X0 hx hlk hret (hb hby d2_10) e0 (⟨by simp [own_max, hc2_1], rfl, rfl⟩) (by decide) (by decide)
  · refine Gl.of (fun _ kq_ => XS.icmpNo X0.here hx rfl (hb hby d2_2) rfl (flt hc2_1).1 kq_) ?_
    show Gl p e below _ (s₁.setTop (mkF m 5 #[.val (.int p1), .val (.int p2)] []))
    refine Gl.of (fun _ kq_ => XS.iloadN X0.here hx rfl (hb hby d2_5) rfl kq_) ?_
    show Gl p e below _ (s₁.setTop (mkF m 6 #[.val (.int p1), .val (.int p2)] [(.int p1)]))
    refine Gl.of (fun _ kq_ => XS.goto X0.here hx rfl (pc0 := 6) (pc' := 10) rfl (hb hby d2_6) (by decide) (by decide) kq_) ?_
    show Gl p e below _ (s₁.setTop (mkF m 10 #[.val (.int p1), .val (.int p2)] [(.int p1)]))
    exact Gl.retI X0 hx hlk hret (hb hby d2_10) e0 (⟨by simp [own_max, hc2_1], rfl, rfl⟩) (by decide) (by decide)
theorem ef_3 (m : MethodId) (x0 : Addr) (x1 : Int32) (x2 : Int32) : entryFrame m #[(.ref x0), (.int x1), (.int x2)] 3 = mkF m 0 #[.val (.ref x0), .val (.int x1), .val (.int x2)] [] := by first | (simp [entryFrame, mkF, argsToLocals, Value.category, maxLocals]; done) | rfl
theorem pn_0 : plainName "com/example/sitterson/sitterson/text/Span" = true := by first | (simp [plainName, overriddenIn]; done) | decide +kernel
theorem d3_0 : decode prog_29_method_1_code 0 = .ok (.aload_n 0, 1) := by decide +kernel
theorem d3_1 : decode prog_29_method_1_code 1 = .ok (.invokespecial 1, 3) := by decide +kernel
theorem w14 {Z : State} {a0 : Array Value} (hw : ∀ d ∈ tables_1, d.before a0 Z = true) : (Jvm.Cond.methodLink "com/example/sitterson/sitterson/text/Span" (1 : Nat) ({ cls := "java/lang/Object", name := "<init>", desc := "()V" } : Jvm.MethodName)).before a0 Z = true := hw _ (List.mem_of_getElem? (i := 14) rfl)
theorem w15 {Z : State} {a0 : Array Value} (hw : ∀ d ∈ tables_1, d.before a0 Z = true) : (Jvm.Cond.instanceMethod ({ cls := "java/lang/Object", name := "<init>", desc := "()V" } : Jvm.MethodName)).before a0 Z = true := hw _ (List.mem_of_getElem? (i := 15) rfl)
theorem w16 {Z : State} {a0 : Array Value} (hw : ∀ d ∈ tables_1, d.before a0 Z = true) : (Jvm.Cond.code ({ cls := "java/lang/Object", name := "<init>", desc := "()V" } : Jvm.MethodName) object_method_1_code (1 : Nat) (Option.none : Option Jvm.ClassFile.FieldType)).before a0 Z = true := hw _ (List.mem_of_getElem? (i := 16) rfl)
theorem d3_4 : decode prog_29_method_1_code 4 = .ok (.iload_n 1, 1) := by decide +kernel
theorem d3_5 : decode prog_29_method_1_code 5 = .ok (.ifCond .lt 8, 3) := by decide +kernel
theorem d3_8 : decode prog_29_method_1_code 8 = .ok (.iload_n 2, 1) := by decide +kernel
theorem d3_9 : decode prog_29_method_1_code 9 = .ok (.iload_n 1, 1) := by decide +kernel
theorem d3_10 : decode prog_29_method_1_code 10 = .ok (.if_icmp .ge 18, 3) := by decide +kernel
theorem d3_28 : decode prog_29_method_1_code 28 = .ok (.aload_n 0, 1) := by decide +kernel
theorem d3_29 : decode prog_29_method_1_code 29 = .ok (.iload_n 1, 1) := by decide +kernel
theorem d3_30 : decode prog_29_method_1_code 30 = .ok (.putfield 16, 3) := by decide +kernel
theorem w17 {Z : State} {a0 : Array Value} (hw : ∀ d ∈ tables_1, d.before a0 Z = true) : (Jvm.Cond.fieldLink "com/example/sitterson/sitterson/text/Span" (16 : Nat) "com/example/sitterson/sitterson/text/Span" "start" "I").before a0 Z = true := hw _ (List.mem_of_getElem? (i := 17) rfl)
theorem w18 {Z : State} {a0 : Array Value} (hw : ∀ d ∈ tables_1, d.before a0 Z = true) : (Jvm.Cond.laysFinal "com/example/sitterson/sitterson/text/Span" "com/example/sitterson/sitterson/text/Span" "start" "I").before a0 Z = true := hw _ (List.mem_of_getElem? (i := 18) rfl)
theorem w9 {Z : State} {a0 : Array Value} (hw : ∀ d ∈ tables_1, d.before a0 Z = true) : (Jvm.Cond.instantiable "com/example/sitterson/sitterson/text/Span" (2 : Nat)).before a0 Z = true := hw _ (List.mem_of_getElem? (i := 9) rfl)
theorem w20 {Z : State} {a0 : Array Value} (hw : ∀ d ∈ tables_1, d.before a0 Z = true) : (Jvm.Cond.laysFinal "com/example/sitterson/sitterson/text/Span" "com/example/sitterson/sitterson/text/Span" "end" "I").before a0 Z = true := hw _ (List.mem_of_getElem? (i := 20) rfl)
theorem d3_33 : decode prog_29_method_1_code 33 = .ok (.aload_n 0, 1) := by decide +kernel
theorem d3_34 : decode prog_29_method_1_code 34 = .ok (.iload_n 2, 1) := by decide +kernel
theorem d3_35 : decode prog_29_method_1_code 35 = .ok (.putfield 22, 3) := by decide +kernel
theorem w19 {Z : State} {a0 : Array Value} (hw : ∀ d ∈ tables_1, d.before a0 Z = true) : (Jvm.Cond.fieldLink "com/example/sitterson/sitterson/text/Span" (22 : Nat) "com/example/sitterson/sitterson/text/Span" "end" "I").before a0 Z = true := hw _ (List.mem_of_getElem? (i := 19) rfl)
theorem d3_38 : decode prog_29_method_1_code 38 = .ok (.return_, 1) := by decide +kernel
set_option maxRecDepth 65536 in
set_option maxHeartbeats 40000000 in
theorem rm3 (l : Launch) (Z : State) (a0 : Array Value) (hw : ∀ d ∈ tables_1, d.before a0 Z = true) (h0 : Heap) (a1 : Addr) (p1 p2 : Int32) (n0 : Nat) (E1 : Exa Z h0 a1 "com/example/sitterson/sitterson/text/Span") (I1 : Fld Z h0 a1 "com/example/sitterson/sitterson/text/Span" "start" "I" (.int (0 : Int32))) (I2 : Fld Z h0 a1 "com/example/sitterson/sitterson/text/Span" "end" "I" (.int (0 : Int32))) (Ga1 : n0 ≤ a1) (hp1 : ¬ p1 < (0 : Int32)) (hp2 : ¬ p2 < p1) : Con l Z (⟨"com/example/sitterson/sitterson/text/Span", "<init>", "(II)V"⟩ : MethodName) prog_29_method_1_code 3 none [] ({ frames := 1, cells := 0, slots := 0, locals := 12 } : Room) 0 0 #[(.ref a1), (.int p1), (.int p2)] h0 (fun v h L => v = none ∧ Fr n0 L ∧ Keep h0 h [a1] ∧ Fld Z h a1 "com/example/sitterson/sitterson/text/Span" "start" "I" (.int p1) ∧ Fld Z h a1 "com/example/sitterson/sitterson/text/Span" "end" "I" (.int p2)) := by
  refine Con.intro (plainFor_of_name pn_0) ?_
  intro p e s m below meth c s₁ X0 hx hby hml hZ hown hnm hret hlk e0 hs0
  refine Gl.of (fun _ kq_ => castTop (ef_3 m a1 p1 p2) kq_) ?_
  have K0 := Keep.refl h0 [a1]
  show Gl p e below _ (s₁.setTop (mkF m 0 #[.val (.ref a1), .val (.int p1), .val (.int p2)] []))
  refine Gl.of (fun _ kq_ => XS.aloadN X0.here hx rfl (hb hby d3_0) rfl rfl kq_) ?_
  show Gl p e below _ (s₁.setTop (mkF m 1 #[.val (.ref a1), .val (.int p1), .val (.int p2)] [(.ref a1)]))
  obtain ⟨T1, X1, e1, st1⟩ := initO X0 hx hZ hown (w14 hw) (w15 hw) (w16 hw) e0 (g := (mkF m 1 #[.val (.ref a1), .val (.int p1), .val (.int p2)] [(.ref a1)])) rfl (by rw [hml]; rfl) rfl (hb hby d3_1) (by decide) (W := 0) (by show 2 * 0 + _ ≤ _; exact Nat.le_of_eq rfl) (by decide)
  refine Gl.of st1 ?_
  show Gl p e below _ (T1.setTop (mkF m 4 #[.val (.ref a1), .val (.int p1), .val (.int p2)] []))
  refine Gl.of (fun _ kq_ => XS.iloadN X1.here hx rfl (hb hby d3_4) rfl kq_) ?_
  show Gl p e below _ (T1.setTop (mkF m 5 #[.val (.ref a1), .val (.int p1), .val (.int p2)] [(.int p1)]))
  refine Gl.of (fun _ kq_ => XS.ifNo X1.here hx rfl (hb hby d3_5) rfl ((if0 _ _).trans (flt hp1).1) kq_) ?_
  show Gl p e below _ (T1.setTop (mkF m 8 #[.val (.ref a1), .val (.int p1), .val (.int p2)] []))
  refine Gl.of (fun _ kq_ => XS.iloadN X1.here hx rfl (hb hby d3_8) rfl kq_) ?_
  show Gl p e below _ (T1.setTop (mkF m 9 #[.val (.ref a1), .val (.int p1), .val (.int p2)] [(.int p2)]))
  refine Gl.of (fun _ kq_ => XS.iloadN X1.here hx rfl (hb hby d3_9) rfl kq_) ?_
  show Gl p e below _ (T1.setTop (mkF m 10 #[.val (.ref a1), .val (.int p1), .val (.int p2)] [(.int p1), (.int p2)]))
  refine Gl.of (fun _ kq_ => XS.icmpYes X1.here hx rfl (pc0 := 10) (pc' := 28) rfl (hb hby d3_10) rfl (flt hp2).2.1 (by decide) (by decide) kq_) ?_
  show Gl p e below _ (T1.setTop (mkF m 28 #[.val (.ref a1), .val (.int p1), .val (.int p2)] []))
  refine Gl.of (fun _ kq_ => XS.aloadN X1.here hx rfl (hb hby d3_28) rfl rfl kq_) ?_
  show Gl p e below _ (T1.setTop (mkF m 29 #[.val (.ref a1), .val (.int p1), .val (.int p2)] [(.ref a1)]))
  refine Gl.of (fun _ kq_ => XS.iloadN X1.here hx rfl (hb hby d3_29) rfl kq_) ?_
  show Gl p e below _ (T1.setTop (mkF m 30 #[.val (.ref a1), .val (.int p1), .val (.int p2)] [(.int p1), (.ref a1)]))
  obtain ⟨T2, h2, X2, e2, W2, st2⟩ := putF X1 hx hZ hown (host := "") (Or.inl (w17 hw)) Via.refl e1 I1 E1 (Or.inr ⟨(w18 hw), rfl, hnm⟩) (w9 hw) (ty := .int) (by decide) rfl rfl (g := (mkF m 30 #[.val (.ref a1), .val (.int p1), .val (.int p2)] [(.int p1), (.ref a1)])) rfl rfl (hb hby d3_30)
  refine Gl.of st2 ?_
  have F2 : Fld Z h2 a1 "com/example/sitterson/sitterson/text/Span" "start" "I" (.int p1) := I1.same W2
  have ec3 := E1.wr W2
  have fc4 := I2.other W2 (Or.inr (slot_ne (Or.inr (w20 hw)) (Or.inr (w18 hw)) (by decide) (t := .int) (t' := .int) (by decide) (by decide)))
  have N2 := Fr.snoc X2 (Fr.nil n0) Ga1
  have K2 := K0.wr W2 (Or.inl (List.mem_of_getElem? (i := 0) rfl))
  show Gl p e below _ (T2.setTop (mkF m 33 #[.val (.ref a1), .val (.int p1), .val (.int p2)] []))
  refine Gl.of (fun _ kq_ => XS.aloadN X2.here hx rfl (hb hby d3_33) rfl rfl kq_) ?_
  show Gl p e below _ (T2.setTop (mkF m 34 #[.val (.ref a1), .val (.int p1), .val (.int p2)] [(.ref a1)]))
  refine Gl.of (fun _ kq_ => XS.iloadN X2.here hx rfl (hb hby d3_34) rfl kq_) ?_
  show Gl p e below _ (T2.setTop (mkF m 35 #[.val (.ref a1), .val (.int p1), .val (.int p2)] [(.int p2), (.ref a1)]))
  obtain ⟨T5, h5, X5, e5, W5, st5⟩ := putF X2 hx hZ hown (host := "") (Or.inl (w19 hw)) Via.refl e2 fc4 ec3 (Or.inr ⟨(w20 hw), rfl, hnm⟩) (w9 hw) (ty := .int) (by decide) rfl rfl (g := (mkF m 35 #[.val (.ref a1), .val (.int p1), .val (.int p2)] [(.int p2), (.ref a1)])) rfl rfl (hb hby d3_35)
  refine Gl.of st5 ?_
  have F5 : Fld Z h5 a1 "com/example/sitterson/sitterson/text/Span" "end" "I" (.int p2) := fc4.same W5
  have ec6 := ec3.wr W5
  have fc7 := F2.other W5 (Or.inr (slot_ne (Or.inr (w18 hw)) (Or.inr (w20 hw)) (by decide) (t := .int) (t' := .int) (by decide) (by decide)))
  have N5 := Fr.snoc X5 N2 Ga1
  have K5 := K2.wr W5 (Or.inl (List.mem_of_getElem? (i := 0) rfl))
  show Gl p e below _ (T5.setTop (mkF m 38 #[.val (.ref a1), .val (.int p1), .val (.int p2)] []))
  exact Gl.ret0 X5 hx hlk hret (hb hby d3_38) e5 (⟨rfl, N5, K5, fc7, F5⟩) (by decide) (by decide)
theorem ef_4 (m : MethodId) (x0 : Addr) (x1 : Addr) : entryFrame m #[(.ref x0), (.ref x1)] 3 = mkF m 0 #[.val (.ref x0), .val (.ref x1), .unset] [] := by first | (simp [entryFrame, mkF, argsToLocals, Value.category, maxLocals]; done) | rfl
theorem d5_0 : decode prog_29_method_4_code 0 = .ok (.aload_n 1, 1) := by decide +kernel
theorem d5_1 : decode prog_29_method_4_code 1 = .ok (.instanceof 17, 3) := by decide +kernel
theorem w26 {Z : State} {a0 : Array Value} (hw : ∀ d ∈ tables_1, d.before a0 Z = true) : (Jvm.Cond.classLink "com/example/sitterson/sitterson/text/Span" (17 : Nat) "com/example/sitterson/sitterson/text/Span").before a0 Z = true := hw _ (List.mem_of_getElem? (i := 26) rfl)
theorem d5_4 : decode prog_29_method_4_code 4 = .ok (.ifCond .eq 34, 3) := by decide +kernel
theorem d5_7 : decode prog_29_method_4_code 7 = .ok (.aload_n 1, 1) := by decide +kernel
theorem d5_8 : decode prog_29_method_4_code 8 = .ok (.checkcast 17, 3) := by decide +kernel
theorem d5_11 : decode prog_29_method_4_code 11 = .ok (.astore_n 2, 1) := by decide +kernel
theorem d5_12 : decode prog_29_method_4_code 12 = .ok (.aload_n 0, 1) := by decide +kernel
theorem d5_13 : decode prog_29_method_4_code 13 = .ok (.getfield 16, 3) := by decide +kernel
theorem d5_16 : decode prog_29_method_4_code 16 = .ok (.aload_n 2, 1) := by decide +kernel
theorem d5_17 : decode prog_29_method_4_code 17 = .ok (.getfield 16, 3) := by decide +kernel
theorem d5_20 : decode prog_29_method_4_code 20 = .ok (.if_icmp .ne 18, 3) := by decide +kernel
theorem d5_23 : decode prog_29_method_4_code 23 = .ok (.aload_n 0, 1) := by decide +kernel
theorem d5_24 : decode prog_29_method_4_code 24 = .ok (.getfield 22, 3) := by decide +kernel
theorem d5_27 : decode prog_29_method_4_code 27 = .ok (.aload_n 2, 1) := by decide +kernel
theorem d5_28 : decode prog_29_method_4_code 28 = .ok (.getfield 22, 3) := by decide +kernel
theorem d5_31 : decode prog_29_method_4_code 31 = .ok (.if_icmp .ne 7, 3) := by decide +kernel
theorem d5_34 : decode prog_29_method_4_code 34 = .ok (.iconst 1, 1) := by decide +kernel
theorem d5_35 : decode prog_29_method_4_code 35 = .ok (.goto 4, 3) := by decide +kernel
theorem d5_39 : decode prog_29_method_4_code 39 = .ok (.ireturn, 1) := by decide +kernel
theorem d5_38 : decode prog_29_method_4_code 38 = .ok (.iconst 0, 1) := by decide +kernel
set_option maxRecDepth 65536 in
set_option maxHeartbeats 40000000 in
theorem rm4 (l : Launch) (Z : State) (a0 : Array Value) (hw : ∀ d ∈ tables_1, d.before a0 Z = true) (h0 : Heap) (a1 a2 : Addr) (p1 p2 p3 p4 : Int32) (E2 : Exa Z h0 a2 "com/example/sitterson/sitterson/text/Span") (Fa1s : Fld Z h0 a1 "com/example/sitterson/sitterson/text/Span" "start" "I" (.int p1)) (Fa1e : Fld Z h0 a1 "com/example/sitterson/sitterson/text/Span" "end" "I" (.int p2)) (Fa2s : Fld Z h0 a2 "com/example/sitterson/sitterson/text/Span" "start" "I" (.int p3)) (Fa2e : Fld Z h0 a2 "com/example/sitterson/sitterson/text/Span" "end" "I" (.int p4)) : Con l Z (⟨"com/example/sitterson/sitterson/text/Span", "equals", "(Ljava/lang/Object;)Z"⟩ : MethodName) prog_29_method_4_code 3 (some .boolean) [] ({ frames := 0, cells := 0, slots := 0, locals := 0 } : Room) 0 0 #[(.ref a1), (.ref a2)] h0 (Pur (fun v => v = some (.int (own_sp p1 p2 p3 p4))) h0) := by
  refine Con.intro (plainFor_of_name pn_0) ?_
  intro p e s m below meth c s₁ X0 hx hby hml hZ hown hnm hret hlk e0 hs0
  refine Gl.of (fun _ kq_ => castTop (ef_4 m a1 a2) kq_) ?_
  show Gl p e below _ (s₁.setTop (mkF m 0 #[.val (.ref a1), .val (.ref a2), .unset] []))
  refine Gl.of (fun _ kq_ => XS.aloadN X0.here hx rfl (hb hby d5_0) rfl rfl kq_) ?_
  show Gl p e below _ (s₁.setTop (mkF m 1 #[.val (.ref a1), .val (.ref a2), .unset] [(.ref a2)]))
  obtain ⟨T1, X1, e1, st1⟩ := instY X0 hx hZ hown (w26 hw) e0 (Ins.self E2) (g := (mkF m 1 #[.val (.ref a1), .val (.ref a2), .unset] [(.ref a2)])) rfl rfl (hb hby d5_1)
  refine Gl.of st1 ?_
  show Gl p e below _ (T1.setTop (mkF m 4 #[.val (.ref a1), .val (.ref a2), .unset] [(.int (1 : Int32))]))
  refine Gl.of (fun _ kq_ => XS.ifNo X1.here hx rfl (hb hby d5_4) rfl ((if0 _ _).trans (feq (by decide : ¬ ((1 : Int32) = (0 : Int32)))).1) kq_) ?_
  show Gl p e below _ (T1.setTop (mkF m 7 #[.val (.ref a1), .val (.ref a2), .unset] []))
  refine Gl.of (fun _ kq_ => XS.aloadN X1.here hx rfl (hb hby d5_7) rfl rfl kq_) ?_
  show Gl p e below _ (T1.setTop (mkF m 8 #[.val (.ref a1), .val (.ref a2), .unset] [(.ref a2)]))
  obtain ⟨T2, X2, e2, st2⟩ := castY X1 hx hZ hown (w26 hw) e1 (Ins.self E2) (g := (mkF m 8 #[.val (.ref a1), .val (.ref a2), .unset] [(.ref a2)])) rfl rfl (hb hby d5_8)
  refine Gl.of st2 ?_
  show Gl p e below _ (T2.setTop (mkF m 11 #[.val (.ref a1), .val (.ref a2), .unset] [(.ref a2)]))
  refine Gl.of (fun _ kq_ => XS.astoreN X2.here hx rfl (hb hby d5_11) rfl rfl (l' := #[.val (.ref a1), .val (.ref a2), .val (.ref a2)]) rfl kq_) ?_
  show Gl p e below _ (T2.setTop (mkF m 12 #[.val (.ref a1), .val (.ref a2), .val (.ref a2)] []))
  refine Gl.of (fun _ kq_ => XS.aloadN X2.here hx rfl (hb hby d5_12) rfl rfl kq_) ?_
  show Gl p e below _ (T2.setTop (mkF m 13 #[.val (.ref a1), .val (.ref a2), .val (.ref a2)] [(.ref a1)]))
  obtain ⟨T3, X3, e3, st3⟩ := getF X2 hx hZ hown (host := "") (Or.inl (w17 hw)) Via.refl e2 Fa1s (g := (mkF m 13 #[.val (.ref a1), .val (.ref a2), .val (.ref a2)] [(.ref a1)])) rfl rfl (hb hby d5_13)
  refine Gl.of st3 ?_
  show Gl p e below _ (T3.setTop (mkF m 16 #[.val (.ref a1), .val (.ref a2), .val (.ref a2)] [(.int p1)]))
  refine Gl.of (fun _ kq_ => XS.aloadN X3.here hx rfl (hb hby d5_16) rfl rfl kq_) ?_
  show Gl p e below _ (T3.setTop (mkF m 17 #[.val (.ref a1), .val (.ref a2), .val (.ref a2)] [(.ref a2), (.int p1)]))
  obtain ⟨T4, X4, e4, st4⟩ := getF X3 hx hZ hown (host := "") (Or.inl (w17 hw)) Via.refl e3 Fa2s (g := (mkF m 17 #[.val (.ref a1), .val (.ref a2), .val (.ref a2)] [(.ref a2), (.int p1)])) rfl rfl (hb hby d5_17)
  refine Gl.of st4 ?_
  show Gl p e below _ (T4.setTop (mkF m 20 #[.val (.ref a1), .val (.ref a2), .val (.ref a2)] [(.int p3), (.int p1)]))
  by_cases hc20_5 : p1 = p3
  · refine Gl.of (fun _ kq_ => XS.icmpNo X4.here hx rfl (hb hby d5_20) rfl (teq hc20_5).2 kq_) ?_
    show Gl p e below _ (T4.setTop (mkF m 23 #[.val (.ref a1), .val (.ref a2), .val (.ref a2)] []))
    refine Gl.of (fun _ kq_ => XS.aloadN X4.here hx rfl (hb hby d5_23) rfl rfl kq_) ?_
    show Gl p e below _ (T4.setTop (mkF m 24 #[.val (.ref a1), .val (.ref a2), .val (.ref a2)] [(.ref a1)]))
    obtain ⟨T6, X6, e6, st6⟩ := getF X4 hx hZ hown (host := "") (Or.inl (w19 hw)) Via.refl e4 Fa1e (g := (mkF m 24 #[.val (.ref a1), .val (.ref a2), .val (.ref a2)] [(.ref a1)])) rfl rfl (hb hby d5_24)
    refine Gl.of st6 ?_
    show Gl p e below _ (T6.setTop (mkF m 27 #[.val (.ref a1), .val (.ref a2), .val (.ref a2)] [(.int p2)]))
    refine Gl.of (fun _ kq_ => XS.aloadN X6.here hx rfl (hb hby d5_27) rfl rfl kq_) ?_
    show Gl p e below _ (T6.setTop (mkF m 28 #[.val (.ref a1), .val (.ref a2), .val (.ref a2)] [(.ref a2), (.int p2)]))
    obtain ⟨T7, X7, e7, st7⟩ := getF X6 hx hZ hown (host := "") (Or.inl (w19 hw)) Via.refl e6 Fa2e (g := (mkF m 28 #[.val (.ref a1), .val (.ref a2), .val (.ref a2)] [(.ref a2), (.int p2)])) rfl rfl (hb hby d5_28)
    refine Gl.of st7 ?_
    show Gl p e below _ (T7.setTop (mkF m 31 #[.val (.ref a1), .val (.ref a2), .val (.ref a2)] [(.int p4), (.int p2)]))
    by_cases hc31_8 : p2 = p4
    · refine Gl.of (fun _ kq_ => XS.icmpNo X7.here hx rfl (hb hby d5_31) rfl (teq hc31_8).2 kq_) ?_
      show Gl p e below _ (T7.setTop (mkF m 34 #[.val (.ref a1), .val (.ref a2), .val (.ref a2)] []))
      refine Gl.of (fun _ kq_ => XS.iconst X7.here hx rfl (hb hby d5_34) kq_) ?_
      show Gl p e below _ (T7.setTop (mkF m 35 #[.val (.ref a1), .val (.ref a2), .val (.ref a2)] [(.int (1 : Int32))]))
      refine Gl.of (fun _ kq_ => XS.goto X7.here hx rfl (pc0 := 35) (pc' := 39) rfl (hb hby d5_35) (by decide) (by decide) kq_) ?_
      show Gl p e below _ (T7.setTop (mkF m 39 #[.val (.ref a1), .val (.ref a2), .val (.ref a2)] [(.int (1 : Int32))]))
      exact Gl.retN X7 hx hlk hret (by simp) (hb hby d5_39) e7 (⟨by simp [own_sp, own_nb1, own_nb0, hc20_5, hc31_8], rfl, rfl⟩) (by decide) (by decide)
    · refine Gl.of (fun _ kq_ => XS.icmpYes X7.here hx rfl (pc0 := 31) (pc' := 38) rfl (hb hby d5_31) rfl (feq hc31_8).2 (by decide) (by decide) kq_) ?_
      show Gl p e below _ (T7.setTop (mkF m 38 #[.val (.ref a1), .val (.ref a2), .val (.ref a2)] []))
      refine Gl.of (fun _ kq_ => XS.iconst X7.here hx rfl (hb hby d5_38) kq_) ?_
      show Gl p e below _ (T7.setTop (mkF m 39 #[.val (.ref a1), .val (.ref a2), .val (.ref a2)] [(.int (0 : Int32))]))
      exact Gl.retN X7 hx hlk hret (by simp) (hb hby d5_39) e7 (⟨by simp [own_sp, own_nb1, own_nb0, hc20_5, hc31_8], rfl, rfl⟩) (by decide) (by decide)
  · refine Gl.of (fun _ kq_ => XS.icmpYes X4.here hx rfl (pc0 := 20) (pc' := 38) rfl (hb hby d5_20) rfl (feq hc20_5).2 (by decide) (by decide) kq_) ?_
    show Gl p e below _ (T4.setTop (mkF m 38 #[.val (.ref a1), .val (.ref a2), .val (.ref a2)] []))
    refine Gl.of (fun _ kq_ => XS.iconst X4.here hx rfl (hb hby d5_38) kq_) ?_
    show Gl p e below _ (T4.setTop (mkF m 39 #[.val (.ref a1), .val (.ref a2), .val (.ref a2)] [(.int (0 : Int32))]))
    exact Gl.retN X4 hx hlk hret (by simp) (hb hby d5_39) e4 (⟨by simp [own_sp, own_nb1, own_nb0, hc20_5], rfl, rfl⟩) (by decide) (by decide)
theorem ef_5 (m : MethodId) (x0 : Addr)  : entryFrame m #[(.ref x0), .null] 3 = mkF m 0 #[.val (.ref x0), .val .null, .unset] [] := by first | (simp [entryFrame, mkF, argsToLocals, Value.category, maxLocals]; done) | rfl
set_option maxRecDepth 65536 in
set_option maxHeartbeats 40000000 in
theorem rm4n (l : Launch) (Z : State) (a0 : Array Value) (hw : ∀ d ∈ tables_1, d.before a0 Z = true) (h0 : Heap) (a1 : Addr) : Con l Z (⟨"com/example/sitterson/sitterson/text/Span", "equals", "(Ljava/lang/Object;)Z"⟩ : MethodName) prog_29_method_4_code 3 (some .boolean) [] ({ frames := 0, cells := 0, slots := 0, locals := 0 } : Room) 0 0 #[(.ref a1), .null] h0 (Pur (fun v => v = some (.int 0)) h0) := by
  refine Con.intro (plainFor_of_name pn_0) ?_
  intro p e s m below meth c s₁ X0 hx hby hml hZ hown hnm hret hlk e0 hs0
  refine Gl.of (fun _ kq_ => castTop (ef_5 m a1 ) kq_) ?_
  show Gl p e below _ (s₁.setTop (mkF m 0 #[.val (.ref a1), .val .null, .unset] []))
  refine Gl.of (fun _ kq_ => XS.aloadN X0.here hx rfl (hb hby d5_0) rfl rfl kq_) ?_
  show Gl p e below _ (s₁.setTop (mkF m 1 #[.val (.ref a1), .val .null, .unset] [.null]))
  refine Gl.of (fun _ kq_ => X0.instanceofNull hx (g := (mkF m 1 #[.val (.ref a1), .val .null, .unset] [.null])) rfl rfl (hb hby d5_1) _ kq_) ?_
  show Gl p e below _ (s₁.setTop (mkF m 4 #[.val (.ref a1), .val .null, .unset] [(.int (0 : Int32))]))
  refine Gl.of (fun _ kq_ => XS.ifYes X0.here hx rfl (pc0 := 4) (pc' := 38) rfl (hb hby d5_4) rfl ((if0 _ _).trans (teq (by decide : (0 : Int32) = (0 : Int32))).1) (by decide) (by decide) kq_) ?_
  show Gl p e below _ (s₁.setTop (mkF m 38 #[.val (.ref a1), .val .null, .unset] []))
  refine Gl.of (fun _ kq_ => XS.iconst X0.here hx rfl (hb hby d5_38) kq_) ?_
  show Gl p e below _ (s₁.setTop (mkF m 39 #[.val (.ref a1), .val .null, .unset] [(.int (0 : Int32))]))
  exact Gl.retN X0 hx hlk hret (by simp) (hb hby d5_39) e0 (⟨rfl, rfl, rfl⟩) (by decide) (by decide)
theorem own_chain {Z : State} {a0 : Array Value} (hw : ∀ d ∈ tables_1, d.before a0 Z = true) : ∀ w ∈ Cond.chainWords ["java/lang/Integer", "java/lang/Number", "java/lang/Object"], w.before a0 Z = true := fun d hd => hw d ((by decide +kernel : ∀ d ∈ Cond.chainWords ["java/lang/Integer", "java/lang/Number", "java/lang/Object"], d ∈ tables_1) d hd)
theorem ef_6 (m : MethodId) (x0 : Addr) (x1 : Addr) : entryFrame m #[(.ref x0), (.ref x1)] 3 = mkF m 0 #[.val (.ref x0), .val (.ref x1), .unset] [] := by first | (simp [entryFrame, mkF, argsToLocals, Value.category, maxLocals]; done) | rfl
set_option maxRecDepth 65536 in
set_option maxHeartbeats 40000000 in
theorem rm4i (l : Launch) (Z : State) (a0 : Array Value) (hw : ∀ d ∈ tables_1, d.before a0 Z = true) (h0 : Heap) (a1 a2 : Addr) (E2 : Exa Z h0 a2 "java/lang/Integer") : Con l Z (⟨"com/example/sitterson/sitterson/text/Span", "equals", "(Ljava/lang/Object;)Z"⟩ : MethodName) prog_29_method_4_code 3 (some .boolean) [] ({ frames := 0, cells := 0, slots := 0, locals := 0 } : Room) 0 0 #[(.ref a1), (.ref a2)] h0 (Pur (fun v => v = some (.int 0)) h0) := by
  refine Con.intro (plainFor_of_name pn_0) ?_
  intro p e s m below meth c s₁ X0 hx hby hml hZ hown hnm hret hlk e0 hs0
  refine Gl.of (fun _ kq_ => castTop (ef_6 m a1 a2) kq_) ?_
  show Gl p e below _ (s₁.setTop (mkF m 0 #[.val (.ref a1), .val (.ref a2), .unset] []))
  refine Gl.of (fun _ kq_ => XS.aloadN X0.here hx rfl (hb hby d5_0) rfl rfl kq_) ?_
  show Gl p e below _ (s₁.setTop (mkF m 1 #[.val (.ref a1), .val (.ref a2), .unset] [(.ref a2)]))
  obtain ⟨T1, X1, e1, st1⟩ := instN X0 hx hZ hown (w26 hw) e0 (by rw [hs0]; exact own_ins (t := ["java/lang/Number", "java/lang/Object"]) E2 (w9 hw) (own_chain hw) (by decide)) (by rw [hs0]; exact E2) (g := (mkF m 1 #[.val (.ref a1), .val (.ref a2), .unset] [(.ref a2)])) rfl rfl (hb hby d5_1)
  refine Gl.of st1 ?_
  show Gl p e below _ (T1.setTop (mkF m 4 #[.val (.ref a1), .val (.ref a2), .unset] [(.int (0 : Int32))]))
  refine Gl.of (fun _ kq_ => XS.ifYes X1.here hx rfl (pc0 := 4) (pc' := 38) rfl (hb hby d5_4) rfl ((if0 _ _).trans (teq (by decide : (0 : Int32) = (0 : Int32))).1) (by decide) (by decide) kq_) ?_
  show Gl p e below _ (T1.setTop (mkF m 38 #[.val (.ref a1), .val (.ref a2), .unset] []))
  refine Gl.of (fun _ kq_ => XS.iconst X1.here hx rfl (hb hby d5_38) kq_) ?_
  show Gl p e below _ (T1.setTop (mkF m 39 #[.val (.ref a1), .val (.ref a2), .unset] [(.int (0 : Int32))]))
  exact Gl.retN X1 hx hlk hret (by simp) (hb hby d5_39) e1 (⟨rfl, rfl, rfl⟩) (by decide) (by decide)
theorem ef_7 (m : MethodId) (x0 : Addr) : entryFrame m #[(.ref x0)] 1 = mkF m 0 #[.val (.ref x0)] [] := by first | (simp [entryFrame, mkF, argsToLocals, Value.category, maxLocals]; done) | rfl
theorem pn_1 : plainName "java/lang/Number" = true := by first | (simp [plainName, overriddenIn]; done) | decide +kernel
theorem d8_0 : decode jdk_18_method_1_code 0 = .ok (.aload_n 0, 1) := by decide +kernel
theorem d8_1 : decode jdk_18_method_1_code 1 = .ok (.invokespecial 1, 3) := by decide +kernel
theorem w46 {Z : State} {a0 : Array Value} (hw : ∀ d ∈ tables_1, d.before a0 Z = true) : (Jvm.Cond.methodLink "java/lang/Number" (1 : Nat) ({ cls := "java/lang/Object", name := "<init>", desc := "()V" } : Jvm.MethodName)).before a0 Z = true := hw _ (List.mem_of_getElem? (i := 46) rfl)
theorem d8_4 : decode jdk_18_method_1_code 4 = .ok (.return_, 1) := by decide +kernel
set_option maxRecDepth 65536 in
set_option maxHeartbeats 40000000 in
theorem rm5 (l : Launch) (Z : State) (a0 : Array Value) (hw : ∀ d ∈ tables_1, d.before a0 Z = true) (h0 : Heap) (a1 : Addr) : Con l Z (⟨"java/lang/Number", "<init>", "()V"⟩ : MethodName) jdk_18_method_1_code 1 none [] ({ frames := 1, cells := 0, slots := 0, locals := 12 } : Room) 0 0 #[(.ref a1)] h0 (Pur (fun v => v = none) h0) := by
  refine Con.intro (plainFor_of_name pn_1) ?_
  intro p e s m below meth c s₁ X0 hx hby hml hZ hown hnm hret hlk e0 hs0
  refine Gl.of (fun _ kq_ => castTop (ef_7 m a1) kq_) ?_
  show Gl p e below _ (s₁.setTop (mkF m 0 #[.val (.ref a1)] []))
  refine Gl.of (fun _ kq_ => XS.aloadN X0.here hx rfl (hb hby d8_0) rfl rfl kq_) ?_
  show Gl p e below _ (s₁.setTop (mkF m 1 #[.val (.ref a1)] [(.ref a1)]))
  obtain ⟨T1, X1, e1, st1⟩ := initO X0 hx hZ hown (w46 hw) (w15 hw) (w16 hw) e0 (g := (mkF m 1 #[.val (.ref a1)] [(.ref a1)])) rfl (by rw [hml]; rfl) rfl (hb hby d8_1) (by decide) (W := 0) (by show 2 * 0 + _ ≤ _; exact Nat.le_of_eq rfl) (by decide)
  refine Gl.of st1 ?_
  show Gl p e below _ (T1.setTop (mkF m 4 #[.val (.ref a1)] []))
  exact Gl.ret0 X1 hx hlk hret (hb hby d8_4) e1 (⟨rfl, rfl, rfl⟩) (by decide) (by decide)
theorem ef_8 (m : MethodId) (x0 : Addr) (x1 : Int32) : entryFrame m #[(.ref x0), (.int x1)] 2 = mkF m 0 #[.val (.ref x0), .val (.int x1)] [] := by first | (simp [entryFrame, mkF, argsToLocals, Value.category, maxLocals]; done) | rfl
theorem pn_2 : plainName "java/lang/Integer" = true := by first | (simp [plainName, overriddenIn]; done) | decide +kernel
theorem d7_0 : decode jdk_33_method_23_code 0 = .ok (.aload_n 0, 1) := by decide +kernel
theorem d7_1 : decode jdk_33_method_23_code 1 = .ok (.invokespecial 202, 3) := by decide +kernel
theorem pd_0 : parseMethodDescriptor "()V" = some ⟨[], none⟩ := by decide +kernel
theorem w40 {Z : State} {a0 : Array Value} (hw : ∀ d ∈ tables_1, d.before a0 Z = true) : (Jvm.Cond.methodLink "java/lang/Integer" (202 : Nat) ({ cls := "java/lang/Number", name := "<init>", desc := "()V" } : Jvm.MethodName)).before a0 Z = true := hw _ (List.mem_of_getElem? (i := 40) rfl)
theorem w41 {Z : State} {a0 : Array Value} (hw : ∀ d ∈ tables_1, d.before a0 Z = true) : (Jvm.Cond.instanceMethod ({ cls := "java/lang/Number", name := "<init>", desc := "()V" } : Jvm.MethodName)).before a0 Z = true := hw _ (List.mem_of_getElem? (i := 41) rfl)
theorem w44 {Z : State} {a0 : Array Value} (hw : ∀ d ∈ tables_1, d.before a0 Z = true) : (Jvm.Cond.initialized "java/lang/Number").before a0 Z = true := hw _ (List.mem_of_getElem? (i := 44) rfl)
theorem w45 {Z : State} {a0 : Array Value} (hw : ∀ d ∈ tables_1, d.before a0 Z = true) : (Jvm.Cond.code ({ cls := "java/lang/Number", name := "<init>", desc := "()V" } : Jvm.MethodName) jdk_18_method_1_code (1 : Nat) (Option.none : Option Jvm.ClassFile.FieldType)).before a0 Z = true := hw _ (List.mem_of_getElem? (i := 45) rfl)
theorem d7_4 : decode jdk_33_method_23_code 4 = .ok (.aload_n 0, 1) := by decide +kernel
theorem d7_5 : decode jdk_33_method_23_code 5 = .ok (.iload_n 1, 1) := by decide +kernel
theorem d7_6 : decode jdk_33_method_23_code 6 = .ok (.putfield 205, 3) := by decide +kernel
theorem w47 {Z : State} {a0 : Array Value} (hw : ∀ d ∈ tables_1, d.before a0 Z = true) : (Jvm.Cond.fieldLink "java/lang/Integer" (205 : Nat) "java/lang/Integer" "value" "I").before a0 Z = true := hw _ (List.mem_of_getElem? (i := 47) rfl)
theorem w48 {Z : State} {a0 : Array Value} (hw : ∀ d ∈ tables_1, d.before a0 Z = true) : (Jvm.Cond.laysFinal "java/lang/Integer" "java/lang/Integer" "value" "I").before a0 Z = true := hw _ (List.mem_of_getElem? (i := 48) rfl)
theorem w35 {Z : State} {a0 : Array Value} (hw : ∀ d ∈ tables_1, d.before a0 Z = true) : (Jvm.Cond.instantiable "java/lang/Integer" (1 : Nat)).before a0 Z = true := hw _ (List.mem_of_getElem? (i := 35) rfl)
theorem d7_9 : decode jdk_33_method_23_code 9 = .ok (.return_, 1) := by decide +kernel
set_option maxRecDepth 65536 in
set_option maxHeartbeats 40000000 in
theorem rm6 (l : Launch) (Z : State) (a0 : Array Value) (hw : ∀ d ∈ tables_1, d.before a0 Z = true) (h0 : Heap) (a1 : Addr) (p1 : Int32) (n0 : Nat) (E1 : Exa Z h0 a1 "java/lang/Integer") (I1 : Fld Z h0 a1 "java/lang/Integer" "value" "I" (.int (0 : Int32))) (Ga1 : n0 ≤ a1) : Con l Z (⟨"java/lang/Integer", "<init>", "(I)V"⟩ : MethodName) jdk_33_method_23_code 2 none [] ({ frames := 2, cells := 0, slots := 0, locals := 24 } : Room) 0 0 #[(.ref a1), (.int p1)] h0 (fun v h L => v = none ∧ Fr n0 L ∧ Keep h0 h [a1]) := by
  refine Con.intro (plainFor_of_name pn_2) ?_
  intro p e s m below meth c s₁ X0 hx hby hml hZ hown hnm hret hlk e0 hs0
  refine Gl.of (fun _ kq_ => castTop (ef_8 m a1 p1) kq_) ?_
  have K0 := Keep.refl h0 [a1]
  show Gl p e below _ (s₁.setTop (mkF m 0 #[.val (.ref a1), .val (.int p1)] []))
  refine Gl.of (fun _ kq_ => XS.aloadN X0.here hx rfl (hb hby d7_0) rfl rfl kq_) ?_
  show Gl p e below _ (s₁.setTop (mkF m 1 #[.val (.ref a1), .val (.int p1)] [(.ref a1)]))
  refine Gl.callI0 X0 hx hZ (y := (⟨"java/lang/Number", "<init>", "()V"⟩ : MethodName)) rfl hown (w40 hw) (w41 hw) (w44 hw) (w45 hw) (desc_ne (by decide)) (b := a1) (argsL := []) (rest := []) (rm5 l Z a0 hw _ a1) 0 (by decide) (by decide) e0 (pc := 1) (Ls := #[.val (.ref a1), .val (.int p1)]) (st := [(.ref a1)]) (by rw [hml]; rfl) pd_0 rfl rfl (Nat.le_of_eq rfl) (hb hby d7_1) (by decide) (by decide) ?_
  intro v1 T1 X1 e1 hv1
  subst hv1
  show Gl p e below _ (T1.setTop (mkF m 4 #[.val (.ref a1), .val (.int p1)] []))
  refine Gl.of (fun _ kq_ => XS.aloadN X1.here hx rfl (hb hby d7_4) rfl rfl kq_) ?_
  show Gl p e below _ (T1.setTop (mkF m 5 #[.val (.ref a1), .val (.int p1)] [(.ref a1)]))
  refine Gl.of (fun _ kq_ => XS.iloadN X1.here hx rfl (hb hby d7_5) rfl kq_) ?_
  show Gl p e below _ (T1.setTop (mkF m 6 #[.val (.ref a1), .val (.int p1)] [(.int p1), (.ref a1)]))
  obtain ⟨T2, h2, X2, e2, W2, st2⟩ := putF X1 hx hZ hown (host := "") (Or.inl (w47 hw)) Via.refl e1 I1 E1 (Or.inr ⟨(w48 hw), rfl, hnm⟩) (w35 hw) (ty := .int) (by decide) rfl rfl (g := (mkF m 6 #[.val (.ref a1), .val (.int p1)] [(.int p1), (.ref a1)])) rfl rfl (hb hby d7_6)
  refine Gl.of st2 ?_
  have F2 : Fld Z h2 a1 "java/lang/Integer" "value" "I" (.int p1) := I1.same W2
  have ec3 := E1.wr W2
  have N2 := Fr.snoc X2 (Fr.nil n0) Ga1
  have K2 := K0.wr W2 (Or.inl (List.mem_of_getElem? (i := 0) rfl))
  show Gl p e below _ (T2.setTop (mkF m 9 #[.val (.ref a1), .val (.int p1)] []))
  exact Gl.ret0 X2 hx hlk hret (hb hby d7_9) e2 (⟨rfl, N2, K2⟩) (by decide) (by decide)
theorem ef_9 (m : MethodId) (x0 : Int32) : entryFrame m #[(.int x0)] 1 = mkF m 0 #[.val (.int x0)] [] := by first | (simp [entryFrame, mkF, argsToLocals, Value.category, maxLocals]; done) | rfl
theorem d6_0 : decode jdk_33_method_22_code 0 = .ok (.iload_n 0, 1) := by decide +kernel
theorem d6_1 : decode jdk_33_method_22_code 1 = .ok (.bipush (-128), 2) := by decide +kernel
theorem d6_3 : decode jdk_33_method_22_code 3 = .ok (.if_icmp .lt 20, 3) := by decide +kernel
theorem d6_6 : decode jdk_33_method_22_code 6 = .ok (.iload_n 0, 1) := by decide +kernel
theorem d6_7 : decode jdk_33_method_22_code 7 = .ok (.getstatic 191, 3) := by decide +kernel
theorem w32 {Z : State} {a0 : Array Value} (hw : ∀ d ∈ tables_1, d.before a0 Z = true) : (Jvm.Cond.fieldLink "java/lang/Integer" (191 : Nat) "java/lang/Integer$IntegerCache" "high" "I").before a0 Z = true := hw _ (List.mem_of_getElem? (i := 32) rfl)
theorem d6_10 : decode jdk_33_method_22_code 10 = .ok (.if_icmp .gt 13, 3) := by decide +kernel
theorem d6_23 : decode jdk_33_method_22_code 23 = .ok (.new 1, 3) := by decide +kernel
theorem w34 {Z : State} {a0 : Array Value} (hw : ∀ d ∈ tables_1, d.before a0 Z = true) : (Jvm.Cond.classLink "java/lang/Integer" (1 : Nat) "java/lang/Integer").before a0 Z = true := hw _ (List.mem_of_getElem? (i := 34) rfl)
theorem w30 {Z : State} {a0 : Array Value} (hw : ∀ d ∈ tables_1, d.before a0 Z = true) : (Jvm.Cond.initialized "java/lang/Integer").before a0 Z = true := hw _ (List.mem_of_getElem? (i := 30) rfl)
theorem d6_26 : decode jdk_33_method_22_code 26 = .ok (.dup, 1) := by decide +kernel
theorem d6_27 : decode jdk_33_method_22_code 27 = .ok (.iload_n 0, 1) := by decide +kernel
theorem d6_28 : decode jdk_33_method_22_code 28 = .ok (.invokespecial 199, 3) := by decide +kernel
theorem pd_1 : parseMethodDescriptor "(I)V" = some ⟨[.int], none⟩ := by decide +kernel
theorem w36 {Z : State} {a0 : Array Value} (hw : ∀ d ∈ tables_1, d.before a0 Z = true) : (Jvm.Cond.methodLink "java/lang/Integer" (199 : Nat) ({ cls := "java/lang/Integer", name := "<init>", desc := "(I)V" } : Jvm.MethodName)).before a0 Z = true := hw _ (List.mem_of_getElem? (i := 36) rfl)
theorem w37 {Z : State} {a0 : Array Value} (hw : ∀ d ∈ tables_1, d.before a0 Z = true) : (Jvm.Cond.instanceMethod ({ cls := "java/lang/Integer", name := "<init>", desc := "(I)V" } : Jvm.MethodName)).before a0 Z = true := hw _ (List.mem_of_getElem? (i := 37) rfl)
theorem w39 {Z : State} {a0 : Array Value} (hw : ∀ d ∈ tables_1, d.before a0 Z = true) : (Jvm.Cond.code ({ cls := "java/lang/Integer", name := "<init>", desc := "(I)V" } : Jvm.MethodName) jdk_33_method_23_code (2 : Nat) (Option.none : Option Jvm.ClassFile.FieldType)).before a0 Z = true := hw _ (List.mem_of_getElem? (i := 39) rfl)
theorem d6_31 : decode jdk_33_method_22_code 31 = .ok (.areturn, 1) := by decide +kernel
theorem d6_13 : decode jdk_33_method_22_code 13 = .ok (.getstatic 195, 3) := by decide +kernel
theorem w52 {Z : State} {a0 : Array Value} (hw : ∀ d ∈ tables_1, d.before a0 Z = true) : (Jvm.Cond.fieldLink "java/lang/Integer" (195 : Nat) "java/lang/Integer$IntegerCache" "cache" "[Ljava/lang/Integer;").before a0 Z = true := hw _ (List.mem_of_getElem? (i := 52) rfl)
theorem d6_16 : decode jdk_33_method_22_code 16 = .ok (.iload_n 0, 1) := by decide +kernel
theorem d6_17 : decode jdk_33_method_22_code 17 = .ok (.sipush 128, 3) := by decide +kernel
theorem d6_20 : decode jdk_33_method_22_code 20 = .ok (.iadd, 1) := by decide +kernel
theorem d6_21 : decode jdk_33_method_22_code 21 = .ok (.aaload, 1) := by decide +kernel
theorem d6_22 : decode jdk_33_method_22_code 22 = .ok (.areturn, 1) := by decide +kernel
set_option maxRecDepth 65536 in
set_option maxHeartbeats 40000000 in
theorem rm7 (l : Launch) (Z : State) (a0 : Array Value) (hw : ∀ d ∈ tables_1, d.before a0 Z = true) (h0 : Heap) (p1 : Int32) (ac : Addr) (clc : Cell) (n0 : Nat) (S1 : Sta Z Z.heap "java/lang/Integer$IntegerCache" "high" "I" (.int (127 : Int32))) (S2 : Sta Z Z.heap "java/lang/Integer$IntegerCache" "cache" "[Ljava/lang/Integer;" (.ref ac)) (BX : Bxs Z ac clc "java/lang/Integer" "I" (256 : Int32) (fun j => .int (j - (128 : Int32)))) (O0 : Old Z n0 h0) (hp : ¬ p1 < 0) : Con l Z (⟨"java/lang/Integer", "valueOf", "(I)Ljava/lang/Integer;"⟩ : MethodName) jdk_33_method_22_code 1 (some (.object "java/lang/Integer")) [] ({ frames := 3, cells := 1, slots := 1, locals := 38 } : Room) 1 1 #[(.int p1)] h0 (fun v h L => ∃ b, v = some (.ref b) ∧ Exa Z h b "java/lang/Integer" ∧ Keep h0 h [] ∧ Fr n0 L) := by
  refine Con.intro (plainFor_of_name pn_2) ?_
  intro p e s m below meth c s₁ X0 hx hby hml hZ hown hnm hret hlk e0 hs0
  refine Gl.of (fun _ kq_ => castTop (ef_9 m p1) kq_) ?_
  have K0 := Keep.refl h0 []
  show Gl p e below _ (s₁.setTop (mkF m 0 #[.val (.int p1)] []))
  refine Gl.of (fun _ kq_ => XS.iloadN X0.here hx rfl (hb hby d6_0) rfl kq_) ?_
  show Gl p e below _ (s₁.setTop (mkF m 1 #[.val (.int p1)] [(.int p1)]))
  refine Gl.of (fun _ kq_ => XS.bipush X0.here hx rfl (hb hby d6_1) kq_) ?_
  show Gl p e below _ (s₁.setTop (mkF m 3 #[.val (.int p1)] [(.int (-128 : Int32)), (.int p1)]))
  refine Gl.of (fun _ kq_ => XS.icmpNo X0.here hx rfl (hb hby d6_3) rfl (flt (own_ge hp)).1 kq_) ?_
  show Gl p e below _ (s₁.setTop (mkF m 6 #[.val (.int p1)] []))
  refine Gl.of (fun _ kq_ => XS.iloadN X0.here hx rfl (hb hby d6_6) rfl kq_) ?_
  show Gl p e below _ (s₁.setTop (mkF m 7 #[.val (.int p1)] [(.int p1)]))
  obtain ⟨T1, X1, e1, st1⟩ := getS2 X0 hx hZ hown (host := "") (Or.inl (w32 hw)) Via.refl e0 (S1.ext O0.2) (g := (mkF m 7 #[.val (.int p1)] [(.int p1)])) rfl (hb hby d6_7)
  refine Gl.of st1 ?_
  show Gl p e below _ (T1.setTop (mkF m 10 #[.val (.int p1)] [(.int (127 : Int32)), (.int p1)]))
  by_cases hc10_2 : (127 : Int32) < p1
  · refine Gl.of (fun _ kq_ => XS.icmpYes X1.here hx rfl (pc0 := 10) (pc' := 23) rfl (hb hby d6_10) rfl (tlt hc10_2).2.2.1 (by decide) (by decide) kq_) ?_
    show Gl p e below _ (T1.setTop (mkF m 23 #[.val (.int p1)] []))
    obtain ⟨T3, h3, X3, e3, E3, A3, D3, -, st3⟩ := newO X1 hx hZ hown (w34 hw) (w35 hw) (w30 hw) e1 (g := (mkF m 23 #[.val (.int p1)] [])) rfl (hb hby d6_23) (by decide) (by decide)
    obtain ⟨b3, g3⟩ : ∃ z, z = h0.size := ⟨_, rfl⟩
    rw [← g3] at A3 D3 st3
    refine Gl.of st3 ?_
    have Gb3 : n0 ≤ b3 := Nat.le_trans (O0.1 ▸ O0.2.1) (Nat.le_of_eq g3.symm)
    have Jb3 : h0.size ≤ b3 := Nat.le_trans K0.1 (Nat.le_of_eq g3.symm)
    have O3 := O0.ext E3
    have K3 := K0.ext E3
    have F3_value : Fld Z h3 b3 "java/lang/Integer" "value" "I" (.int (0 : Int32)) := D3 (Or.inr (w48 hw)) (ty := .int) (by decide)
    show Gl p e below _ (T3.setTop (mkF m 26 #[.val (.int p1)] [(.ref b3)]))
    refine Gl.of (fun _ kq_ => XS.dup X3.here hx rfl (hb hby d6_26) rfl rfl kq_) ?_
    show Gl p e below _ (T3.setTop (mkF m 27 #[.val (.int p1)] [(.ref b3), (.ref b3)]))
    refine Gl.of (fun _ kq_ => XS.iloadN X3.here hx rfl (hb hby d6_27) rfl kq_) ?_
    show Gl p e below _ (T3.setTop (mkF m 28 #[.val (.int p1)] [(.int p1), (.ref b3), (.ref b3)]))
    refine Gl.callI X3 hx hZ (y := (⟨"java/lang/Integer", "<init>", "(I)V"⟩ : MethodName)) rfl hown (w36 hw) (w37 hw) (w30 hw) (w39 hw) (desc_ne (by decide)) (rm := { frames := 2, cells := 0, slots := 0, locals := 24 }) (b := b3) (argsL := [(.int p1)]) (rest := [(.ref b3)]) (rm6 l Z a0 hw _ b3 p1 n0 A3 F3_value Gb3) 1 (by decide) (by decide) (by decide) (by decide) e3 (pc := 28) (Ls := #[.val (.int p1)]) (st := [(.int p1), (.ref b3), (.ref b3)]) (by rw [hml]; rfl) pd_1 rfl rfl (Nat.le_of_eq rfl) (hb hby d6_28) ?_
    intro v4 T4 L4 X4 hQ4
    obtain ⟨rfl, Nq4, Kq4⟩ := hQ4
    have N4 := Fr.app (Fr.nil n0) Nq4
    have ec5 := A3.keep Kq4
    have O4 := O3.keep Kq4 (allS Gb3 all0)
    have K4 := K3.trans Kq4 (by intro x hx'; cases List.mem_singleton.mp hx'; exact Or.inr Jb3)
    show Gl p e below _ (T4.setTop (mkF m 31 #[.val (.int p1)] [(.ref b3)]))
    exact Gl.retR X4 hx hlk hret rfl rfl (hb hby d6_31) rfl (⟨_, rfl, ec5, K4, N4⟩) (by decide) (by decide)
  · refine Gl.of (fun _ kq_ => XS.icmpNo X1.here hx rfl (hb hby d6_10) rfl (flt hc10_2).2.2.1 kq_) ?_
    show Gl p e below _ (T1.setTop (mkF m 13 #[.val (.int p1)] []))
    obtain ⟨T6, X6, e6, st6⟩ := getS2 X1 hx hZ hown (host := "") (Or.inl (w52 hw)) Via.refl e1 (S2.ext O0.2) (g := (mkF m 13 #[.val (.int p1)] [])) rfl (hb hby d6_13)
    refine Gl.of st6 ?_
    show Gl p e below _ (T6.setTop (mkF m 16 #[.val (.int p1)] [(.ref ac)]))
    refine Gl.of (fun _ kq_ => XS.iloadN X6.here hx rfl (hb hby d6_16) rfl kq_) ?_
    show Gl p e below _ (T6.setTop (mkF m 17 #[.val (.int p1)] [(.int p1), (.ref ac)]))
    refine Gl.of (fun _ kq_ => XS.sipush X6.here hx rfl (hb hby d6_17) kq_) ?_
    show Gl p e below _ (T6.setTop (mkF m 20 #[.val (.int p1)] [(.int (128 : Int32)), (.int p1), (.ref ac)]))
    refine Gl.of (fun _ kq_ => XS.iadd X6.here hx rfl (hb hby d6_20) rfl kq_) ?_
    show Gl p e below _ (T6.setTop (mkF m 21 #[.val (.int p1)] [(.int (p1 + (128 : Int32))), (.ref ac)]))
    have hin := inb_of BX.2.1 (own_in1 hp hc10_2)
    obtain ⟨bx, hx1, hx2, -⟩ := BX.2.2.2 _ hin
    refine Gl.of (fun _ kq_ => X6.aaload hx (j := (p1 + (128 : Int32))) (v := (.ref bx)) (by rw [e6]; exact ((BX.1.ext O0.2)).1) (State.isArrayOf_alike hZ.alike ((BX.1.ext O0.2)).2.1) rfl ((BX.1.ext O0.2)).2.2 hin hx1 (g := (mkF m 21 #[.val (.int p1)] [(.int (p1 + (128 : Int32))), (.ref ac)])) rfl rfl (hb hby d6_21) _ kq_) ?_
    show Gl p e below _ (T6.setTop (mkF m 22 #[.val (.int p1)] [(.ref bx)]))
    exact Gl.retR X6 hx hlk hret rfl rfl (hb hby d6_22) e6 (⟨_, rfl, hx2.ext O0.2, K0, (Fr.nil n0)⟩) (by decide) (by decide)
theorem ef_10 (m : MethodId) (x0 : Int32) (x1 : Int32) (x2 : Int32) (x3 : Int32) (x4 : Int32) : entryFrame m #[(.int x0), (.int x1), (.int x2), (.int x3), (.int x4)] maxLocals = mkF m 0 #[.val (.int x0), .val (.int x1), .val (.int x2), .val (.int x3), .val (.int x4), .unset, .unset, .unset, .unset, .unset, .unset, .unset, .unset, .unset, .unset, .unset, .unset] [] := by first | (simp [entryFrame, mkF, argsToLocals, Value.category, maxLocals]; done) | rfl
theorem pn_3 : plainName "com/example/sitterson/sitterson/text/SpanEqualsPinLaw" = true := by first | (simp [plainName, overriddenIn]; done) | decide +kernel
theorem w0 {Z : State} {a0 : Array Value} (hw : ∀ d ∈ tables_1, d.before a0 Z = true) : (Jvm.Cond.constant "com/example/sitterson/sitterson/text/SpanEqualsPinLaw" (7 : Nat) (2147483647 : Int32)).before a0 Z = true := hw _ (List.mem_of_getElem? (i := 0) rfl)
theorem pd_2 : parseMethodDescriptor "(II)I" = some ⟨[.int, .int], some .int⟩ := by decide +kernel
theorem w1 {Z : State} {a0 : Array Value} (hw : ∀ d ∈ tables_1, d.before a0 Z = true) : (Jvm.Cond.methodLink "com/example/sitterson/sitterson/text/SpanEqualsPinLaw" (8 : Nat) ({ cls := "java/lang/Math", name := "min", desc := "(II)I" } : Jvm.MethodName)).before a0 Z = true := hw _ (List.mem_of_getElem? (i := 1) rfl)
theorem w2 {Z : State} {a0 : Array Value} (hw : ∀ d ∈ tables_1, d.before a0 Z = true) : (Jvm.Cond.static ({ cls := "java/lang/Math", name := "min", desc := "(II)I" } : Jvm.MethodName)).before a0 Z = true := hw _ (List.mem_of_getElem? (i := 2) rfl)
theorem w3 {Z : State} {a0 : Array Value} (hw : ∀ d ∈ tables_1, d.before a0 Z = true) : (Jvm.Cond.initialized "java/lang/Math").before a0 Z = true := hw _ (List.mem_of_getElem? (i := 3) rfl)
theorem w4 {Z : State} {a0 : Array Value} (hw : ∀ d ∈ tables_1, d.before a0 Z = true) : (Jvm.Cond.code ({ cls := "java/lang/Math", name := "min", desc := "(II)I" } : Jvm.MethodName) jdk_29_method_69_code (2 : Nat) (Option.some Jvm.ClassFile.FieldType.int)).before a0 Z = true := hw _ (List.mem_of_getElem? (i := 4) rfl)
theorem w5 {Z : State} {a0 : Array Value} (hw : ∀ d ∈ tables_1, d.before a0 Z = true) : (Jvm.Cond.methodLink "com/example/sitterson/sitterson/text/SpanEqualsPinLaw" (14 : Nat) ({ cls := "java/lang/Math", name := "max", desc := "(II)I" } : Jvm.MethodName)).before a0 Z = true := hw _ (List.mem_of_getElem? (i := 5) rfl)
theorem w6 {Z : State} {a0 : Array Value} (hw : ∀ d ∈ tables_1, d.before a0 Z = true) : (Jvm.Cond.static ({ cls := "java/lang/Math", name := "max", desc := "(II)I" } : Jvm.MethodName)).before a0 Z = true := hw _ (List.mem_of_getElem? (i := 6) rfl)
theorem w7 {Z : State} {a0 : Array Value} (hw : ∀ d ∈ tables_1, d.before a0 Z = true) : (Jvm.Cond.code ({ cls := "java/lang/Math", name := "max", desc := "(II)I" } : Jvm.MethodName) jdk_29_method_65_code (2 : Nat) (Option.some Jvm.ClassFile.FieldType.int)).before a0 Z = true := hw _ (List.mem_of_getElem? (i := 7) rfl)
theorem w8 {Z : State} {a0 : Array Value} (hw : ∀ d ∈ tables_1, d.before a0 Z = true) : (Jvm.Cond.classLink "com/example/sitterson/sitterson/text/SpanEqualsPinLaw" (17 : Nat) "com/example/sitterson/sitterson/text/Span").before a0 Z = true := hw _ (List.mem_of_getElem? (i := 8) rfl)
theorem w10 {Z : State} {a0 : Array Value} (hw : ∀ d ∈ tables_1, d.before a0 Z = true) : (Jvm.Cond.initialized "com/example/sitterson/sitterson/text/Span").before a0 Z = true := hw _ (List.mem_of_getElem? (i := 10) rfl)
theorem pd_3 : parseMethodDescriptor "(II)V" = some ⟨[.int, .int], none⟩ := by decide +kernel
theorem w11 {Z : State} {a0 : Array Value} (hw : ∀ d ∈ tables_1, d.before a0 Z = true) : (Jvm.Cond.methodLink "com/example/sitterson/sitterson/text/SpanEqualsPinLaw" (19 : Nat) ({ cls := "com/example/sitterson/sitterson/text/Span", name := "<init>", desc := "(II)V" } : Jvm.MethodName)).before a0 Z = true := hw _ (List.mem_of_getElem? (i := 11) rfl)
theorem w12 {Z : State} {a0 : Array Value} (hw : ∀ d ∈ tables_1, d.before a0 Z = true) : (Jvm.Cond.instanceMethod ({ cls := "com/example/sitterson/sitterson/text/Span", name := "<init>", desc := "(II)V" } : Jvm.MethodName)).before a0 Z = true := hw _ (List.mem_of_getElem? (i := 12) rfl)
theorem w13 {Z : State} {a0 : Array Value} (hw : ∀ d ∈ tables_1, d.before a0 Z = true) : (Jvm.Cond.code ({ cls := "com/example/sitterson/sitterson/text/Span", name := "<init>", desc := "(II)V" } : Jvm.MethodName) prog_29_method_1_code (3 : Nat) (Option.none : Option Jvm.ClassFile.FieldType)).before a0 Z = true := hw _ (List.mem_of_getElem? (i := 13) rfl)
theorem pd_4 : parseMethodDescriptor "(I)Ljava/lang/Integer;" = some ⟨[.int], some (.object "java/lang/Integer")⟩ := by decide +kernel
theorem w28 {Z : State} {a0 : Array Value} (hw : ∀ d ∈ tables_1, d.before a0 Z = true) : (Jvm.Cond.methodLink "com/example/sitterson/sitterson/text/SpanEqualsPinLaw" (22 : Nat) ({ cls := "java/lang/Integer", name := "valueOf", desc := "(I)Ljava/lang/Integer;" } : Jvm.MethodName)).before a0 Z = true := hw _ (List.mem_of_getElem? (i := 28) rfl)
theorem w29 {Z : State} {a0 : Array Value} (hw : ∀ d ∈ tables_1, d.before a0 Z = true) : (Jvm.Cond.static ({ cls := "java/lang/Integer", name := "valueOf", desc := "(I)Ljava/lang/Integer;" } : Jvm.MethodName)).before a0 Z = true := hw _ (List.mem_of_getElem? (i := 29) rfl)
theorem w31 {Z : State} {a0 : Array Value} (hw : ∀ d ∈ tables_1, d.before a0 Z = true) : (Jvm.Cond.code ({ cls := "java/lang/Integer", name := "valueOf", desc := "(I)Ljava/lang/Integer;" } : Jvm.MethodName) jdk_33_method_22_code (1 : Nat) (Option.some (Jvm.ClassFile.FieldType.object "java/lang/Integer"))).before a0 Z = true := hw _ (List.mem_of_getElem? (i := 31) rfl)
theorem pd_5 : parseMethodDescriptor "(Ljava/lang/Object;)Z" = some ⟨[(.object "java/lang/Object")], some .boolean⟩ := by decide +kernel
theorem w24 {Z : State} {a0 : Array Value} (hw : ∀ d ∈ tables_1, d.before a0 Z = true) : (Jvm.Cond.selects "com/example/sitterson/sitterson/text/Span" ({ cls := "com/example/sitterson/sitterson/text/Span", name := "equals", desc := "(Ljava/lang/Object;)Z" } : Jvm.MethodName) ({ cls := "com/example/sitterson/sitterson/text/Span", name := "equals", desc := "(Ljava/lang/Object;)Z" } : Jvm.MethodName)).before a0 Z = true := hw _ (List.mem_of_getElem? (i := 24) rfl)
theorem w21 {Z : State} {a0 : Array Value} (hw : ∀ d ∈ tables_1, d.before a0 Z = true) : (Jvm.Cond.methodLink "com/example/sitterson/sitterson/text/SpanEqualsPinLaw" (28 : Nat) ({ cls := "com/example/sitterson/sitterson/text/Span", name := "equals", desc := "(Ljava/lang/Object;)Z" } : Jvm.MethodName)).before a0 Z = true := hw _ (List.mem_of_getElem? (i := 21) rfl)
theorem w22 {Z : State} {a0 : Array Value} (hw : ∀ d ∈ tables_1, d.before a0 Z = true) : (Jvm.Cond.declares ({ cls := "com/example/sitterson/sitterson/text/Span", name := "equals", desc := "(Ljava/lang/Object;)Z" } : Jvm.MethodName)).before a0 Z = true := hw _ (List.mem_of_getElem? (i := 22) rfl)
theorem w23 {Z : State} {a0 : Array Value} (hw : ∀ d ∈ tables_1, d.before a0 Z = true) : (Jvm.Cond.instanceMethod ({ cls := "com/example/sitterson/sitterson/text/Span", name := "equals", desc := "(Ljava/lang/Object;)Z" } : Jvm.MethodName)).before a0 Z = true := hw _ (List.mem_of_getElem? (i := 23) rfl)
theorem w25 {Z : State} {a0 : Array Value} (hw : ∀ d ∈ tables_1, d.before a0 Z = true) : (Jvm.Cond.code ({ cls := "com/example/sitterson/sitterson/text/Span", name := "equals", desc := "(Ljava/lang/Object;)Z" } : Jvm.MethodName) prog_29_method_4_code (3 : Nat) (Option.some Jvm.ClassFile.FieldType.boolean)).before a0 Z = true := hw _ (List.mem_of_getElem? (i := 25) rfl)
set_option maxRecDepth 65536 in
set_option maxHeartbeats 40000000 in
theorem rm0 (l : Launch) (Z : State) (a0 : Array Value) (hw : ∀ d ∈ tables_1, d.before a0 Z = true) (ws : List Jvm.Cond) (h0 : Heap) (p1 p2 p3 p4 p5 : Int32) (ac : Addr) (clc : Cell) (n0 : Nat) (S1 : Sta Z Z.heap "java/lang/Integer$IntegerCache" "high" "I" (.int (127 : Int32))) (S2 : Sta Z Z.heap "java/lang/Integer$IntegerCache" "cache" "[Ljava/lang/Integer;" (.ref ac)) (BX : Bxs Z ac clc "java/lang/Integer" "I" (256 : Int32) (fun j => .int (j - (128 : Int32)))) (O0 : Old Z n0 h0) : Con l Z x code maxLocals ret ws room_1 16 128 #[(.int p1), (.int p2), (.int p3), (.int p4), (.int p5)] h0 (fun v h L => v = some (.int 1) ∧ Fr n0 L) := by
  refine Con.intro (plainFor_of_name pn_3) ?_
  intro p e s m below meth c s₁ X0 hx hby hml hZ hown hnm hret hlk e0 hs0
  refine Gl.of (fun _ kq_ => castTop (ef_10 m p1 p2 p3 p4 p5) kq_) ?_
  show Gl p e below _ (s₁.setTop (mkF m 0 #[.val (.int p1), .val (.int p2), .val (.int p3), .val (.int p4), .val (.int p5), .unset, .unset, .unset, .unset, .unset, .unset, .unset, .unset, .unset, .unset, .unset, .unset] []))
  refine Gl.of (fun _ kq_ => XS.iloadN X0.here hx rfl (hb hby at_0) rfl kq_) ?_
  show Gl p e below _ (s₁.setTop (mkF m 1 #[.val (.int p1), .val (.int p2), .val (.int p3), .val (.int p4), .val (.int p5), .unset, .unset, .unset, .unset, .unset, .unset, .unset, .unset, .unset, .unset, .unset, .unset] [(.int p1)]))
  refine Gl.of (fun _ kq_ => X0.ldcInt hx hown (mvT hZ (w0 hw)) (g := (mkF m 1 #[.val (.int p1), .val (.int p2), .val (.int p3), .val (.int p4), .val (.int p5), .unset, .unset, .unset, .unset, .unset, .unset, .unset, .unset, .unset, .unset, .unset, .unset] [(.int p1)])) rfl (hb hby at_1) _ kq_) ?_
  show Gl p e below _ (s₁.setTop (mkF m 3 #[.val (.int p1), .val (.int p2), .val (.int p3), .val (.int p4), .val (.int p5), .unset, .unset, .unset, .unset, .unset, .unset, .unset, .unset, .unset, .unset, .unset, .unset] [(.int (2147483647 : Int32)), (.int p1)]))
  refine Gl.of (fun _ kq_ => XS.iand X0.here hx rfl (hb hby at_3) rfl kq_) ?_
  show Gl p e below _ (s₁.setTop (mkF m 4 #[.val (.int p1), .val (.int p2), .val (.int p3), .val (.int p4), .val (.int p5), .unset, .unset, .unset, .unset, .unset, .unset, .unset, .unset, .unset, .unset, .unset, .unset] [(.int (p1 &&& (2147483647 : Int32)))]))
  refine Gl.of (fun _ kq_ => XS.istore X0.here hx rfl (hb hby at_4) rfl (l' := #[.val (.int p1), .val (.int p2), .val (.int p3), .val (.int p4), .val (.int p5), .val (.int (p1 &&& (2147483647 : Int32))), .unset, .unset, .unset, .unset, .unset, .unset, .unset, .unset, .unset, .unset, .unset]) rfl kq_) ?_
  show Gl p e below _ (s₁.setTop (mkF m 6 #[.val (.int p1), .val (.int p2), .val (.int p3), .val (.int p4), .val (.int p5), .val (.int (p1 &&& (2147483647 : Int32))), .unset, .unset, .unset, .unset, .unset, .unset, .unset, .unset, .unset, .unset, .unset] []))
  refine Gl.of (fun _ kq_ => XS.iloadN X0.here hx rfl (hb hby at_6) rfl kq_) ?_
  show Gl p e below _ (s₁.setTop (mkF m 7 #[.val (.int p1), .val (.int p2), .val (.int p3), .val (.int p4), .val (.int p5), .val (.int (p1 &&& (2147483647 : Int32))), .unset, .unset, .unset, .unset, .unset, .unset, .unset, .unset, .unset, .unset, .unset] [(.int p2)]))
  refine Gl.of (fun _ kq_ => X0.ldcInt hx hown (mvT hZ (w0 hw)) (g := (mkF m 7 #[.val (.int p1), .val (.int p2), .val (.int p3), .val (.int p4), .val (.int p5), .val (.int (p1 &&& (2147483647 : Int32))), .unset, .unset, .unset, .unset, .unset, .unset, .unset, .unset, .unset, .unset, .unset] [(.int p2)])) rfl (hb hby at_7) _ kq_) ?_
  show Gl p e below _ (s₁.setTop (mkF m 9 #[.val (.int p1), .val (.int p2), .val (.int p3), .val (.int p4), .val (.int p5), .val (.int (p1 &&& (2147483647 : Int32))), .unset, .unset, .unset, .unset, .unset, .unset, .unset, .unset, .unset, .unset, .unset] [(.int (2147483647 : Int32)), (.int p2)]))
  refine Gl.of (fun _ kq_ => XS.iand X0.here hx rfl (hb hby at_9) rfl kq_) ?_
  show Gl p e below _ (s₁.setTop (mkF m 10 #[.val (.int p1), .val (.int p2), .val (.int p3), .val (.int p4), .val (.int p5), .val (.int (p1 &&& (2147483647 : Int32))), .unset, .unset, .unset, .unset, .unset, .unset, .unset, .unset, .unset, .unset, .unset] [(.int (p2 &&& (2147483647 : Int32)))]))
  refine Gl.of (fun _ kq_ => XS.istore X0.here hx rfl (hb hby at_10) rfl (l' := #[.val (.int p1), .val (.int p2), .val (.int p3), .val (.int p4), .val (.int p5), .val (.int (p1 &&& (2147483647 : Int32))), .val (.int (p2 &&& (2147483647 : Int32))), .unset, .unset, .unset, .unset, .unset, .unset, .unset, .unset, .unset, .unset]) rfl kq_) ?_
  show Gl p e below _ (s₁.setTop (mkF m 12 #[.val (.int p1), .val (.int p2), .val (.int p3), .val (.int p4), .val (.int p5), .val (.int (p1 &&& (2147483647 : Int32))), .val (.int (p2 &&& (2147483647 : Int32))), .unset, .unset, .unset, .unset, .unset, .unset, .unset, .unset, .unset, .unset] []))
  suffices J12 : ∀ x y : Int32, ¬ x < 0 → ¬ y < 0 → Gl p e below (Gd s (fun v h L => v = some (.int 1) ∧ Fr n0 L) 16 128) (s₁.setTop (mkF m 12 #[.val (.int p1), .val (.int p2), .val (.int p3), .val (.int p4), .val (.int p5), .val (.int x), .val (.int y), .unset, .unset, .unset, .unset, .unset, .unset, .unset, .unset, .unset, .unset] [])) from J12 _ _ (own_nn _) (own_nn _)
  intro x y hx' hy'
  show Gl p e below _ (s₁.setTop (mkF m 12 #[.val (.int p1), .val (.int p2), .val (.int p3), .val (.int p4), .val (.int p5), .val (.int x), .val (.int y), .unset, .unset, .unset, .unset, .unset, .unset, .unset, .unset, .unset, .unset] []))
  refine Gl.of (fun _ kq_ => XS.iload X0.here hx rfl (hb hby at_12) rfl kq_) ?_
  show Gl p e below _ (s₁.setTop (mkF m 14 #[.val (.int p1), .val (.int p2), .val (.int p3), .val (.int p4), .val (.int p5), .val (.int x), .val (.int y), .unset, .unset, .unset, .unset, .unset, .unset, .unset, .unset, .unset, .unset] [(.int x)]))
  refine Gl.of (fun _ kq_ => XS.iload X0.here hx rfl (hb hby at_14) rfl kq_) ?_
  show Gl p e below _ (s₁.setTop (mkF m 16 #[.val (.int p1), .val (.int p2), .val (.int p3), .val (.int p4), .val (.int p5), .val (.int x), .val (.int y), .unset, .unset, .unset, .unset, .unset, .unset, .unset, .unset, .unset, .unset] [(.int y), (.int x)]))
  refine Gl.callS0 X0 hx hZ (y := (⟨"java/lang/Math", "min", "(II)I"⟩ : MethodName)) hown (w1 hw) (w2 hw) (w3 hw) (w4 hw) (desc_ne (by decide)) (argsL := [(.int x), (.int y)]) (rest := []) (rm1 l Z a0 hw _ x y) 0 (by decide) (by decide) e0 (pc := 16) (Ls := #[.val (.int p1), .val (.int p2), .val (.int p3), .val (.int p4), .val (.int p5), .val (.int x), .val (.int y), .unset, .unset, .unset, .unset, .unset, .unset, .unset, .unset, .unset, .unset]) (st := [(.int y), (.int x)]) (by rw [hml]; rfl) pd_2 rfl rfl (Nat.le_of_eq rfl) (hb hby at_16) (by decide) (by decide) ?_
  intro v1 T1 X1 e1 hv1
  subst hv1
  show Gl p e below _ (T1.setTop (mkF m 19 #[.val (.int p1), .val (.int p2), .val (.int p3), .val (.int p4), .val (.int p5), .val (.int x), .val (.int y), .unset, .unset, .unset, .unset, .unset, .unset, .unset, .unset, .unset, .unset] [(.int (own_min x y))]))
  refine Gl.of (fun _ kq_ => XS.istore X1.here hx rfl (hb hby at_19) rfl (l' := #[.val (.int p1), .val (.int p2), .val (.int p3), .val (.int p4), .val (.int p5), .val (.int x), .val (.int y), .val (.int (own_min x y)), .unset, .unset, .unset, .unset, .unset, .unset, .unset, .unset, .unset]) rfl kq_) ?_
  show Gl p e below _ (T1.setTop (mkF m 21 #[.val (.int p1), .val (.int p2), .val (.int p3), .val (.int p4), .val (.int p5), .val (.int x), .val (.int y), .val (.int (own_min x y)), .unset, .unset, .unset, .unset, .unset, .unset, .unset, .unset, .unset] []))
  refine Gl.of (fun _ kq_ => XS.iload X1.here hx rfl (hb hby at_21) rfl kq_) ?_
  show Gl p e below _ (T1.setTop (mkF m 23 #[.val (.int p1), .val (.int p2), .val (.int p3), .val (.int p4), .val (.int p5), .val (.int x), .val (.int y), .val (.int (own_min x y)), .unset, .unset, .unset, .unset, .unset, .unset, .unset, .unset, .unset] [(.int x)]))
  refine Gl.of (fun _ kq_ => XS.iload X1.here hx rfl (hb hby at_23) rfl kq_) ?_
  show Gl p e below _ (T1.setTop (mkF m 25 #[.val (.int p1), .val (.int p2), .val (.int p3), .val (.int p4), .val (.int p5), .val (.int x), .val (.int y), .val (.int (own_min x y)), .unset, .unset, .unset, .unset, .unset, .unset, .unset, .unset, .unset] [(.int y), (.int x)]))
  refine Gl.callS0 X1 hx hZ (y := (⟨"java/lang/Math", "max", "(II)I"⟩ : MethodName)) hown (w5 hw) (w6 hw) (w3 hw) (w7 hw) (desc_ne (by decide)) (argsL := [(.int x), (.int y)]) (rest := []) (rm2 l Z a0 hw _ x y) 0 (by decide) (by decide) e1 (pc := 25) (Ls := #[.val (.int p1), .val (.int p2), .val (.int p3), .val (.int p4), .val (.int p5), .val (.int x), .val (.int y), .val (.int (own_min x y)), .unset, .unset, .unset, .unset, .unset, .unset, .unset, .unset, .unset]) (st := [(.int y), (.int x)]) (by rw [hml]; rfl) pd_2 rfl rfl (Nat.le_of_eq rfl) (hb hby at_25) (by decide) (by decide) ?_
  intro v2 T2 X2 e2 hv2
  subst hv2
  show Gl p e below _ (T2.setTop (mkF m 28 #[.val (.int p1), .val (.int p2), .val (.int p3), .val (.int p4), .val (.int p5), .val (.int x), .val (.int y), .val (.int (own_min x y)), .unset, .unset, .unset, .unset, .unset, .unset, .unset, .unset, .unset] [(.int (own_max x y))]))
  refine Gl.of (fun _ kq_ => XS.istore X2.here hx rfl (hb hby at_28) rfl (l' := #[.val (.int p1), .val (.int p2), .val (.int p3), .val (.int p4), .val (.int p5), .val (.int x), .val (.int y), .val (.int (own_min x y)), .val (.int (own_max x y)), .unset, .unset, .unset, .unset, .unset, .unset, .unset, .unset]) rfl kq_) ?_
  have J46 : ∀ (T3 : State), Stand p l e room_1 s m #[(.int p1), (.int p2), (.int p3), (.int p4), (.int p5)] below meth c T3 [] 0 0 → T3.heap = h0 → ∀ u1 : Int32, (¬ u1 < 0) → Gl p e below (Gd s (fun v h L => v = some (.int 1) ∧ Fr n0 L) 16 128) (T3.setTop (mkF m 46 #[.val (.int p1), .val (.int p2), .val (.int p3), .val (.int p4), .val (.int p5), .val (.int x), .val (.int y), .val (.int (own_min x y)), .val (.int (own_max x y)), .unset, .unset, .unset, .unset, .unset, .unset, .unset, .unset] [(.int u1)])) := by
    intro T3 X3 e3 u1 hu1
    show Gl p e below _ (T3.setTop (mkF m 46 #[.val (.int p1), .val (.int p2), .val (.int p3), .val (.int p4), .val (.int p5), .val (.int x), .val (.int y), .val (.int (own_min x y)), .val (.int (own_max x y)), .unset, .unset, .unset, .unset, .unset, .unset, .unset, .unset] [(.int u1)]))
    refine Gl.of (fun _ kq_ => XS.istore X3.here hx rfl (hb hby at_46) rfl (l' := #[.val (.int p1), .val (.int p2), .val (.int p3), .val (.int p4), .val (.int p5), .val (.int x), .val (.int y), .val (.int (own_min x y)), .val (.int (own_max x y)), .val (.int u1), .unset, .unset, .unset, .unset, .unset, .unset, .unset]) rfl kq_) ?_
    have J64 : ∀ (T4 : State), Stand p l e room_1 s m #[(.int p1), (.int p2), (.int p3), (.int p4), (.int p5)] below meth c T4 [] 0 0 → T4.heap = h0 → ∀ u2 : Int32, (¬ u2 < 0) → Gl p e below (Gd s (fun v h L => v = some (.int 1) ∧ Fr n0 L) 16 128) (T4.setTop (mkF m 64 #[.val (.int p1), .val (.int p2), .val (.int p3), .val (.int p4), .val (.int p5), .val (.int x), .val (.int y), .val (.int (own_min x y)), .val (.int (own_max x y)), .val (.int u1), .unset, .unset, .unset, .unset, .unset, .unset, .unset] [(.int u2)])) := by
      intro T4 X4 e4 u2 hu2
      show Gl p e below _ (T4.setTop (mkF m 64 #[.val (.int p1), .val (.int p2), .val (.int p3), .val (.int p4), .val (.int p5), .val (.int x), .val (.int y), .val (.int (own_min x y)), .val (.int (own_max x y)), .val (.int u1), .unset, .unset, .unset, .unset, .unset, .unset, .unset] [(.int u2)]))
      refine Gl.of (fun _ kq_ => XS.istore X4.here hx rfl (hb hby at_64) rfl (l' := #[.val (.int p1), .val (.int p2), .val (.int p3), .val (.int p4), .val (.int p5), .val (.int x), .val (.int y), .val (.int (own_min x y)), .val (.int (own_max x y)), .val (.int u1), .val (.int u2), .unset, .unset, .unset, .unset, .unset, .unset]) rfl kq_) ?_
      show Gl p e below _ (T4.setTop (mkF m 66 #[.val (.int p1), .val (.int p2), .val (.int p3), .val (.int p4), .val (.int p5), .val (.int x), .val (.int y), .val (.int (own_min x y)), .val (.int (own_max x y)), .val (.int u1), .val (.int u2), .unset, .unset, .unset, .unset, .unset, .unset] []))
      refine Gl.of (fun _ kq_ => XS.iload X4.here hx rfl (hb hby at_66) rfl kq_) ?_
      show Gl p e below _ (T4.setTop (mkF m 68 #[.val (.int p1), .val (.int p2), .val (.int p3), .val (.int p4), .val (.int p5), .val (.int x), .val (.int y), .val (.int (own_min x y)), .val (.int (own_max x y)), .val (.int u1), .val (.int u2), .unset, .unset, .unset, .unset, .unset, .unset] [(.int u1)]))
      refine Gl.of (fun _ kq_ => XS.iload X4.here hx rfl (hb hby at_68) rfl kq_) ?_
      show Gl p e below _ (T4.setTop (mkF m 70 #[.val (.int p1), .val (.int p2), .val (.int p3), .val (.int p4), .val (.int p5), .val (.int x), .val (.int y), .val (.int (own_min x y)), .val (.int (own_max x y)), .val (.int u1), .val (.int u2), .unset, .unset, .unset, .unset, .unset, .unset] [(.int u2), (.int u1)]))
      refine Gl.callS0 X4 hx hZ (y := (⟨"java/lang/Math", "min", "(II)I"⟩ : MethodName)) hown (w1 hw) (w2 hw) (w3 hw) (w4 hw) (desc_ne (by decide)) (argsL := [(.int u1), (.int u2)]) (rest := []) (rm1 l Z a0 hw _ u1 u2) 0 (by decide) (by decide) e4 (pc := 70) (Ls := #[.val (.int p1), .val (.int p2), .val (.int p3), .val (.int p4), .val (.int p5), .val (.int x), .val (.int y), .val (.int (own_min x y)), .val (.int (own_max x y)), .val (.int u1), .val (.int u2), .unset, .unset, .unset, .unset, .unset, .unset]) (st := [(.int u2), (.int u1)]) (by rw [hml]; rfl) pd_2 rfl rfl (Nat.le_of_eq rfl) (hb hby at_70) (by decide) (by decide) ?_
      intro v5 T5 X5 e5 hv5
      subst hv5
      show Gl p e below _ (T5.setTop (mkF m 73 #[.val (.int p1), .val (.int p2), .val (.int p3), .val (.int p4), .val (.int p5), .val (.int x), .val (.int y), .val (.int (own_min x y)), .val (.int (own_max x y)), .val (.int u1), .val (.int u2), .unset, .unset, .unset, .unset, .unset, .unset] [(.int (own_min u1 u2))]))
      refine Gl.of (fun _ kq_ => XS.istore X5.here hx rfl (hb hby at_73) rfl (l' := #[.val (.int p1), .val (.int p2), .val (.int p3), .val (.int p4), .val (.int p5), .val (.int x), .val (.int y), .val (.int (own_min x y)), .val (.int (own_max x y)), .val (.int u1), .val (.int u2), .val (.int (own_min u1 u2)), .unset, .unset, .unset, .unset, .unset]) rfl kq_) ?_
      show Gl p e below _ (T5.setTop (mkF m 75 #[.val (.int p1), .val (.int p2), .val (.int p3), .val (.int p4), .val (.int p5), .val (.int x), .val (.int y), .val (.int (own_min x y)), .val (.int (own_max x y)), .val (.int u1), .val (.int u2), .val (.int (own_min u1 u2)), .unset, .unset, .unset, .unset, .unset] []))
      refine Gl.of (fun _ kq_ => XS.iload X5.here hx rfl (hb hby at_75) rfl kq_) ?_
      show Gl p e below _ (T5.setTop (mkF m 77 #[.val (.int p1), .val (.int p2), .val (.int p3), .val (.int p4), .val (.int p5), .val (.int x), .val (.int y), .val (.int (own_min x y)), .val (.int (own_max x y)), .val (.int u1), .val (.int u2), .val (.int (own_min u1 u2)), .unset, .unset, .unset, .unset, .unset] [(.int u1)]))
      refine Gl.of (fun _ kq_ => XS.iload X5.here hx rfl (hb hby at_77) rfl kq_) ?_
      show Gl p e below _ (T5.setTop (mkF m 79 #[.val (.int p1), .val (.int p2), .val (.int p3), .val (.int p4), .val (.int p5), .val (.int x), .val (.int y), .val (.int (own_min x y)), .val (.int (own_max x y)), .val (.int u1), .val (.int u2), .val (.int (own_min u1 u2)), .unset, .unset, .unset, .unset, .unset] [(.int u2), (.int u1)]))
      refine Gl.callS0 X5 hx hZ (y := (⟨"java/lang/Math", "max", "(II)I"⟩ : MethodName)) hown (w5 hw) (w6 hw) (w3 hw) (w7 hw) (desc_ne (by decide)) (argsL := [(.int u1), (.int u2)]) (rest := []) (rm2 l Z a0 hw _ u1 u2) 0 (by decide) (by decide) e5 (pc := 79) (Ls := #[.val (.int p1), .val (.int p2), .val (.int p3), .val (.int p4), .val (.int p5), .val (.int x), .val (.int y), .val (.int (own_min x y)), .val (.int (own_max x y)), .val (.int u1), .val (.int u2), .val (.int (own_min u1 u2)), .unset, .unset, .unset, .unset, .unset]) (st := [(.int u2), (.int u1)]) (by rw [hml]; rfl) pd_2 rfl rfl (Nat.le_of_eq rfl) (hb hby at_79) (by decide) (by decide) ?_
      intro v6 T6 X6 e6 hv6
      subst hv6
      show Gl p e below _ (T6.setTop (mkF m 82 #[.val (.int p1), .val (.int p2), .val (.int p3), .val (.int p4), .val (.int p5), .val (.int x), .val (.int y), .val (.int (own_min x y)), .val (.int (own_max x y)), .val (.int u1), .val (.int u2), .val (.int (own_min u1 u2)), .unset, .unset, .unset, .unset, .unset] [(.int (own_max u1 u2))]))
      refine Gl.of (fun _ kq_ => XS.istore X6.here hx rfl (hb hby at_82) rfl (l' := #[.val (.int p1), .val (.int p2), .val (.int p3), .val (.int p4), .val (.int p5), .val (.int x), .val (.int y), .val (.int (own_min x y)), .val (.int (own_max x y)), .val (.int u1), .val (.int u2), .val (.int (own_min u1 u2)), .val (.int (own_max u1 u2)), .unset, .unset, .unset, .unset]) rfl kq_) ?_
      show Gl p e below _ (T6.setTop (mkF m 84 #[.val (.int p1), .val (.int p2), .val (.int p3), .val (.int p4), .val (.int p5), .val (.int x), .val (.int y), .val (.int (own_min x y)), .val (.int (own_max x y)), .val (.int u1), .val (.int u2), .val (.int (own_min u1 u2)), .val (.int (own_max u1 u2)), .unset, .unset, .unset, .unset] []))
      obtain ⟨T7, h7, X7, e7, E7, A7, D7, -, st7⟩ := newO X6 hx hZ hown (w8 hw) (w9 hw) (w10 hw) e6 (g := (mkF m 84 #[.val (.int p1), .val (.int p2), .val (.int p3), .val (.int p4), .val (.int p5), .val (.int x), .val (.int y), .val (.int (own_min x y)), .val (.int (own_max x y)), .val (.int u1), .val (.int u2), .val (.int (own_min u1 u2)), .val (.int (own_max u1 u2)), .unset, .unset, .unset, .unset] [])) rfl (hb hby at_84) (by decide) (by decide)
      obtain ⟨b7, g7⟩ : ∃ z, z = h0.size := ⟨_, rfl⟩
      rw [← g7] at A7 D7 st7
      refine Gl.of st7 ?_
      have Gb7 : n0 ≤ b7 := Nat.le_trans (O0.1 ▸ O0.2.1) (Nat.le_of_eq g7.symm)
      have O7 := O0.ext E7
      have F7_start : Fld Z h7 b7 "com/example/sitterson/sitterson/text/Span" "start" "I" (.int (0 : Int32)) := D7 (Or.inr (w18 hw)) (ty := .int) (by decide)
      have F7_end : Fld Z h7 b7 "com/example/sitterson/sitterson/text/Span" "end" "I" (.int (0 : Int32)) := D7 (Or.inr (w20 hw)) (ty := .int) (by decide)
      show Gl p e below _ (T7.setTop (mkF m 87 #[.val (.int p1), .val (.int p2), .val (.int p3), .val (.int p4), .val (.int p5), .val (.int x), .val (.int y), .val (.int (own_min x y)), .val (.int (own_max x y)), .val (.int u1), .val (.int u2), .val (.int (own_min u1 u2)), .val (.int (own_max u1 u2)), .unset, .unset, .unset, .unset] [(.ref b7)]))
      refine Gl.of (fun _ kq_ => XS.dup X7.here hx rfl (hb hby at_87) rfl rfl kq_) ?_
      show Gl p e below _ (T7.setTop (mkF m 88 #[.val (.int p1), .val (.int p2), .val (.int p3), .val (.int p4), .val (.int p5), .val (.int x), .val (.int y), .val (.int (own_min x y)), .val (.int (own_max x y)), .val (.int u1), .val (.int u2), .val (.int (own_min u1 u2)), .val (.int (own_max u1 u2)), .unset, .unset, .unset, .unset] [(.ref b7), (.ref b7)]))
      refine Gl.of (fun _ kq_ => XS.iload X7.here hx rfl (hb hby at_88) rfl kq_) ?_
      show Gl p e below _ (T7.setTop (mkF m 90 #[.val (.int p1), .val (.int p2), .val (.int p3), .val (.int p4), .val (.int p5), .val (.int x), .val (.int y), .val (.int (own_min x y)), .val (.int (own_max x y)), .val (.int u1), .val (.int u2), .val (.int (own_min u1 u2)), .val (.int (own_max u1 u2)), .unset, .unset, .unset, .unset] [(.int (own_min x y)), (.ref b7), (.ref b7)]))
      refine Gl.of (fun _ kq_ => XS.iload X7.here hx rfl (hb hby at_90) rfl kq_) ?_
      show Gl p e below _ (T7.setTop (mkF m 92 #[.val (.int p1), .val (.int p2), .val (.int p3), .val (.int p4), .val (.int p5), .val (.int x), .val (.int y), .val (.int (own_min x y)), .val (.int (own_max x y)), .val (.int u1), .val (.int u2), .val (.int (own_min u1 u2)), .val (.int (own_max u1 u2)), .unset, .unset, .unset, .unset] [(.int (own_max x y)), (.int (own_min x y)), (.ref b7), (.ref b7)]))
      refine Gl.callI X7 hx hZ (y := (⟨"com/example/sitterson/sitterson/text/Span", "<init>", "(II)V"⟩ : MethodName)) rfl hown (w11 hw) (w12 hw) (w10 hw) (w13 hw) (desc_ne (by decide)) (rm := { frames := 1, cells := 0, slots := 0, locals := 12 }) (b := b7) (argsL := [(.int (own_min x y)), (.int (own_max x y))]) (rest := [(.ref b7)]) (rm3 l Z a0 hw _ b7 (own_min x y) (own_max x y) n0 A7 F7_start F7_end Gb7 (own_mn hx' hy') (own_mx _ _)) 1 (by decide) (by decide) (by decide) (by decide) e7 (pc := 92) (Ls := #[.val (.int p1), .val (.int p2), .val (.int p3), .val (.int p4), .val (.int p5), .val (.int x), .val (.int y), .val (.int (own_min x y)), .val (.int (own_max x y)), .val (.int u1), .val (.int u2), .val (.int (own_min u1 u2)), .val (.int (own_max u1 u2)), .unset, .unset, .unset, .unset]) (st := [(.int (own_max x y)), (.int (own_min x y)), (.ref b7), (.ref b7)]) (by rw [hml]; rfl) pd_3 rfl rfl (Nat.le_of_eq rfl) (hb hby at_92) ?_
      intro v8 T8 L8 X8 hQ8
      obtain ⟨rfl, Nq8, Kq8, F8a, F8b⟩ := hQ8
      have N8 := Fr.app (Fr.nil n0) Nq8
      have ec9 := A7.keep Kq8
      have O8 := O7.keep Kq8 (allS Gb7 all0)
      show Gl p e below _ (T8.setTop (mkF m 95 #[.val (.int p1), .val (.int p2), .val (.int p3), .val (.int p4), .val (.int p5), .val (.int x), .val (.int y), .val (.int (own_min x y)), .val (.int (own_max x y)), .val (.int u1), .val (.int u2), .val (.int (own_min u1 u2)), .val (.int (own_max u1 u2)), .unset, .unset, .unset, .unset] [(.ref b7)]))
      refine Gl.of (fun _ kq_ => XS.astore X8.here hx rfl (hb hby at_95) rfl rfl (l' := #[.val (.int p1), .val (.int p2), .val (.int p3), .val (.int p4), .val (.int p5), .val (.int x), .val (.int y), .val (.int (own_min x y)), .val (.int (own_max x y)), .val (.int u1), .val (.int u2), .val (.int (own_min u1 u2)), .val (.int (own_max u1 u2)), .val (.ref b7), .unset, .unset, .unset]) rfl kq_) ?_
      show Gl p e below _ (T8.setTop (mkF m 97 #[.val (.int p1), .val (.int p2), .val (.int p3), .val (.int p4), .val (.int p5), .val (.int x), .val (.int y), .val (.int (own_min x y)), .val (.int (own_max x y)), .val (.int u1), .val (.int u2), .val (.int (own_min u1 u2)), .val (.int (own_max u1 u2)), .val (.ref b7), .unset, .unset, .unset] []))
      obtain ⟨T10, h10, X10, e10, E10, A10, D10, -, st10⟩ := newO X8 hx hZ hown (w8 hw) (w9 hw) (w10 hw) rfl (g := (mkF m 97 #[.val (.int p1), .val (.int p2), .val (.int p3), .val (.int p4), .val (.int p5), .val (.int x), .val (.int y), .val (.int (own_min x y)), .val (.int (own_max x y)), .val (.int u1), .val (.int u2), .val (.int (own_min u1 u2)), .val (.int (own_max u1 u2)), .val (.ref b7), .unset, .unset, .unset] [])) rfl (hb hby at_97) (by decide) (by decide)
      obtain ⟨b10, g10⟩ : ∃ z, z = T8.heap.size := ⟨_, rfl⟩
      rw [← g10] at A10 D10 st10
      refine Gl.of st10 ?_
      have Gb10 : n0 ≤ b10 := Nat.le_trans (O8.1 ▸ O8.2.1) (Nat.le_of_eq g10.symm)
      have ne_b7_b10 : b7 ≠ b10 := Nat.ne_of_lt (Nat.lt_of_lt_of_le ec9.lt (Nat.le_of_eq g10.symm))
      have ec11 := ec9.ext E10
      have fc12 := F8a.ext E10
      have fc13 := F8b.ext E10
      have O10 := O8.ext E10
      have F10_start : Fld Z h10 b10 "com/example/sitterson/sitterson/text/Span" "start" "I" (.int (0 : Int32)) := D10 (Or.inr (w18 hw)) (ty := .int) (by decide)
      have F10_end : Fld Z h10 b10 "com/example/sitterson/sitterson/text/Span" "end" "I" (.int (0 : Int32)) := D10 (Or.inr (w20 hw)) (ty := .int) (by decide)
      show Gl p e below _ (T10.setTop (mkF m 100 #[.val (.int p1), .val (.int p2), .val (.int p3), .val (.int p4), .val (.int p5), .val (.int x), .val (.int y), .val (.int (own_min x y)), .val (.int (own_max x y)), .val (.int u1), .val (.int u2), .val (.int (own_min u1 u2)), .val (.int (own_max u1 u2)), .val (.ref b7), .unset, .unset, .unset] [(.ref b10)]))
      refine Gl.of (fun _ kq_ => XS.dup X10.here hx rfl (hb hby at_100) rfl rfl kq_) ?_
      show Gl p e below _ (T10.setTop (mkF m 101 #[.val (.int p1), .val (.int p2), .val (.int p3), .val (.int p4), .val (.int p5), .val (.int x), .val (.int y), .val (.int (own_min x y)), .val (.int (own_max x y)), .val (.int u1), .val (.int u2), .val (.int (own_min u1 u2)), .val (.int (own_max u1 u2)), .val (.ref b7), .unset, .unset, .unset] [(.ref b10), (.ref b10)]))
      refine Gl.of (fun _ kq_ => XS.iload X10.here hx rfl (hb hby at_101) rfl kq_) ?_
      show Gl p e below _ (T10.setTop (mkF m 103 #[.val (.int p1), .val (.int p2), .val (.int p3), .val (.int p4), .val (.int p5), .val (.int x), .val (.int y), .val (.int (own_min x y)), .val (.int (own_max x y)), .val (.int u1), .val (.int u2), .val (.int (own_min u1 u2)), .val (.int (own_max u1 u2)), .val (.ref b7), .unset, .unset, .unset] [(.int (own_min u1 u2)), (.ref b10), (.ref b10)]))
      refine Gl.of (fun _ kq_ => XS.iload X10.here hx rfl (hb hby at_103) rfl kq_) ?_
      show Gl p e below _ (T10.setTop (mkF m 105 #[.val (.int p1), .val (.int p2), .val (.int p3), .val (.int p4), .val (.int p5), .val (.int x), .val (.int y), .val (.int (own_min x y)), .val (.int (own_max x y)), .val (.int u1), .val (.int u2), .val (.int (own_min u1 u2)), .val (.int (own_max u1 u2)), .val (.ref b7), .unset, .unset, .unset] [(.int (own_max u1 u2)), (.int (own_min u1 u2)), (.ref b10), (.ref b10)]))
      refine Gl.callI X10 hx hZ (y := (⟨"com/example/sitterson/sitterson/text/Span", "<init>", "(II)V"⟩ : MethodName)) rfl hown (w11 hw) (w12 hw) (w10 hw) (w13 hw) (desc_ne (by decide)) (rm := { frames := 1, cells := 0, slots := 0, locals := 12 }) (b := b10) (argsL := [(.int (own_min u1 u2)), (.int (own_max u1 u2))]) (rest := [(.ref b10)]) (rm3 l Z a0 hw _ b10 (own_min u1 u2) (own_max u1 u2) n0 A10 F10_start F10_end Gb10 (own_mn hu1 hu2) (own_mx _ _)) 1 (by decide) (by decide) (by decide) (by decide) e10 (pc := 105) (Ls := #[.val (.int p1), .val (.int p2), .val (.int p3), .val (.int p4), .val (.int p5), .val (.int x), .val (.int y), .val (.int (own_min x y)), .val (.int (own_max x y)), .val (.int u1), .val (.int u2), .val (.int (own_min u1 u2)), .val (.int (own_max u1 u2)), .val (.ref b7), .unset, .unset, .unset]) (st := [(.int (own_max u1 u2)), (.int (own_min u1 u2)), (.ref b10), (.ref b10)]) (by rw [hml]; rfl) pd_3 rfl rfl (Nat.le_of_eq rfl) (hb hby at_105) ?_
      intro v14 T14 L14 X14 hQ14
      obtain ⟨rfl, Nq14, Kq14, F14a, F14b⟩ := hQ14
      have N14 := Fr.app N8 Nq14
      have ec15 := ec11.keep Kq14
      have fc16 := fc12.keep Kq14 (fun q => ne_b7_b10 (List.mem_singleton.mp q))
      have fc17 := fc13.keep Kq14 (fun q => ne_b7_b10 (List.mem_singleton.mp q))
      have ec18 := A10.keep Kq14
      have O14 := O10.keep Kq14 (allS Gb10 all0)
      show Gl p e below _ (T14.setTop (mkF m 108 #[.val (.int p1), .val (.int p2), .val (.int p3), .val (.int p4), .val (.int p5), .val (.int x), .val (.int y), .val (.int (own_min x y)), .val (.int (own_max x y)), .val (.int u1), .val (.int u2), .val (.int (own_min u1 u2)), .val (.int (own_max u1 u2)), .val (.ref b7), .unset, .unset, .unset] [(.ref b10)]))
      refine Gl.of (fun _ kq_ => XS.astore X14.here hx rfl (hb hby at_108) rfl rfl (l' := #[.val (.int p1), .val (.int p2), .val (.int p3), .val (.int p4), .val (.int p5), .val (.int x), .val (.int y), .val (.int (own_min x y)), .val (.int (own_max x y)), .val (.int u1), .val (.int u2), .val (.int (own_min u1 u2)), .val (.int (own_max u1 u2)), .val (.ref b7), .val (.ref b10), .unset, .unset]) rfl kq_) ?_
      show Gl p e below _ (T14.setTop (mkF m 110 #[.val (.int p1), .val (.int p2), .val (.int p3), .val (.int p4), .val (.int p5), .val (.int x), .val (.int y), .val (.int (own_min x y)), .val (.int (own_max x y)), .val (.int u1), .val (.int u2), .val (.int (own_min u1 u2)), .val (.int (own_max u1 u2)), .val (.ref b7), .val (.ref b10), .unset, .unset] []))
      refine Gl.of (fun _ kq_ => XS.iload X14.here hx rfl (hb hby at_110) rfl kq_) ?_
      show Gl p e below _ (T14.setTop (mkF m 112 #[.val (.int p1), .val (.int p2), .val (.int p3), .val (.int p4), .val (.int p5), .val (.int x), .val (.int y), .val (.int (own_min x y)), .val (.int (own_max x y)), .val (.int u1), .val (.int u2), .val (.int (own_min u1 u2)), .val (.int (own_max u1 u2)), .val (.ref b7), .val (.ref b10), .unset, .unset] [(.int p5)]))
      refine Gl.of (fun _ kq_ => XS.iconst X14.here hx rfl (hb hby at_112) kq_) ?_
      show Gl p e below _ (T14.setTop (mkF m 113 #[.val (.int p1), .val (.int p2), .val (.int p3), .val (.int p4), .val (.int p5), .val (.int x), .val (.int y), .val (.int (own_min x y)), .val (.int (own_max x y)), .val (.int u1), .val (.int u2), .val (.int (own_min u1 u2)), .val (.int (own_max u1 u2)), .val (.ref b7), .val (.ref b10), .unset, .unset] [(.int (2 : Int32)), (.int p5)]))
      refine Gl.of (fun _ kq_ => XS.iushr X14.here hx rfl (hb hby at_113) rfl kq_) ?_
      show Gl p e below _ (T14.setTop (mkF m 114 #[.val (.int p1), .val (.int p2), .val (.int p3), .val (.int p4), .val (.int p5), .val (.int x), .val (.int y), .val (.int (own_min x y)), .val (.int (own_max x y)), .val (.int u1), .val (.int u2), .val (.int (own_min u1 u2)), .val (.int (own_max u1 u2)), .val (.ref b7), .val (.ref b10), .unset, .unset] [(.int ((p5.toUInt32 >>> ((2 : Int32) &&& 31).toUInt32).toInt32))]))
      refine Gl.of (fun _ kq_ => XS.iconst X14.here hx rfl (hb hby at_114) kq_) ?_
      show Gl p e below _ (T14.setTop (mkF m 115 #[.val (.int p1), .val (.int p2), .val (.int p3), .val (.int p4), .val (.int p5), .val (.int x), .val (.int y), .val (.int (own_min x y)), .val (.int (own_max x y)), .val (.int u1), .val (.int u2), .val (.int (own_min u1 u2)), .val (.int (own_max u1 u2)), .val (.ref b7), .val (.ref b10), .unset, .unset] [(.int (3 : Int32)), (.int ((p5.toUInt32 >>> ((2 : Int32) &&& 31).toUInt32).toInt32))]))
      refine Gl.of (fun _ kq_ => XS.iand X14.here hx rfl (hb hby at_115) rfl kq_) ?_
      show Gl p e below _ (T14.setTop (mkF m 116 #[.val (.int p1), .val (.int p2), .val (.int p3), .val (.int p4), .val (.int p5), .val (.int x), .val (.int y), .val (.int (own_min x y)), .val (.int (own_max x y)), .val (.int u1), .val (.int u2), .val (.int (own_min u1 u2)), .val (.int (own_max u1 u2)), .val (.ref b7), .val (.ref b10), .unset, .unset] [(.int (((p5.toUInt32 >>> ((2 : Int32) &&& 31).toUInt32).toInt32) &&& (3 : Int32)))]))
      refine Gl.of (fun _ kq_ => XS.istore X14.here hx rfl (hb hby at_116) rfl (l' := #[.val (.int p1), .val (.int p2), .val (.int p3), .val (.int p4), .val (.int p5), .val (.int x), .val (.int y), .val (.int (own_min x y)), .val (.int (own_max x y)), .val (.int u1), .val (.int u2), .val (.int (own_min u1 u2)), .val (.int (own_max u1 u2)), .val (.ref b7), .val (.ref b10), .val (.int (((p5.toUInt32 >>> ((2 : Int32) &&& 31).toUInt32).toInt32) &&& (3 : Int32))), .unset]) rfl kq_) ?_
      show Gl p e below _ (T14.setTop (mkF m 118 #[.val (.int p1), .val (.int p2), .val (.int p3), .val (.int p4), .val (.int p5), .val (.int x), .val (.int y), .val (.int (own_min x y)), .val (.int (own_max x y)), .val (.int u1), .val (.int u2), .val (.int (own_min u1 u2)), .val (.int (own_max u1 u2)), .val (.ref b7), .val (.ref b10), .val (.int (((p5.toUInt32 >>> ((2 : Int32) &&& 31).toUInt32).toInt32) &&& (3 : Int32))), .unset] []))
      refine Gl.of (fun _ kq_ => XS.iload X14.here hx rfl (hb hby at_118) rfl kq_) ?_
      show Gl p e below _ (T14.setTop (mkF m 120 #[.val (.int p1), .val (.int p2), .val (.int p3), .val (.int p4), .val (.int p5), .val (.int x), .val (.int y), .val (.int (own_min x y)), .val (.int (own_max x y)), .val (.int u1), .val (.int u2), .val (.int (own_min u1 u2)), .val (.int (own_max u1 u2)), .val (.ref b7), .val (.ref b10), .val (.int (((p5.toUInt32 >>> ((2 : Int32) &&& 31).toUInt32).toInt32) &&& (3 : Int32))), .unset] [(.int (((p5.toUInt32 >>> ((2 : Int32) &&& 31).toUInt32).toInt32) &&& (3 : Int32)))]))
      refine Gl.of (fun _ kq_ => XS.iconst X14.here hx rfl (hb hby at_120) kq_) ?_
      show Gl p e below _ (T14.setTop (mkF m 121 #[.val (.int p1), .val (.int p2), .val (.int p3), .val (.int p4), .val (.int p5), .val (.int x), .val (.int y), .val (.int (own_min x y)), .val (.int (own_max x y)), .val (.int u1), .val (.int u2), .val (.int (own_min u1 u2)), .val (.int (own_max u1 u2)), .val (.ref b7), .val (.ref b10), .val (.int (((p5.toUInt32 >>> ((2 : Int32) &&& 31).toUInt32).toInt32) &&& (3 : Int32))), .unset] [(.int (2 : Int32)), (.int (((p5.toUInt32 >>> ((2 : Int32) &&& 31).toUInt32).toInt32) &&& (3 : Int32)))]))
      by_cases hc121_19 : (((p5.toUInt32 >>> ((2 : Int32) &&& 31).toUInt32).toInt32) &&& (3 : Int32)) = (2 : Int32)
      · refine Gl.of (fun _ kq_ => XS.icmpNo X14.here hx rfl (hb hby at_121) rfl (teq hc121_19).2 kq_) ?_
        show Gl p e below _ (T14.setTop (mkF m 124 #[.val (.int p1), .val (.int p2), .val (.int p3), .val (.int p4), .val (.int p5), .val (.int x), .val (.int y), .val (.int (own_min x y)), .val (.int (own_max x y)), .val (.int u1), .val (.int u2), .val (.int (own_min u1 u2)), .val (.int (own_max u1 u2)), .val (.ref b7), .val (.ref b10), .val (.int (((p5.toUInt32 >>> ((2 : Int32) &&& 31).toUInt32).toInt32) &&& (3 : Int32))), .unset] []))
        refine Gl.of (fun _ kq_ => XS.iload X14.here hx rfl (hb hby at_124) rfl kq_) ?_
        show Gl p e below _ (T14.setTop (mkF m 126 #[.val (.int p1), .val (.int p2), .val (.int p3), .val (.int p4), .val (.int p5), .val (.int x), .val (.int y), .val (.int (own_min x y)), .val (.int (own_max x y)), .val (.int u1), .val (.int u2), .val (.int (own_min u1 u2)), .val (.int (own_max u1 u2)), .val (.ref b7), .val (.ref b10), .val (.int (((p5.toUInt32 >>> ((2 : Int32) &&& 31).toUInt32).toInt32) &&& (3 : Int32))), .unset] [(.int (own_min x y))]))
        refine Gl.callS X14 hx hZ (y := (⟨"java/lang/Integer", "valueOf", "(I)Ljava/lang/Integer;"⟩ : MethodName)) hown (w28 hw) (w29 hw) (w30 hw) (w31 hw) (desc_ne (by decide)) (rm := { frames := 3, cells := 1, slots := 1, locals := 38 }) (argsL := [(.int (own_min x y))]) (rest := []) (rm7 l Z a0 hw _ (own_min x y) ac clc n0 S1 S2 BX O14 (own_mn hx' hy')) 0 (by decide) (by decide) (by decide) (by decide) rfl (pc := 126) (Ls := #[.val (.int p1), .val (.int p2), .val (.int p3), .val (.int p4), .val (.int p5), .val (.int x), .val (.int y), .val (.int (own_min x y)), .val (.int (own_max x y)), .val (.int u1), .val (.int u2), .val (.int (own_min u1 u2)), .val (.int (own_max u1 u2)), .val (.ref b7), .val (.ref b10), .val (.int (((p5.toUInt32 >>> ((2 : Int32) &&& 31).toUInt32).toInt32) &&& (3 : Int32))), .unset]) (st := [(.int (own_min x y))]) (by rw [hml]; rfl) pd_4 rfl rfl (Nat.le_of_eq rfl) (hb hby at_126) ?_
        intro v20 T20 L20 X20 hQ20
        obtain ⟨bo20, rfl, Eo20, Kq20, Nq20⟩ := hQ20
        have N20 := Fr.app N14 Nq20
        have ec21 := ec15.keep Kq20
        have fc22 := fc16.keep Kq20 (by simp)
        have fc23 := fc17.keep Kq20 (by simp)
        have ec24 := ec18.keep Kq20
        have fc25 := F14a.keep Kq20 (by simp)
        have fc26 := F14b.keep Kq20 (by simp)
        have O20 := O14.keep Kq20 all0
        show Gl p e below _ (T20.setTop (mkF m 129 #[.val (.int p1), .val (.int p2), .val (.int p3), .val (.int p4), .val (.int p5), .val (.int x), .val (.int y), .val (.int (own_min x y)), .val (.int (own_max x y)), .val (.int u1), .val (.int u2), .val (.int (own_min u1 u2)), .val (.int (own_max u1 u2)), .val (.ref b7), .val (.ref b10), .val (.int (((p5.toUInt32 >>> ((2 : Int32) &&& 31).toUInt32).toInt32) &&& (3 : Int32))), .unset] [(.ref bo20)]))
        refine Gl.of (fun _ kq_ => XS.astore X20.here hx rfl (hb hby at_129) rfl rfl (l' := #[.val (.int p1), .val (.int p2), .val (.int p3), .val (.int p4), .val (.int p5), .val (.int x), .val (.int y), .val (.int (own_min x y)), .val (.int (own_max x y)), .val (.int u1), .val (.int u2), .val (.int (own_min u1 u2)), .val (.int (own_max u1 u2)), .val (.ref b7), .val (.ref b10), .val (.int (((p5.toUInt32 >>> ((2 : Int32) &&& 31).toUInt32).toInt32) &&& (3 : Int32))), .val (.ref bo20)]) rfl kq_) ?_
        show Gl p e below _ (T20.setTop (mkF m 131 #[.val (.int p1), .val (.int p2), .val (.int p3), .val (.int p4), .val (.int p5), .val (.int x), .val (.int y), .val (.int (own_min x y)), .val (.int (own_max x y)), .val (.int u1), .val (.int u2), .val (.int (own_min u1 u2)), .val (.int (own_max u1 u2)), .val (.ref b7), .val (.ref b10), .val (.int (((p5.toUInt32 >>> ((2 : Int32) &&& 31).toUInt32).toInt32) &&& (3 : Int32))), .val (.ref bo20)] []))
        refine Gl.of (fun _ kq_ => XS.aload X20.here hx rfl (hb hby at_131) rfl rfl kq_) ?_
        show Gl p e below _ (T20.setTop (mkF m 133 #[.val (.int p1), .val (.int p2), .val (.int p3), .val (.int p4), .val (.int p5), .val (.int x), .val (.int y), .val (.int (own_min x y)), .val (.int (own_max x y)), .val (.int u1), .val (.int u2), .val (.int (own_min u1 u2)), .val (.int (own_max u1 u2)), .val (.ref b7), .val (.ref b10), .val (.int (((p5.toUInt32 >>> ((2 : Int32) &&& 31).toUInt32).toInt32) &&& (3 : Int32))), .val (.ref bo20)] [(.ref b7)]))
        refine Gl.of (fun _ kq_ => XS.aload X20.here hx rfl (hb hby at_133) rfl rfl kq_) ?_
        show Gl p e below _ (T20.setTop (mkF m 135 #[.val (.int p1), .val (.int p2), .val (.int p3), .val (.int p4), .val (.int p5), .val (.int x), .val (.int y), .val (.int (own_min x y)), .val (.int (own_max x y)), .val (.int u1), .val (.int u2), .val (.int (own_min u1 u2)), .val (.int (own_max u1 u2)), .val (.ref b7), .val (.ref b10), .val (.int (((p5.toUInt32 >>> ((2 : Int32) &&& 31).toUInt32).toInt32) &&& (3 : Int32))), .val (.ref bo20)] [(.ref bo20), (.ref b7)]))
        refine Gl.callV0 X20 hx hZ (y := (⟨"com/example/sitterson/sitterson/text/Span", "equals", "(Ljava/lang/Object;)Z"⟩ : MethodName)) (z := (⟨"com/example/sitterson/sitterson/text/Span", "equals", "(Ljava/lang/Object;)Z"⟩ : MethodName)) hown (w21 hw) (w22 hw) (notFace_of_selects (args := #[]) (mvT hZ (w24 hw))) (w24 hw) (w23 hw) (w25 hw) (w10 hw) (desc_ne (by decide)) (b := b7) (argsL := [(.ref bo20)]) (rest := []) ec21 (rm4i l Z a0 hw _ b7 bo20 Eo20) 0 (by decide) (by decide) rfl (pc := 135) (Ls := #[.val (.int p1), .val (.int p2), .val (.int p3), .val (.int p4), .val (.int p5), .val (.int x), .val (.int y), .val (.int (own_min x y)), .val (.int (own_max x y)), .val (.int u1), .val (.int u2), .val (.int (own_min u1 u2)), .val (.int (own_max u1 u2)), .val (.ref b7), .val (.ref b10), .val (.int (((p5.toUInt32 >>> ((2 : Int32) &&& 31).toUInt32).toInt32) &&& (3 : Int32))), .val (.ref bo20)]) (st := [(.ref bo20), (.ref b7)]) (by rw [hml]; rfl) pd_5 rfl rfl (Nat.le_of_eq rfl) (hb hby at_135) (by decide) (by decide) ?_
        intro v27 T27 X27 e27 hv27
        subst hv27
        show Gl p e below _ (T27.setTop (mkF m 138 #[.val (.int p1), .val (.int p2), .val (.int p3), .val (.int p4), .val (.int p5), .val (.int x), .val (.int y), .val (.int (own_min x y)), .val (.int (own_max x y)), .val (.int u1), .val (.int u2), .val (.int (own_min u1 u2)), .val (.int (own_max u1 u2)), .val (.ref b7), .val (.ref b10), .val (.int (((p5.toUInt32 >>> ((2 : Int32) &&& 31).toUInt32).toInt32) &&& (3 : Int32))), .val (.ref bo20)] [(.int (0 : Int32))]))
        refine Gl.of (fun _ kq_ => XS.ifNo X27.here hx rfl (hb hby at_138) rfl ((if0 _ _).trans (teq (by decide : (0 : Int32) = (0 : Int32))).2) kq_) ?_
        show Gl p e below _ (T27.setTop (mkF m 141 #[.val (.int p1), .val (.int p2), .val (.int p3), .val (.int p4), .val (.int p5), .val (.int x), .val (.int y), .val (.int (own_min x y)), .val (.int (own_max x y)), .val (.int u1), .val (.int u2), .val (.int (own_min u1 u2)), .val (.int (own_max u1 u2)), .val (.ref b7), .val (.ref b10), .val (.int (((p5.toUInt32 >>> ((2 : Int32) &&& 31).toUInt32).toInt32) &&& (3 : Int32))), .val (.ref bo20)] []))
        refine Gl.of (fun _ kq_ => XS.iconst X27.here hx rfl (hb hby at_141) kq_) ?_
        show Gl p e below _ (T27.setTop (mkF m 142 #[.val (.int p1), .val (.int p2), .val (.int p3), .val (.int p4), .val (.int p5), .val (.int x), .val (.int y), .val (.int (own_min x y)), .val (.int (own_max x y)), .val (.int u1), .val (.int u2), .val (.int (own_min u1 u2)), .val (.int (own_max u1 u2)), .val (.ref b7), .val (.ref b10), .val (.int (((p5.toUInt32 >>> ((2 : Int32) &&& 31).toUInt32).toInt32) &&& (3 : Int32))), .val (.ref bo20)] [(.int (1 : Int32))]))
        refine Gl.of (fun _ kq_ => XS.goto X27.here hx rfl (pc0 := 142) (pc' := 146) rfl (hb hby at_142) (by decide) (by decide) kq_) ?_
        show Gl p e below _ (T27.setTop (mkF m 146 #[.val (.int p1), .val (.int p2), .val (.int p3), .val (.int p4), .val (.int p5), .val (.int x), .val (.int y), .val (.int (own_min x y)), .val (.int (own_max x y)), .val (.int u1), .val (.int u2), .val (.int (own_min u1 u2)), .val (.int (own_max u1 u2)), .val (.ref b7), .val (.ref b10), .val (.int (((p5.toUInt32 >>> ((2 : Int32) &&& 31).toUInt32).toInt32) &&& (3 : Int32))), .val (.ref bo20)] [(.int (1 : Int32))]))
        exact Gl.retN X27 hx hlk hret (by simp) (hb hby at_146) e27 (⟨rfl, N20⟩) (by decide) (by decide)
      · refine Gl.of (fun _ kq_ => XS.icmpYes X14.here hx rfl (pc0 := 121) (pc' := 147) rfl (hb hby at_121) rfl (feq hc121_19).2 (by decide) (by decide) kq_) ?_
        show Gl p e below _ (T14.setTop (mkF m 147 #[.val (.int p1), .val (.int p2), .val (.int p3), .val (.int p4), .val (.int p5), .val (.int x), .val (.int y), .val (.int (own_min x y)), .val (.int (own_max x y)), .val (.int u1), .val (.int u2), .val (.int (own_min u1 u2)), .val (.int (own_max u1 u2)), .val (.ref b7), .val (.ref b10), .val (.int (((p5.toUInt32 >>> ((2 : Int32) &&& 31).toUInt32).toInt32) &&& (3 : Int32))), .unset] []))
        refine Gl.of (fun _ kq_ => XS.iload X14.here hx rfl (hb hby at_147) rfl kq_) ?_
        show Gl p e below _ (T14.setTop (mkF m 149 #[.val (.int p1), .val (.int p2), .val (.int p3), .val (.int p4), .val (.int p5), .val (.int x), .val (.int y), .val (.int (own_min x y)), .val (.int (own_max x y)), .val (.int u1), .val (.int u2), .val (.int (own_min u1 u2)), .val (.int (own_max u1 u2)), .val (.ref b7), .val (.ref b10), .val (.int (((p5.toUInt32 >>> ((2 : Int32) &&& 31).toUInt32).toInt32) &&& (3 : Int32))), .unset] [(.int (((p5.toUInt32 >>> ((2 : Int32) &&& 31).toUInt32).toInt32) &&& (3 : Int32)))]))
        refine Gl.of (fun _ kq_ => XS.iconst X14.here hx rfl (hb hby at_149) kq_) ?_
        show Gl p e below _ (T14.setTop (mkF m 150 #[.val (.int p1), .val (.int p2), .val (.int p3), .val (.int p4), .val (.int p5), .val (.int x), .val (.int y), .val (.int (own_min x y)), .val (.int (own_max x y)), .val (.int u1), .val (.int u2), .val (.int (own_min u1 u2)), .val (.int (own_max u1 u2)), .val (.ref b7), .val (.ref b10), .val (.int (((p5.toUInt32 >>> ((2 : Int32) &&& 31).toUInt32).toInt32) &&& (3 : Int32))), .unset] [(.int (3 : Int32)), (.int (((p5.toUInt32 >>> ((2 : Int32) &&& 31).toUInt32).toInt32) &&& (3 : Int32)))]))
        by_cases hc150_28 : (((p5.toUInt32 >>> ((2 : Int32) &&& 31).toUInt32).toInt32) &&& (3 : Int32)) = (3 : Int32)
        · refine Gl.of (fun _ kq_ => XS.icmpNo X14.here hx rfl (hb hby at_150) rfl (teq hc150_28).2 kq_) ?_
          show Gl p e below _ (T14.setTop (mkF m 153 #[.val (.int p1), .val (.int p2), .val (.int p3), .val (.int p4), .val (.int p5), .val (.int x), .val (.int y), .val (.int (own_min x y)), .val (.int (own_max x y)), .val (.int u1), .val (.int u2), .val (.int (own_min u1 u2)), .val (.int (own_max u1 u2)), .val (.ref b7), .val (.ref b10), .val (.int (((p5.toUInt32 >>> ((2 : Int32) &&& 31).toUInt32).toInt32) &&& (3 : Int32))), .unset] []))
          refine Gl.of (fun _ kq_ => XS.iload X14.here hx rfl (hb hby at_153) rfl kq_) ?_
          show Gl p e below _ (T14.setTop (mkF m 155 #[.val (.int p1), .val (.int p2), .val (.int p3), .val (.int p4), .val (.int p5), .val (.int x), .val (.int y), .val (.int (own_min x y)), .val (.int (own_max x y)), .val (.int u1), .val (.int u2), .val (.int (own_min u1 u2)), .val (.int (own_max u1 u2)), .val (.ref b7), .val (.ref b10), .val (.int (((p5.toUInt32 >>> ((2 : Int32) &&& 31).toUInt32).toInt32) &&& (3 : Int32))), .unset] [(.int p5)]))
          refine Gl.of (fun _ kq_ => XS.bipush X14.here hx rfl (hb hby at_155) kq_) ?_
          show Gl p e below _ (T14.setTop (mkF m 157 #[.val (.int p1), .val (.int p2), .val (.int p3), .val (.int p4), .val (.int p5), .val (.int x), .val (.int y), .val (.int (own_min x y)), .val (.int (own_max x y)), .val (.int u1), .val (.int u2), .val (.int (own_min u1 u2)), .val (.int (own_max u1 u2)), .val (.ref b7), .val (.ref b10), .val (.int (((p5.toUInt32 >>> ((2 : Int32) &&& 31).toUInt32).toInt32) &&& (3 : Int32))), .unset] [(.int (16 : Int32)), (.int p5)]))
          refine Gl.of (fun _ kq_ => XS.iand X14.here hx rfl (hb hby at_157) rfl kq_) ?_
          show Gl p e below _ (T14.setTop (mkF m 158 #[.val (.int p1), .val (.int p2), .val (.int p3), .val (.int p4), .val (.int p5), .val (.int x), .val (.int y), .val (.int (own_min x y)), .val (.int (own_max x y)), .val (.int u1), .val (.int u2), .val (.int (own_min u1 u2)), .val (.int (own_max u1 u2)), .val (.ref b7), .val (.ref b10), .val (.int (((p5.toUInt32 >>> ((2 : Int32) &&& 31).toUInt32).toInt32) &&& (3 : Int32))), .unset] [(.int (p5 &&& (16 : Int32)))]))
          by_cases hc158_29 : (p5 &&& (16 : Int32)) = (0 : Int32)
          · refine Gl.of (fun _ kq_ => XS.ifYes X14.here hx rfl (pc0 := 158) (pc' := 169) rfl (hb hby at_158) rfl ((if0 _ _).trans (teq hc158_29).1) (by decide) (by decide) kq_) ?_
            show Gl p e below _ (T14.setTop (mkF m 169 #[.val (.int p1), .val (.int p2), .val (.int p3), .val (.int p4), .val (.int p5), .val (.int x), .val (.int y), .val (.int (own_min x y)), .val (.int (own_max x y)), .val (.int u1), .val (.int u2), .val (.int (own_min u1 u2)), .val (.int (own_max u1 u2)), .val (.ref b7), .val (.ref b10), .val (.int (((p5.toUInt32 >>> ((2 : Int32) &&& 31).toUInt32).toInt32) &&& (3 : Int32))), .unset] []))
            refine Gl.of (fun _ kq_ => XS.aload X14.here hx rfl (hb hby at_169) rfl rfl kq_) ?_
            show Gl p e below _ (T14.setTop (mkF m 171 #[.val (.int p1), .val (.int p2), .val (.int p3), .val (.int p4), .val (.int p5), .val (.int x), .val (.int y), .val (.int (own_min x y)), .val (.int (own_max x y)), .val (.int u1), .val (.int u2), .val (.int (own_min u1 u2)), .val (.int (own_max u1 u2)), .val (.ref b7), .val (.ref b10), .val (.int (((p5.toUInt32 >>> ((2 : Int32) &&& 31).toUInt32).toInt32) &&& (3 : Int32))), .unset] [(.ref b7)]))
            refine Gl.of (fun _ kq_ => XS.aconstNull X14.here hx rfl (hb hby at_171) kq_) ?_
            show Gl p e below _ (T14.setTop (mkF m 172 #[.val (.int p1), .val (.int p2), .val (.int p3), .val (.int p4), .val (.int p5), .val (.int x), .val (.int y), .val (.int (own_min x y)), .val (.int (own_max x y)), .val (.int u1), .val (.int u2), .val (.int (own_min u1 u2)), .val (.int (own_max u1 u2)), .val (.ref b7), .val (.ref b10), .val (.int (((p5.toUInt32 >>> ((2 : Int32) &&& 31).toUInt32).toInt32) &&& (3 : Int32))), .unset] [.null, (.ref b7)]))
            refine Gl.callV0 X14 hx hZ (y := (⟨"com/example/sitterson/sitterson/text/Span", "equals", "(Ljava/lang/Object;)Z"⟩ : MethodName)) (z := (⟨"com/example/sitterson/sitterson/text/Span", "equals", "(Ljava/lang/Object;)Z"⟩ : MethodName)) hown (w21 hw) (w22 hw) (notFace_of_selects (args := #[]) (mvT hZ (w24 hw))) (w24 hw) (w23 hw) (w25 hw) (w10 hw) (desc_ne (by decide)) (b := b7) (argsL := [.null]) (rest := []) ec15 (rm4n l Z a0 hw _ b7) 0 (by decide) (by decide) rfl (pc := 172) (Ls := #[.val (.int p1), .val (.int p2), .val (.int p3), .val (.int p4), .val (.int p5), .val (.int x), .val (.int y), .val (.int (own_min x y)), .val (.int (own_max x y)), .val (.int u1), .val (.int u2), .val (.int (own_min u1 u2)), .val (.int (own_max u1 u2)), .val (.ref b7), .val (.ref b10), .val (.int (((p5.toUInt32 >>> ((2 : Int32) &&& 31).toUInt32).toInt32) &&& (3 : Int32))), .unset]) (st := [.null, (.ref b7)]) (by rw [hml]; rfl) pd_5 rfl rfl (Nat.le_of_eq rfl) (hb hby at_172) (by decide) (by decide) ?_
            intro v30 T30 X30 e30 hv30
            subst hv30
            show Gl p e below _ (T30.setTop (mkF m 175 #[.val (.int p1), .val (.int p2), .val (.int p3), .val (.int p4), .val (.int p5), .val (.int x), .val (.int y), .val (.int (own_min x y)), .val (.int (own_max x y)), .val (.int u1), .val (.int u2), .val (.int (own_min u1 u2)), .val (.int (own_max u1 u2)), .val (.ref b7), .val (.ref b10), .val (.int (((p5.toUInt32 >>> ((2 : Int32) &&& 31).toUInt32).toInt32) &&& (3 : Int32))), .unset] [(.int (0 : Int32))]))
            refine Gl.of (fun _ kq_ => XS.ifNo X30.here hx rfl (hb hby at_175) rfl ((if0 _ _).trans (teq (by decide : (0 : Int32) = (0 : Int32))).2) kq_) ?_
            show Gl p e below _ (T30.setTop (mkF m 178 #[.val (.int p1), .val (.int p2), .val (.int p3), .val (.int p4), .val (.int p5), .val (.int x), .val (.int y), .val (.int (own_min x y)), .val (.int (own_max x y)), .val (.int u1), .val (.int u2), .val (.int (own_min u1 u2)), .val (.int (own_max u1 u2)), .val (.ref b7), .val (.ref b10), .val (.int (((p5.toUInt32 >>> ((2 : Int32) &&& 31).toUInt32).toInt32) &&& (3 : Int32))), .unset] []))
            refine Gl.of (fun _ kq_ => XS.iconst X30.here hx rfl (hb hby at_178) kq_) ?_
            show Gl p e below _ (T30.setTop (mkF m 179 #[.val (.int p1), .val (.int p2), .val (.int p3), .val (.int p4), .val (.int p5), .val (.int x), .val (.int y), .val (.int (own_min x y)), .val (.int (own_max x y)), .val (.int u1), .val (.int u2), .val (.int (own_min u1 u2)), .val (.int (own_max u1 u2)), .val (.ref b7), .val (.ref b10), .val (.int (((p5.toUInt32 >>> ((2 : Int32) &&& 31).toUInt32).toInt32) &&& (3 : Int32))), .unset] [(.int (1 : Int32))]))
            refine Gl.of (fun _ kq_ => XS.goto X30.here hx rfl (pc0 := 179) (pc' := 183) rfl (hb hby at_179) (by decide) (by decide) kq_) ?_
            show Gl p e below _ (T30.setTop (mkF m 183 #[.val (.int p1), .val (.int p2), .val (.int p3), .val (.int p4), .val (.int p5), .val (.int x), .val (.int y), .val (.int (own_min x y)), .val (.int (own_max x y)), .val (.int u1), .val (.int u2), .val (.int (own_min u1 u2)), .val (.int (own_max u1 u2)), .val (.ref b7), .val (.ref b10), .val (.int (((p5.toUInt32 >>> ((2 : Int32) &&& 31).toUInt32).toInt32) &&& (3 : Int32))), .unset] [(.int (1 : Int32))]))
            exact Gl.retN X30 hx hlk hret (by simp) (hb hby at_183) e30 (⟨rfl, N14⟩) (by decide) (by decide)
          · refine Gl.of (fun _ kq_ => XS.ifNo X14.here hx rfl (hb hby at_158) rfl ((if0 _ _).trans (feq hc158_29).1) kq_) ?_
            show Gl p e below _ (T14.setTop (mkF m 161 #[.val (.int p1), .val (.int p2), .val (.int p3), .val (.int p4), .val (.int p5), .val (.int x), .val (.int y), .val (.int (own_min x y)), .val (.int (own_max x y)), .val (.int u1), .val (.int u2), .val (.int (own_min u1 u2)), .val (.int (own_max u1 u2)), .val (.ref b7), .val (.ref b10), .val (.int (((p5.toUInt32 >>> ((2 : Int32) &&& 31).toUInt32).toInt32) &&& (3 : Int32))), .unset] []))
            refine Gl.of (fun _ kq_ => XS.aload X14.here hx rfl (hb hby at_161) rfl rfl kq_) ?_
            show Gl p e below _ (T14.setTop (mkF m 163 #[.val (.int p1), .val (.int p2), .val (.int p3), .val (.int p4), .val (.int p5), .val (.int x), .val (.int y), .val (.int (own_min x y)), .val (.int (own_max x y)), .val (.int u1), .val (.int u2), .val (.int (own_min u1 u2)), .val (.int (own_max u1 u2)), .val (.ref b7), .val (.ref b10), .val (.int (((p5.toUInt32 >>> ((2 : Int32) &&& 31).toUInt32).toInt32) &&& (3 : Int32))), .unset] [(.ref b7)]))
            refine Gl.of (fun _ kq_ => XS.aload X14.here hx rfl (hb hby at_163) rfl rfl kq_) ?_
            show Gl p e below _ (T14.setTop (mkF m 165 #[.val (.int p1), .val (.int p2), .val (.int p3), .val (.int p4), .val (.int p5), .val (.int x), .val (.int y), .val (.int (own_min x y)), .val (.int (own_max x y)), .val (.int u1), .val (.int u2), .val (.int (own_min u1 u2)), .val (.int (own_max u1 u2)), .val (.ref b7), .val (.ref b10), .val (.int (((p5.toUInt32 >>> ((2 : Int32) &&& 31).toUInt32).toInt32) &&& (3 : Int32))), .unset] [(.ref b7), (.ref b7)]))
            refine Gl.callV0 X14 hx hZ (y := (⟨"com/example/sitterson/sitterson/text/Span", "equals", "(Ljava/lang/Object;)Z"⟩ : MethodName)) (z := (⟨"com/example/sitterson/sitterson/text/Span", "equals", "(Ljava/lang/Object;)Z"⟩ : MethodName)) hown (w21 hw) (w22 hw) (notFace_of_selects (args := #[]) (mvT hZ (w24 hw))) (w24 hw) (w23 hw) (w25 hw) (w10 hw) (desc_ne (by decide)) (b := b7) (argsL := [(.ref b7)]) (rest := []) ec15 (rm4 l Z a0 hw _ b7 b7 (own_min x y) (own_max x y) (own_min x y) (own_max x y) ec15 fc16 fc17 fc16 fc17) 0 (by decide) (by decide) rfl (pc := 165) (Ls := #[.val (.int p1), .val (.int p2), .val (.int p3), .val (.int p4), .val (.int p5), .val (.int x), .val (.int y), .val (.int (own_min x y)), .val (.int (own_max x y)), .val (.int u1), .val (.int u2), .val (.int (own_min u1 u2)), .val (.int (own_max u1 u2)), .val (.ref b7), .val (.ref b10), .val (.int (((p5.toUInt32 >>> ((2 : Int32) &&& 31).toUInt32).toInt32) &&& (3 : Int32))), .unset]) (st := [(.ref b7), (.ref b7)]) (by rw [hml]; rfl) pd_5 rfl rfl (Nat.le_of_eq rfl) (hb hby at_165) (by decide) (by decide) ?_
            intro v31 T31 X31 e31 hv31
            subst hv31
            show Gl p e below _ (T31.setTop (mkF m 168 #[.val (.int p1), .val (.int p2), .val (.int p3), .val (.int p4), .val (.int p5), .val (.int x), .val (.int y), .val (.int (own_min x y)), .val (.int (own_max x y)), .val (.int u1), .val (.int u2), .val (.int (own_min u1 u2)), .val (.int (own_max u1 u2)), .val (.ref b7), .val (.ref b10), .val (.int (((p5.toUInt32 >>> ((2 : Int32) &&& 31).toUInt32).toInt32) &&& (3 : Int32))), .unset] [(.int (own_sp (own_min x y) (own_max x y) (own_min x y) (own_max x y)))]))
            exact Gl.retN X31 hx hlk hret (by simp) (hb hby at_168) e31 (⟨by simp [own_sp, own_nb1], N14⟩) (by decide) (by decide)
        · refine Gl.of (fun _ kq_ => XS.icmpYes X14.here hx rfl (pc0 := 150) (pc' := 184) rfl (hb hby at_150) rfl (feq hc150_28).2 (by decide) (by decide) kq_) ?_
          show Gl p e below _ (T14.setTop (mkF m 184 #[.val (.int p1), .val (.int p2), .val (.int p3), .val (.int p4), .val (.int p5), .val (.int x), .val (.int y), .val (.int (own_min x y)), .val (.int (own_max x y)), .val (.int u1), .val (.int u2), .val (.int (own_min u1 u2)), .val (.int (own_max u1 u2)), .val (.ref b7), .val (.ref b10), .val (.int (((p5.toUInt32 >>> ((2 : Int32) &&& 31).toUInt32).toInt32) &&& (3 : Int32))), .unset] []))
          refine Gl.of (fun _ kq_ => XS.iload X14.here hx rfl (hb hby at_184) rfl kq_) ?_
          show Gl p e below _ (T14.setTop (mkF m 186 #[.val (.int p1), .val (.int p2), .val (.int p3), .val (.int p4), .val (.int p5), .val (.int x), .val (.int y), .val (.int (own_min x y)), .val (.int (own_max x y)), .val (.int u1), .val (.int u2), .val (.int (own_min u1 u2)), .val (.int (own_max u1 u2)), .val (.ref b7), .val (.ref b10), .val (.int (((p5.toUInt32 >>> ((2 : Int32) &&& 31).toUInt32).toInt32) &&& (3 : Int32))), .unset] [(.int (own_min x y))]))
          refine Gl.of (fun _ kq_ => XS.iload X14.here hx rfl (hb hby at_186) rfl kq_) ?_
          show Gl p e below _ (T14.setTop (mkF m 188 #[.val (.int p1), .val (.int p2), .val (.int p3), .val (.int p4), .val (.int p5), .val (.int x), .val (.int y), .val (.int (own_min x y)), .val (.int (own_max x y)), .val (.int u1), .val (.int u2), .val (.int (own_min u1 u2)), .val (.int (own_max u1 u2)), .val (.ref b7), .val (.ref b10), .val (.int (((p5.toUInt32 >>> ((2 : Int32) &&& 31).toUInt32).toInt32) &&& (3 : Int32))), .unset] [(.int (own_min u1 u2)), (.int (own_min x y))]))
          by_cases hc188_32 : (own_min x y) = (own_min u1 u2)
          · refine Gl.of (fun _ kq_ => XS.icmpNo X14.here hx rfl (hb hby at_188) rfl (teq hc188_32).2 kq_) ?_
            show Gl p e below _ (T14.setTop (mkF m 191 #[.val (.int p1), .val (.int p2), .val (.int p3), .val (.int p4), .val (.int p5), .val (.int x), .val (.int y), .val (.int (own_min x y)), .val (.int (own_max x y)), .val (.int u1), .val (.int u2), .val (.int (own_min u1 u2)), .val (.int (own_max u1 u2)), .val (.ref b7), .val (.ref b10), .val (.int (((p5.toUInt32 >>> ((2 : Int32) &&& 31).toUInt32).toInt32) &&& (3 : Int32))), .unset] []))
            refine Gl.of (fun _ kq_ => XS.iload X14.here hx rfl (hb hby at_191) rfl kq_) ?_
            show Gl p e below _ (T14.setTop (mkF m 193 #[.val (.int p1), .val (.int p2), .val (.int p3), .val (.int p4), .val (.int p5), .val (.int x), .val (.int y), .val (.int (own_min x y)), .val (.int (own_max x y)), .val (.int u1), .val (.int u2), .val (.int (own_min u1 u2)), .val (.int (own_max u1 u2)), .val (.ref b7), .val (.ref b10), .val (.int (((p5.toUInt32 >>> ((2 : Int32) &&& 31).toUInt32).toInt32) &&& (3 : Int32))), .unset] [(.int (own_max x y))]))
            refine Gl.of (fun _ kq_ => XS.iload X14.here hx rfl (hb hby at_193) rfl kq_) ?_
            show Gl p e below _ (T14.setTop (mkF m 195 #[.val (.int p1), .val (.int p2), .val (.int p3), .val (.int p4), .val (.int p5), .val (.int x), .val (.int y), .val (.int (own_min x y)), .val (.int (own_max x y)), .val (.int u1), .val (.int u2), .val (.int (own_min u1 u2)), .val (.int (own_max u1 u2)), .val (.ref b7), .val (.ref b10), .val (.int (((p5.toUInt32 >>> ((2 : Int32) &&& 31).toUInt32).toInt32) &&& (3 : Int32))), .unset] [(.int (own_max u1 u2)), (.int (own_max x y))]))
            by_cases hc195_33 : (own_max x y) = (own_max u1 u2)
            · refine Gl.of (fun _ kq_ => XS.icmpNo X14.here hx rfl (hb hby at_195) rfl (teq hc195_33).2 kq_) ?_
              show Gl p e below _ (T14.setTop (mkF m 198 #[.val (.int p1), .val (.int p2), .val (.int p3), .val (.int p4), .val (.int p5), .val (.int x), .val (.int y), .val (.int (own_min x y)), .val (.int (own_max x y)), .val (.int u1), .val (.int u2), .val (.int (own_min u1 u2)), .val (.int (own_max u1 u2)), .val (.ref b7), .val (.ref b10), .val (.int (((p5.toUInt32 >>> ((2 : Int32) &&& 31).toUInt32).toInt32) &&& (3 : Int32))), .unset] []))
              refine Gl.of (fun _ kq_ => XS.iconst X14.here hx rfl (hb hby at_198) kq_) ?_
              show Gl p e below _ (T14.setTop (mkF m 199 #[.val (.int p1), .val (.int p2), .val (.int p3), .val (.int p4), .val (.int p5), .val (.int x), .val (.int y), .val (.int (own_min x y)), .val (.int (own_max x y)), .val (.int u1), .val (.int u2), .val (.int (own_min u1 u2)), .val (.int (own_max u1 u2)), .val (.ref b7), .val (.ref b10), .val (.int (((p5.toUInt32 >>> ((2 : Int32) &&& 31).toUInt32).toInt32) &&& (3 : Int32))), .unset] [(.int (1 : Int32))]))
              refine Gl.of (fun _ kq_ => XS.goto X14.here hx rfl (pc0 := 199) (pc' := 203) rfl (hb hby at_199) (by decide) (by decide) kq_) ?_
              show Gl p e below _ (T14.setTop (mkF m 203 #[.val (.int p1), .val (.int p2), .val (.int p3), .val (.int p4), .val (.int p5), .val (.int x), .val (.int y), .val (.int (own_min x y)), .val (.int (own_max x y)), .val (.int u1), .val (.int u2), .val (.int (own_min u1 u2)), .val (.int (own_max u1 u2)), .val (.ref b7), .val (.ref b10), .val (.int (((p5.toUInt32 >>> ((2 : Int32) &&& 31).toUInt32).toInt32) &&& (3 : Int32))), .unset] [(.int (1 : Int32))]))
              refine Gl.of (fun _ kq_ => XS.istore X14.here hx rfl (hb hby at_203) rfl (l' := #[.val (.int p1), .val (.int p2), .val (.int p3), .val (.int p4), .val (.int p5), .val (.int x), .val (.int y), .val (.int (own_min x y)), .val (.int (own_max x y)), .val (.int u1), .val (.int u2), .val (.int (own_min u1 u2)), .val (.int (own_max u1 u2)), .val (.ref b7), .val (.ref b10), .val (.int (((p5.toUInt32 >>> ((2 : Int32) &&& 31).toUInt32).toInt32) &&& (3 : Int32))), .val (.int (1 : Int32))]) rfl kq_) ?_
              show Gl p e below _ (T14.setTop (mkF m 205 #[.val (.int p1), .val (.int p2), .val (.int p3), .val (.int p4), .val (.int p5), .val (.int x), .val (.int y), .val (.int (own_min x y)), .val (.int (own_max x y)), .val (.int u1), .val (.int u2), .val (.int (own_min u1 u2)), .val (.int (own_max u1 u2)), .val (.ref b7), .val (.ref b10), .val (.int (((p5.toUInt32 >>> ((2 : Int32) &&& 31).toUInt32).toInt32) &&& (3 : Int32))), .val (.int (1 : Int32))] []))
              refine Gl.of (fun _ kq_ => XS.aload X14.here hx rfl (hb hby at_205) rfl rfl kq_) ?_
              show Gl p e below _ (T14.setTop (mkF m 207 #[.val (.int p1), .val (.int p2), .val (.int p3), .val (.int p4), .val (.int p5), .val (.int x), .val (.int y), .val (.int (own_min x y)), .val (.int (own_max x y)), .val (.int u1), .val (.int u2), .val (.int (own_min u1 u2)), .val (.int (own_max u1 u2)), .val (.ref b7), .val (.ref b10), .val (.int (((p5.toUInt32 >>> ((2 : Int32) &&& 31).toUInt32).toInt32) &&& (3 : Int32))), .val (.int (1 : Int32))] [(.ref b7)]))
              refine Gl.of (fun _ kq_ => XS.aload X14.here hx rfl (hb hby at_207) rfl rfl kq_) ?_
              show Gl p e below _ (T14.setTop (mkF m 209 #[.val (.int p1), .val (.int p2), .val (.int p3), .val (.int p4), .val (.int p5), .val (.int x), .val (.int y), .val (.int (own_min x y)), .val (.int (own_max x y)), .val (.int u1), .val (.int u2), .val (.int (own_min u1 u2)), .val (.int (own_max u1 u2)), .val (.ref b7), .val (.ref b10), .val (.int (((p5.toUInt32 >>> ((2 : Int32) &&& 31).toUInt32).toInt32) &&& (3 : Int32))), .val (.int (1 : Int32))] [(.ref b10), (.ref b7)]))
              refine Gl.callV0 X14 hx hZ (y := (⟨"com/example/sitterson/sitterson/text/Span", "equals", "(Ljava/lang/Object;)Z"⟩ : MethodName)) (z := (⟨"com/example/sitterson/sitterson/text/Span", "equals", "(Ljava/lang/Object;)Z"⟩ : MethodName)) hown (w21 hw) (w22 hw) (notFace_of_selects (args := #[]) (mvT hZ (w24 hw))) (w24 hw) (w23 hw) (w25 hw) (w10 hw) (desc_ne (by decide)) (b := b7) (argsL := [(.ref b10)]) (rest := []) ec15 (rm4 l Z a0 hw _ b7 b10 (own_min x y) (own_max x y) (own_min u1 u2) (own_max u1 u2) ec18 fc16 fc17 F14a F14b) 0 (by decide) (by decide) rfl (pc := 209) (Ls := #[.val (.int p1), .val (.int p2), .val (.int p3), .val (.int p4), .val (.int p5), .val (.int x), .val (.int y), .val (.int (own_min x y)), .val (.int (own_max x y)), .val (.int u1), .val (.int u2), .val (.int (own_min u1 u2)), .val (.int (own_max u1 u2)), .val (.ref b7), .val (.ref b10), .val (.int (((p5.toUInt32 >>> ((2 : Int32) &&& 31).toUInt32).toInt32) &&& (3 : Int32))), .val (.int (1 : Int32))]) (st := [(.ref b10), (.ref b7)]) (by rw [hml]; rfl) pd_5 rfl rfl (Nat.le_of_eq rfl) (hb hby at_209) (by decide) (by decide) ?_
              intro v34 T34 X34 e34 hv34
              subst hv34
              show Gl p e below _ (T34.setTop (mkF m 212 #[.val (.int p1), .val (.int p2), .val (.int p3), .val (.int p4), .val (.int p5), .val (.int x), .val (.int y), .val (.int (own_min x y)), .val (.int (own_max x y)), .val (.int u1), .val (.int u2), .val (.int (own_min u1 u2)), .val (.int (own_max u1 u2)), .val (.ref b7), .val (.ref b10), .val (.int (((p5.toUInt32 >>> ((2 : Int32) &&& 31).toUInt32).toInt32) &&& (3 : Int32))), .val (.int (1 : Int32))] [(.int (own_sp (own_min x y) (own_max x y) (own_min u1 u2) (own_max u1 u2)))]))
              refine Gl.of (fun _ kq_ => XS.iload X34.here hx rfl (hb hby at_212) rfl kq_) ?_
              show Gl p e below _ (T34.setTop (mkF m 214 #[.val (.int p1), .val (.int p2), .val (.int p3), .val (.int p4), .val (.int p5), .val (.int x), .val (.int y), .val (.int (own_min x y)), .val (.int (own_max x y)), .val (.int u1), .val (.int u2), .val (.int (own_min u1 u2)), .val (.int (own_max u1 u2)), .val (.ref b7), .val (.ref b10), .val (.int (((p5.toUInt32 >>> ((2 : Int32) &&& 31).toUInt32).toInt32) &&& (3 : Int32))), .val (.int (1 : Int32))] [(.int (1 : Int32)), (.int (own_sp (own_min x y) (own_max x y) (own_min u1 u2) (own_max u1 u2)))]))
              refine Gl.of (fun _ kq_ => XS.icmpNo X34.here hx rfl (hb hby at_214) rfl (teq (by simp [own_sp, hc188_32, hc195_33] : (own_sp (own_min x y) (own_max x y) (own_min u1 u2) (own_max u1 u2)) = (1 : Int32))).2 kq_) ?_
              show Gl p e below _ (T34.setTop (mkF m 217 #[.val (.int p1), .val (.int p2), .val (.int p3), .val (.int p4), .val (.int p5), .val (.int x), .val (.int y), .val (.int (own_min x y)), .val (.int (own_max x y)), .val (.int u1), .val (.int u2), .val (.int (own_min u1 u2)), .val (.int (own_max u1 u2)), .val (.ref b7), .val (.ref b10), .val (.int (((p5.toUInt32 >>> ((2 : Int32) &&& 31).toUInt32).toInt32) &&& (3 : Int32))), .val (.int (1 : Int32))] []))
              refine Gl.of (fun _ kq_ => XS.aload X34.here hx rfl (hb hby at_217) rfl rfl kq_) ?_
              show Gl p e below _ (T34.setTop (mkF m 219 #[.val (.int p1), .val (.int p2), .val (.int p3), .val (.int p4), .val (.int p5), .val (.int x), .val (.int y), .val (.int (own_min x y)), .val (.int (own_max x y)), .val (.int u1), .val (.int u2), .val (.int (own_min u1 u2)), .val (.int (own_max u1 u2)), .val (.ref b7), .val (.ref b10), .val (.int (((p5.toUInt32 >>> ((2 : Int32) &&& 31).toUInt32).toInt32) &&& (3 : Int32))), .val (.int (1 : Int32))] [(.ref b10)]))
              refine Gl.of (fun _ kq_ => XS.aload X34.here hx rfl (hb hby at_219) rfl rfl kq_) ?_
              show Gl p e below _ (T34.setTop (mkF m 221 #[.val (.int p1), .val (.int p2), .val (.int p3), .val (.int p4), .val (.int p5), .val (.int x), .val (.int y), .val (.int (own_min x y)), .val (.int (own_max x y)), .val (.int u1), .val (.int u2), .val (.int (own_min u1 u2)), .val (.int (own_max u1 u2)), .val (.ref b7), .val (.ref b10), .val (.int (((p5.toUInt32 >>> ((2 : Int32) &&& 31).toUInt32).toInt32) &&& (3 : Int32))), .val (.int (1 : Int32))] [(.ref b7), (.ref b10)]))
              refine Gl.callV0 X34 hx hZ (y := (⟨"com/example/sitterson/sitterson/text/Span", "equals", "(Ljava/lang/Object;)Z"⟩ : MethodName)) (z := (⟨"com/example/sitterson/sitterson/text/Span", "equals", "(Ljava/lang/Object;)Z"⟩ : MethodName)) hown (w21 hw) (w22 hw) (notFace_of_selects (args := #[]) (mvT hZ (w24 hw))) (w24 hw) (w23 hw) (w25 hw) (w10 hw) (desc_ne (by decide)) (b := b10) (argsL := [(.ref b7)]) (rest := []) ec18 (rm4 l Z a0 hw _ b10 b7 (own_min u1 u2) (own_max u1 u2) (own_min x y) (own_max x y) ec15 F14a F14b fc16 fc17) 0 (by decide) (by decide) e34 (pc := 221) (Ls := #[.val (.int p1), .val (.int p2), .val (.int p3), .val (.int p4), .val (.int p5), .val (.int x), .val (.int y), .val (.int (own_min x y)), .val (.int (own_max x y)), .val (.int u1), .val (.int u2), .val (.int (own_min u1 u2)), .val (.int (own_max u1 u2)), .val (.ref b7), .val (.ref b10), .val (.int (((p5.toUInt32 >>> ((2 : Int32) &&& 31).toUInt32).toInt32) &&& (3 : Int32))), .val (.int (1 : Int32))]) (st := [(.ref b7), (.ref b10)]) (by rw [hml]; rfl) pd_5 rfl rfl (Nat.le_of_eq rfl) (hb hby at_221) (by decide) (by decide) ?_
              intro v35 T35 X35 e35 hv35
              subst hv35
              show Gl p e below _ (T35.setTop (mkF m 224 #[.val (.int p1), .val (.int p2), .val (.int p3), .val (.int p4), .val (.int p5), .val (.int x), .val (.int y), .val (.int (own_min x y)), .val (.int (own_max x y)), .val (.int u1), .val (.int u2), .val (.int (own_min u1 u2)), .val (.int (own_max u1 u2)), .val (.ref b7), .val (.ref b10), .val (.int (((p5.toUInt32 >>> ((2 : Int32) &&& 31).toUInt32).toInt32) &&& (3 : Int32))), .val (.int (1 : Int32))] [(.int (own_sp (own_min u1 u2) (own_max u1 u2) (own_min x y) (own_max x y)))]))
              refine Gl.of (fun _ kq_ => XS.iload X35.here hx rfl (hb hby at_224) rfl kq_) ?_
              show Gl p e below _ (T35.setTop (mkF m 226 #[.val (.int p1), .val (.int p2), .val (.int p3), .val (.int p4), .val (.int p5), .val (.int x), .val (.int y), .val (.int (own_min x y)), .val (.int (own_max x y)), .val (.int u1), .val (.int u2), .val (.int (own_min u1 u2)), .val (.int (own_max u1 u2)), .val (.ref b7), .val (.ref b10), .val (.int (((p5.toUInt32 >>> ((2 : Int32) &&& 31).toUInt32).toInt32) &&& (3 : Int32))), .val (.int (1 : Int32))] [(.int (1 : Int32)), (.int (own_sp (own_min u1 u2) (own_max u1 u2) (own_min x y) (own_max x y)))]))
              refine Gl.of (fun _ kq_ => XS.icmpNo X35.here hx rfl (hb hby at_226) rfl (teq ((own_spc _ _ _ _).trans (by simp [own_sp, hc188_32, hc195_33]) : (own_sp (own_min u1 u2) (own_max u1 u2) (own_min x y) (own_max x y)) = (1 : Int32))).2 kq_) ?_
              show Gl p e below _ (T35.setTop (mkF m 229 #[.val (.int p1), .val (.int p2), .val (.int p3), .val (.int p4), .val (.int p5), .val (.int x), .val (.int y), .val (.int (own_min x y)), .val (.int (own_max x y)), .val (.int u1), .val (.int u2), .val (.int (own_min u1 u2)), .val (.int (own_max u1 u2)), .val (.ref b7), .val (.ref b10), .val (.int (((p5.toUInt32 >>> ((2 : Int32) &&& 31).toUInt32).toInt32) &&& (3 : Int32))), .val (.int (1 : Int32))] []))
              refine Gl.of (fun _ kq_ => XS.iconst X35.here hx rfl (hb hby at_229) kq_) ?_
              show Gl p e below _ (T35.setTop (mkF m 230 #[.val (.int p1), .val (.int p2), .val (.int p3), .val (.int p4), .val (.int p5), .val (.int x), .val (.int y), .val (.int (own_min x y)), .val (.int (own_max x y)), .val (.int u1), .val (.int u2), .val (.int (own_min u1 u2)), .val (.int (own_max u1 u2)), .val (.ref b7), .val (.ref b10), .val (.int (((p5.toUInt32 >>> ((2 : Int32) &&& 31).toUInt32).toInt32) &&& (3 : Int32))), .val (.int (1 : Int32))] [(.int (1 : Int32))]))
              refine Gl.of (fun _ kq_ => XS.goto X35.here hx rfl (pc0 := 230) (pc' := 234) rfl (hb hby at_230) (by decide) (by decide) kq_) ?_
              show Gl p e below _ (T35.setTop (mkF m 234 #[.val (.int p1), .val (.int p2), .val (.int p3), .val (.int p4), .val (.int p5), .val (.int x), .val (.int y), .val (.int (own_min x y)), .val (.int (own_max x y)), .val (.int u1), .val (.int u2), .val (.int (own_min u1 u2)), .val (.int (own_max u1 u2)), .val (.ref b7), .val (.ref b10), .val (.int (((p5.toUInt32 >>> ((2 : Int32) &&& 31).toUInt32).toInt32) &&& (3 : Int32))), .val (.int (1 : Int32))] [(.int (1 : Int32))]))
              exact Gl.retN X35 hx hlk hret (by simp) (hb hby at_234) e35 (⟨rfl, N14⟩) (by decide) (by decide)
            · refine Gl.of (fun _ kq_ => XS.icmpYes X14.here hx rfl (pc0 := 195) (pc' := 202) rfl (hb hby at_195) rfl (feq hc195_33).2 (by decide) (by decide) kq_) ?_
              show Gl p e below _ (T14.setTop (mkF m 202 #[.val (.int p1), .val (.int p2), .val (.int p3), .val (.int p4), .val (.int p5), .val (.int x), .val (.int y), .val (.int (own_min x y)), .val (.int (own_max x y)), .val (.int u1), .val (.int u2), .val (.int (own_min u1 u2)), .val (.int (own_max u1 u2)), .val (.ref b7), .val (.ref b10), .val (.int (((p5.toUInt32 >>> ((2 : Int32) &&& 31).toUInt32).toInt32) &&& (3 : Int32))), .unset] []))
              refine Gl.of (fun _ kq_ => XS.iconst X14.here hx rfl (hb hby at_202) kq_) ?_
              show Gl p e below _ (T14.setTop (mkF m 203 #[.val (.int p1), .val (.int p2), .val (.int p3), .val (.int p4), .val (.int p5), .val (.int x), .val (.int y), .val (.int (own_min x y)), .val (.int (own_max x y)), .val (.int u1), .val (.int u2), .val (.int (own_min u1 u2)), .val (.int (own_max u1 u2)), .val (.ref b7), .val (.ref b10), .val (.int (((p5.toUInt32 >>> ((2 : Int32) &&& 31).toUInt32).toInt32) &&& (3 : Int32))), .unset] [(.int (0 : Int32))]))
              refine Gl.of (fun _ kq_ => XS.istore X14.here hx rfl (hb hby at_203) rfl (l' := #[.val (.int p1), .val (.int p2), .val (.int p3), .val (.int p4), .val (.int p5), .val (.int x), .val (.int y), .val (.int (own_min x y)), .val (.int (own_max x y)), .val (.int u1), .val (.int u2), .val (.int (own_min u1 u2)), .val (.int (own_max u1 u2)), .val (.ref b7), .val (.ref b10), .val (.int (((p5.toUInt32 >>> ((2 : Int32) &&& 31).toUInt32).toInt32) &&& (3 : Int32))), .val (.int (0 : Int32))]) rfl kq_) ?_
              show Gl p e below _ (T14.setTop (mkF m 205 #[.val (.int p1), .val (.int p2), .val (.int p3), .val (.int p4), .val (.int p5), .val (.int x), .val (.int y), .val (.int (own_min x y)), .val (.int (own_max x y)), .val (.int u1), .val (.int u2), .val (.int (own_min u1 u2)), .val (.int (own_max u1 u2)), .val (.ref b7), .val (.ref b10), .val (.int (((p5.toUInt32 >>> ((2 : Int32) &&& 31).toUInt32).toInt32) &&& (3 : Int32))), .val (.int (0 : Int32))] []))
              refine Gl.of (fun _ kq_ => XS.aload X14.here hx rfl (hb hby at_205) rfl rfl kq_) ?_
              show Gl p e below _ (T14.setTop (mkF m 207 #[.val (.int p1), .val (.int p2), .val (.int p3), .val (.int p4), .val (.int p5), .val (.int x), .val (.int y), .val (.int (own_min x y)), .val (.int (own_max x y)), .val (.int u1), .val (.int u2), .val (.int (own_min u1 u2)), .val (.int (own_max u1 u2)), .val (.ref b7), .val (.ref b10), .val (.int (((p5.toUInt32 >>> ((2 : Int32) &&& 31).toUInt32).toInt32) &&& (3 : Int32))), .val (.int (0 : Int32))] [(.ref b7)]))
              refine Gl.of (fun _ kq_ => XS.aload X14.here hx rfl (hb hby at_207) rfl rfl kq_) ?_
              show Gl p e below _ (T14.setTop (mkF m 209 #[.val (.int p1), .val (.int p2), .val (.int p3), .val (.int p4), .val (.int p5), .val (.int x), .val (.int y), .val (.int (own_min x y)), .val (.int (own_max x y)), .val (.int u1), .val (.int u2), .val (.int (own_min u1 u2)), .val (.int (own_max u1 u2)), .val (.ref b7), .val (.ref b10), .val (.int (((p5.toUInt32 >>> ((2 : Int32) &&& 31).toUInt32).toInt32) &&& (3 : Int32))), .val (.int (0 : Int32))] [(.ref b10), (.ref b7)]))
              refine Gl.callV0 X14 hx hZ (y := (⟨"com/example/sitterson/sitterson/text/Span", "equals", "(Ljava/lang/Object;)Z"⟩ : MethodName)) (z := (⟨"com/example/sitterson/sitterson/text/Span", "equals", "(Ljava/lang/Object;)Z"⟩ : MethodName)) hown (w21 hw) (w22 hw) (notFace_of_selects (args := #[]) (mvT hZ (w24 hw))) (w24 hw) (w23 hw) (w25 hw) (w10 hw) (desc_ne (by decide)) (b := b7) (argsL := [(.ref b10)]) (rest := []) ec15 (rm4 l Z a0 hw _ b7 b10 (own_min x y) (own_max x y) (own_min u1 u2) (own_max u1 u2) ec18 fc16 fc17 F14a F14b) 0 (by decide) (by decide) rfl (pc := 209) (Ls := #[.val (.int p1), .val (.int p2), .val (.int p3), .val (.int p4), .val (.int p5), .val (.int x), .val (.int y), .val (.int (own_min x y)), .val (.int (own_max x y)), .val (.int u1), .val (.int u2), .val (.int (own_min u1 u2)), .val (.int (own_max u1 u2)), .val (.ref b7), .val (.ref b10), .val (.int (((p5.toUInt32 >>> ((2 : Int32) &&& 31).toUInt32).toInt32) &&& (3 : Int32))), .val (.int (0 : Int32))]) (st := [(.ref b10), (.ref b7)]) (by rw [hml]; rfl) pd_5 rfl rfl (Nat.le_of_eq rfl) (hb hby at_209) (by decide) (by decide) ?_
              intro v36 T36 X36 e36 hv36
              subst hv36
              show Gl p e below _ (T36.setTop (mkF m 212 #[.val (.int p1), .val (.int p2), .val (.int p3), .val (.int p4), .val (.int p5), .val (.int x), .val (.int y), .val (.int (own_min x y)), .val (.int (own_max x y)), .val (.int u1), .val (.int u2), .val (.int (own_min u1 u2)), .val (.int (own_max u1 u2)), .val (.ref b7), .val (.ref b10), .val (.int (((p5.toUInt32 >>> ((2 : Int32) &&& 31).toUInt32).toInt32) &&& (3 : Int32))), .val (.int (0 : Int32))] [(.int (own_sp (own_min x y) (own_max x y) (own_min u1 u2) (own_max u1 u2)))]))
              refine Gl.of (fun _ kq_ => XS.iload X36.here hx rfl (hb hby at_212) rfl kq_) ?_
              show Gl p e below _ (T36.setTop (mkF m 214 #[.val (.int p1), .val (.int p2), .val (.int p3), .val (.int p4), .val (.int p5), .val (.int x), .val (.int y), .val (.int (own_min x y)), .val (.int (own_max x y)), .val (.int u1), .val (.int u2), .val (.int (own_min u1 u2)), .val (.int (own_max u1 u2)), .val (.ref b7), .val (.ref b10), .val (.int (((p5.toUInt32 >>> ((2 : Int32) &&& 31).toUInt32).toInt32) &&& (3 : Int32))), .val (.int (0 : Int32))] [(.int (0 : Int32)), (.int (own_sp (own_min x y) (own_max x y) (own_min u1 u2) (own_max u1 u2)))]))
              refine Gl.of (fun _ kq_ => XS.icmpNo X36.here hx rfl (hb hby at_214) rfl (teq (by simp [own_sp, hc188_32, hc195_33] : (own_sp (own_min x y) (own_max x y) (own_min u1 u2) (own_max u1 u2)) = (0 : Int32))).2 kq_) ?_
              show Gl p e below _ (T36.setTop (mkF m 217 #[.val (.int p1), .val (.int p2), .val (.int p3), .val (.int p4), .val (.int p5), .val (.int x), .val (.int y), .val (.int (own_min x y)), .val (.int (own_max x y)), .val (.int u1), .val (.int u2), .val (.int (own_min u1 u2)), .val (.int (own_max u1 u2)), .val (.ref b7), .val (.ref b10), .val (.int (((p5.toUInt32 >>> ((2 : Int32) &&& 31).toUInt32).toInt32) &&& (3 : Int32))), .val (.int (0 : Int32))] []))
              refine Gl.of (fun _ kq_ => XS.aload X36.here hx rfl (hb hby at_217) rfl rfl kq_) ?_
              show Gl p e below _ (T36.setTop (mkF m 219 #[.val (.int p1), .val (.int p2), .val (.int p3), .val (.int p4), .val (.int p5), .val (.int x), .val (.int y), .val (.int (own_min x y)), .val (.int (own_max x y)), .val (.int u1), .val (.int u2), .val (.int (own_min u1 u2)), .val (.int (own_max u1 u2)), .val (.ref b7), .val (.ref b10), .val (.int (((p5.toUInt32 >>> ((2 : Int32) &&& 31).toUInt32).toInt32) &&& (3 : Int32))), .val (.int (0 : Int32))] [(.ref b10)]))
              refine Gl.of (fun _ kq_ => XS.aload X36.here hx rfl (hb hby at_219) rfl rfl kq_) ?_
              show Gl p e below _ (T36.setTop (mkF m 221 #[.val (.int p1), .val (.int p2), .val (.int p3), .val (.int p4), .val (.int p5), .val (.int x), .val (.int y), .val (.int (own_min x y)), .val (.int (own_max x y)), .val (.int u1), .val (.int u2), .val (.int (own_min u1 u2)), .val (.int (own_max u1 u2)), .val (.ref b7), .val (.ref b10), .val (.int (((p5.toUInt32 >>> ((2 : Int32) &&& 31).toUInt32).toInt32) &&& (3 : Int32))), .val (.int (0 : Int32))] [(.ref b7), (.ref b10)]))
              refine Gl.callV0 X36 hx hZ (y := (⟨"com/example/sitterson/sitterson/text/Span", "equals", "(Ljava/lang/Object;)Z"⟩ : MethodName)) (z := (⟨"com/example/sitterson/sitterson/text/Span", "equals", "(Ljava/lang/Object;)Z"⟩ : MethodName)) hown (w21 hw) (w22 hw) (notFace_of_selects (args := #[]) (mvT hZ (w24 hw))) (w24 hw) (w23 hw) (w25 hw) (w10 hw) (desc_ne (by decide)) (b := b10) (argsL := [(.ref b7)]) (rest := []) ec18 (rm4 l Z a0 hw _ b10 b7 (own_min u1 u2) (own_max u1 u2) (own_min x y) (own_max x y) ec15 F14a F14b fc16 fc17) 0 (by decide) (by decide) e36 (pc := 221) (Ls := #[.val (.int p1), .val (.int p2), .val (.int p3), .val (.int p4), .val (.int p5), .val (.int x), .val (.int y), .val (.int (own_min x y)), .val (.int (own_max x y)), .val (.int u1), .val (.int u2), .val (.int (own_min u1 u2)), .val (.int (own_max u1 u2)), .val (.ref b7), .val (.ref b10), .val (.int (((p5.toUInt32 >>> ((2 : Int32) &&& 31).toUInt32).toInt32) &&& (3 : Int32))), .val (.int (0 : Int32))]) (st := [(.ref b7), (.ref b10)]) (by rw [hml]; rfl) pd_5 rfl rfl (Nat.le_of_eq rfl) (hb hby at_221) (by decide) (by decide) ?_
              intro v37 T37 X37 e37 hv37
              subst hv37
              show Gl p e below _ (T37.setTop (mkF m 224 #[.val (.int p1), .val (.int p2), .val (.int p3), .val (.int p4), .val (.int p5), .val (.int x), .val (.int y), .val (.int (own_min x y)), .val (.int (own_max x y)), .val (.int u1), .val (.int u2), .val (.int (own_min u1 u2)), .val (.int (own_max u1 u2)), .val (.ref b7), .val (.ref b10), .val (.int (((p5.toUInt32 >>> ((2 : Int32) &&& 31).toUInt32).toInt32) &&& (3 : Int32))), .val (.int (0 : Int32))] [(.int (own_sp (own_min u1 u2) (own_max u1 u2) (own_min x y) (own_max x y)))]))
              refine Gl.of (fun _ kq_ => XS.iload X37.here hx rfl (hb hby at_224) rfl kq_) ?_
              show Gl p e below _ (T37.setTop (mkF m 226 #[.val (.int p1), .val (.int p2), .val (.int p3), .val (.int p4), .val (.int p5), .val (.int x), .val (.int y), .val (.int (own_min x y)), .val (.int (own_max x y)), .val (.int u1), .val (.int u2), .val (.int (own_min u1 u2)), .val (.int (own_max u1 u2)), .val (.ref b7), .val (.ref b10), .val (.int (((p5.toUInt32 >>> ((2 : Int32) &&& 31).toUInt32).toInt32) &&& (3 : Int32))), .val (.int (0 : Int32))] [(.int (0 : Int32)), (.int (own_sp (own_min u1 u2) (own_max u1 u2) (own_min x y) (own_max x y)))]))
              refine Gl.of (fun _ kq_ => XS.icmpNo X37.here hx rfl (hb hby at_226) rfl (teq ((own_spc _ _ _ _).trans (by simp [own_sp, hc188_32, hc195_33]) : (own_sp (own_min u1 u2) (own_max u1 u2) (own_min x y) (own_max x y)) = (0 : Int32))).2 kq_) ?_
              show Gl p e below _ (T37.setTop (mkF m 229 #[.val (.int p1), .val (.int p2), .val (.int p3), .val (.int p4), .val (.int p5), .val (.int x), .val (.int y), .val (.int (own_min x y)), .val (.int (own_max x y)), .val (.int u1), .val (.int u2), .val (.int (own_min u1 u2)), .val (.int (own_max u1 u2)), .val (.ref b7), .val (.ref b10), .val (.int (((p5.toUInt32 >>> ((2 : Int32) &&& 31).toUInt32).toInt32) &&& (3 : Int32))), .val (.int (0 : Int32))] []))
              refine Gl.of (fun _ kq_ => XS.iconst X37.here hx rfl (hb hby at_229) kq_) ?_
              show Gl p e below _ (T37.setTop (mkF m 230 #[.val (.int p1), .val (.int p2), .val (.int p3), .val (.int p4), .val (.int p5), .val (.int x), .val (.int y), .val (.int (own_min x y)), .val (.int (own_max x y)), .val (.int u1), .val (.int u2), .val (.int (own_min u1 u2)), .val (.int (own_max u1 u2)), .val (.ref b7), .val (.ref b10), .val (.int (((p5.toUInt32 >>> ((2 : Int32) &&& 31).toUInt32).toInt32) &&& (3 : Int32))), .val (.int (0 : Int32))] [(.int (1 : Int32))]))
              refine Gl.of (fun _ kq_ => XS.goto X37.here hx rfl (pc0 := 230) (pc' := 234) rfl (hb hby at_230) (by decide) (by decide) kq_) ?_
              show Gl p e below _ (T37.setTop (mkF m 234 #[.val (.int p1), .val (.int p2), .val (.int p3), .val (.int p4), .val (.int p5), .val (.int x), .val (.int y), .val (.int (own_min x y)), .val (.int (own_max x y)), .val (.int u1), .val (.int u2), .val (.int (own_min u1 u2)), .val (.int (own_max u1 u2)), .val (.ref b7), .val (.ref b10), .val (.int (((p5.toUInt32 >>> ((2 : Int32) &&& 31).toUInt32).toInt32) &&& (3 : Int32))), .val (.int (0 : Int32))] [(.int (1 : Int32))]))
              exact Gl.retN X37 hx hlk hret (by simp) (hb hby at_234) e37 (⟨rfl, N14⟩) (by decide) (by decide)
          · refine Gl.of (fun _ kq_ => XS.icmpYes X14.here hx rfl (pc0 := 188) (pc' := 202) rfl (hb hby at_188) rfl (feq hc188_32).2 (by decide) (by decide) kq_) ?_
            show Gl p e below _ (T14.setTop (mkF m 202 #[.val (.int p1), .val (.int p2), .val (.int p3), .val (.int p4), .val (.int p5), .val (.int x), .val (.int y), .val (.int (own_min x y)), .val (.int (own_max x y)), .val (.int u1), .val (.int u2), .val (.int (own_min u1 u2)), .val (.int (own_max u1 u2)), .val (.ref b7), .val (.ref b10), .val (.int (((p5.toUInt32 >>> ((2 : Int32) &&& 31).toUInt32).toInt32) &&& (3 : Int32))), .unset] []))
            refine Gl.of (fun _ kq_ => XS.iconst X14.here hx rfl (hb hby at_202) kq_) ?_
            show Gl p e below _ (T14.setTop (mkF m 203 #[.val (.int p1), .val (.int p2), .val (.int p3), .val (.int p4), .val (.int p5), .val (.int x), .val (.int y), .val (.int (own_min x y)), .val (.int (own_max x y)), .val (.int u1), .val (.int u2), .val (.int (own_min u1 u2)), .val (.int (own_max u1 u2)), .val (.ref b7), .val (.ref b10), .val (.int (((p5.toUInt32 >>> ((2 : Int32) &&& 31).toUInt32).toInt32) &&& (3 : Int32))), .unset] [(.int (0 : Int32))]))
            refine Gl.of (fun _ kq_ => XS.istore X14.here hx rfl (hb hby at_203) rfl (l' := #[.val (.int p1), .val (.int p2), .val (.int p3), .val (.int p4), .val (.int p5), .val (.int x), .val (.int y), .val (.int (own_min x y)), .val (.int (own_max x y)), .val (.int u1), .val (.int u2), .val (.int (own_min u1 u2)), .val (.int (own_max u1 u2)), .val (.ref b7), .val (.ref b10), .val (.int (((p5.toUInt32 >>> ((2 : Int32) &&& 31).toUInt32).toInt32) &&& (3 : Int32))), .val (.int (0 : Int32))]) rfl kq_) ?_
            show Gl p e below _ (T14.setTop (mkF m 205 #[.val (.int p1), .val (.int p2), .val (.int p3), .val (.int p4), .val (.int p5), .val (.int x), .val (.int y), .val (.int (own_min x y)), .val (.int (own_max x y)), .val (.int u1), .val (.int u2), .val (.int (own_min u1 u2)), .val (.int (own_max u1 u2)), .val (.ref b7), .val (.ref b10), .val (.int (((p5.toUInt32 >>> ((2 : Int32) &&& 31).toUInt32).toInt32) &&& (3 : Int32))), .val (.int (0 : Int32))] []))
            refine Gl.of (fun _ kq_ => XS.aload X14.here hx rfl (hb hby at_205) rfl rfl kq_) ?_
            show Gl p e below _ (T14.setTop (mkF m 207 #[.val (.int p1), .val (.int p2), .val (.int p3), .val (.int p4), .val (.int p5), .val (.int x), .val (.int y), .val (.int (own_min x y)), .val (.int (own_max x y)), .val (.int u1), .val (.int u2), .val (.int (own_min u1 u2)), .val (.int (own_max u1 u2)), .val (.ref b7), .val (.ref b10), .val (.int (((p5.toUInt32 >>> ((2 : Int32) &&& 31).toUInt32).toInt32) &&& (3 : Int32))), .val (.int (0 : Int32))] [(.ref b7)]))
            refine Gl.of (fun _ kq_ => XS.aload X14.here hx rfl (hb hby at_207) rfl rfl kq_) ?_
            show Gl p e below _ (T14.setTop (mkF m 209 #[.val (.int p1), .val (.int p2), .val (.int p3), .val (.int p4), .val (.int p5), .val (.int x), .val (.int y), .val (.int (own_min x y)), .val (.int (own_max x y)), .val (.int u1), .val (.int u2), .val (.int (own_min u1 u2)), .val (.int (own_max u1 u2)), .val (.ref b7), .val (.ref b10), .val (.int (((p5.toUInt32 >>> ((2 : Int32) &&& 31).toUInt32).toInt32) &&& (3 : Int32))), .val (.int (0 : Int32))] [(.ref b10), (.ref b7)]))
            refine Gl.callV0 X14 hx hZ (y := (⟨"com/example/sitterson/sitterson/text/Span", "equals", "(Ljava/lang/Object;)Z"⟩ : MethodName)) (z := (⟨"com/example/sitterson/sitterson/text/Span", "equals", "(Ljava/lang/Object;)Z"⟩ : MethodName)) hown (w21 hw) (w22 hw) (notFace_of_selects (args := #[]) (mvT hZ (w24 hw))) (w24 hw) (w23 hw) (w25 hw) (w10 hw) (desc_ne (by decide)) (b := b7) (argsL := [(.ref b10)]) (rest := []) ec15 (rm4 l Z a0 hw _ b7 b10 (own_min x y) (own_max x y) (own_min u1 u2) (own_max u1 u2) ec18 fc16 fc17 F14a F14b) 0 (by decide) (by decide) rfl (pc := 209) (Ls := #[.val (.int p1), .val (.int p2), .val (.int p3), .val (.int p4), .val (.int p5), .val (.int x), .val (.int y), .val (.int (own_min x y)), .val (.int (own_max x y)), .val (.int u1), .val (.int u2), .val (.int (own_min u1 u2)), .val (.int (own_max u1 u2)), .val (.ref b7), .val (.ref b10), .val (.int (((p5.toUInt32 >>> ((2 : Int32) &&& 31).toUInt32).toInt32) &&& (3 : Int32))), .val (.int (0 : Int32))]) (st := [(.ref b10), (.ref b7)]) (by rw [hml]; rfl) pd_5 rfl rfl (Nat.le_of_eq rfl) (hb hby at_209) (by decide) (by decide) ?_
            intro v38 T38 X38 e38 hv38
            subst hv38
            show Gl p e below _ (T38.setTop (mkF m 212 #[.val (.int p1), .val (.int p2), .val (.int p3), .val (.int p4), .val (.int p5), .val (.int x), .val (.int y), .val (.int (own_min x y)), .val (.int (own_max x y)), .val (.int u1), .val (.int u2), .val (.int (own_min u1 u2)), .val (.int (own_max u1 u2)), .val (.ref b7), .val (.ref b10), .val (.int (((p5.toUInt32 >>> ((2 : Int32) &&& 31).toUInt32).toInt32) &&& (3 : Int32))), .val (.int (0 : Int32))] [(.int (own_sp (own_min x y) (own_max x y) (own_min u1 u2) (own_max u1 u2)))]))
            refine Gl.of (fun _ kq_ => XS.iload X38.here hx rfl (hb hby at_212) rfl kq_) ?_
            show Gl p e below _ (T38.setTop (mkF m 214 #[.val (.int p1), .val (.int p2), .val (.int p3), .val (.int p4), .val (.int p5), .val (.int x), .val (.int y), .val (.int (own_min x y)), .val (.int (own_max x y)), .val (.int u1), .val (.int u2), .val (.int (own_min u1 u2)), .val (.int (own_max u1 u2)), .val (.ref b7), .val (.ref b10), .val (.int (((p5.toUInt32 >>> ((2 : Int32) &&& 31).toUInt32).toInt32) &&& (3 : Int32))), .val (.int (0 : Int32))] [(.int (0 : Int32)), (.int (own_sp (own_min x y) (own_max x y) (own_min u1 u2) (own_max u1 u2)))]))
            refine Gl.of (fun _ kq_ => XS.icmpNo X38.here hx rfl (hb hby at_214) rfl (teq (by simp [own_sp, hc188_32] : (own_sp (own_min x y) (own_max x y) (own_min u1 u2) (own_max u1 u2)) = (0 : Int32))).2 kq_) ?_
            show Gl p e below _ (T38.setTop (mkF m 217 #[.val (.int p1), .val (.int p2), .val (.int p3), .val (.int p4), .val (.int p5), .val (.int x), .val (.int y), .val (.int (own_min x y)), .val (.int (own_max x y)), .val (.int u1), .val (.int u2), .val (.int (own_min u1 u2)), .val (.int (own_max u1 u2)), .val (.ref b7), .val (.ref b10), .val (.int (((p5.toUInt32 >>> ((2 : Int32) &&& 31).toUInt32).toInt32) &&& (3 : Int32))), .val (.int (0 : Int32))] []))
            refine Gl.of (fun _ kq_ => XS.aload X38.here hx rfl (hb hby at_217) rfl rfl kq_) ?_
            show Gl p e below _ (T38.setTop (mkF m 219 #[.val (.int p1), .val (.int p2), .val (.int p3), .val (.int p4), .val (.int p5), .val (.int x), .val (.int y), .val (.int (own_min x y)), .val (.int (own_max x y)), .val (.int u1), .val (.int u2), .val (.int (own_min u1 u2)), .val (.int (own_max u1 u2)), .val (.ref b7), .val (.ref b10), .val (.int (((p5.toUInt32 >>> ((2 : Int32) &&& 31).toUInt32).toInt32) &&& (3 : Int32))), .val (.int (0 : Int32))] [(.ref b10)]))
            refine Gl.of (fun _ kq_ => XS.aload X38.here hx rfl (hb hby at_219) rfl rfl kq_) ?_
            show Gl p e below _ (T38.setTop (mkF m 221 #[.val (.int p1), .val (.int p2), .val (.int p3), .val (.int p4), .val (.int p5), .val (.int x), .val (.int y), .val (.int (own_min x y)), .val (.int (own_max x y)), .val (.int u1), .val (.int u2), .val (.int (own_min u1 u2)), .val (.int (own_max u1 u2)), .val (.ref b7), .val (.ref b10), .val (.int (((p5.toUInt32 >>> ((2 : Int32) &&& 31).toUInt32).toInt32) &&& (3 : Int32))), .val (.int (0 : Int32))] [(.ref b7), (.ref b10)]))
            refine Gl.callV0 X38 hx hZ (y := (⟨"com/example/sitterson/sitterson/text/Span", "equals", "(Ljava/lang/Object;)Z"⟩ : MethodName)) (z := (⟨"com/example/sitterson/sitterson/text/Span", "equals", "(Ljava/lang/Object;)Z"⟩ : MethodName)) hown (w21 hw) (w22 hw) (notFace_of_selects (args := #[]) (mvT hZ (w24 hw))) (w24 hw) (w23 hw) (w25 hw) (w10 hw) (desc_ne (by decide)) (b := b10) (argsL := [(.ref b7)]) (rest := []) ec18 (rm4 l Z a0 hw _ b10 b7 (own_min u1 u2) (own_max u1 u2) (own_min x y) (own_max x y) ec15 F14a F14b fc16 fc17) 0 (by decide) (by decide) e38 (pc := 221) (Ls := #[.val (.int p1), .val (.int p2), .val (.int p3), .val (.int p4), .val (.int p5), .val (.int x), .val (.int y), .val (.int (own_min x y)), .val (.int (own_max x y)), .val (.int u1), .val (.int u2), .val (.int (own_min u1 u2)), .val (.int (own_max u1 u2)), .val (.ref b7), .val (.ref b10), .val (.int (((p5.toUInt32 >>> ((2 : Int32) &&& 31).toUInt32).toInt32) &&& (3 : Int32))), .val (.int (0 : Int32))]) (st := [(.ref b7), (.ref b10)]) (by rw [hml]; rfl) pd_5 rfl rfl (Nat.le_of_eq rfl) (hb hby at_221) (by decide) (by decide) ?_
            intro v39 T39 X39 e39 hv39
            subst hv39
            show Gl p e below _ (T39.setTop (mkF m 224 #[.val (.int p1), .val (.int p2), .val (.int p3), .val (.int p4), .val (.int p5), .val (.int x), .val (.int y), .val (.int (own_min x y)), .val (.int (own_max x y)), .val (.int u1), .val (.int u2), .val (.int (own_min u1 u2)), .val (.int (own_max u1 u2)), .val (.ref b7), .val (.ref b10), .val (.int (((p5.toUInt32 >>> ((2 : Int32) &&& 31).toUInt32).toInt32) &&& (3 : Int32))), .val (.int (0 : Int32))] [(.int (own_sp (own_min u1 u2) (own_max u1 u2) (own_min x y) (own_max x y)))]))
            refine Gl.of (fun _ kq_ => XS.iload X39.here hx rfl (hb hby at_224) rfl kq_) ?_
            show Gl p e below _ (T39.setTop (mkF m 226 #[.val (.int p1), .val (.int p2), .val (.int p3), .val (.int p4), .val (.int p5), .val (.int x), .val (.int y), .val (.int (own_min x y)), .val (.int (own_max x y)), .val (.int u1), .val (.int u2), .val (.int (own_min u1 u2)), .val (.int (own_max u1 u2)), .val (.ref b7), .val (.ref b10), .val (.int (((p5.toUInt32 >>> ((2 : Int32) &&& 31).toUInt32).toInt32) &&& (3 : Int32))), .val (.int (0 : Int32))] [(.int (0 : Int32)), (.int (own_sp (own_min u1 u2) (own_max u1 u2) (own_min x y) (own_max x y)))]))
            refine Gl.of (fun _ kq_ => XS.icmpNo X39.here hx rfl (hb hby at_226) rfl (teq ((own_spc _ _ _ _).trans (by simp [own_sp, hc188_32]) : (own_sp (own_min u1 u2) (own_max u1 u2) (own_min x y) (own_max x y)) = (0 : Int32))).2 kq_) ?_
            show Gl p e below _ (T39.setTop (mkF m 229 #[.val (.int p1), .val (.int p2), .val (.int p3), .val (.int p4), .val (.int p5), .val (.int x), .val (.int y), .val (.int (own_min x y)), .val (.int (own_max x y)), .val (.int u1), .val (.int u2), .val (.int (own_min u1 u2)), .val (.int (own_max u1 u2)), .val (.ref b7), .val (.ref b10), .val (.int (((p5.toUInt32 >>> ((2 : Int32) &&& 31).toUInt32).toInt32) &&& (3 : Int32))), .val (.int (0 : Int32))] []))
            refine Gl.of (fun _ kq_ => XS.iconst X39.here hx rfl (hb hby at_229) kq_) ?_
            show Gl p e below _ (T39.setTop (mkF m 230 #[.val (.int p1), .val (.int p2), .val (.int p3), .val (.int p4), .val (.int p5), .val (.int x), .val (.int y), .val (.int (own_min x y)), .val (.int (own_max x y)), .val (.int u1), .val (.int u2), .val (.int (own_min u1 u2)), .val (.int (own_max u1 u2)), .val (.ref b7), .val (.ref b10), .val (.int (((p5.toUInt32 >>> ((2 : Int32) &&& 31).toUInt32).toInt32) &&& (3 : Int32))), .val (.int (0 : Int32))] [(.int (1 : Int32))]))
            refine Gl.of (fun _ kq_ => XS.goto X39.here hx rfl (pc0 := 230) (pc' := 234) rfl (hb hby at_230) (by decide) (by decide) kq_) ?_
            show Gl p e below _ (T39.setTop (mkF m 234 #[.val (.int p1), .val (.int p2), .val (.int p3), .val (.int p4), .val (.int p5), .val (.int x), .val (.int y), .val (.int (own_min x y)), .val (.int (own_max x y)), .val (.int u1), .val (.int u2), .val (.int (own_min u1 u2)), .val (.int (own_max u1 u2)), .val (.ref b7), .val (.ref b10), .val (.int (((p5.toUInt32 >>> ((2 : Int32) &&& 31).toUInt32).toInt32) &&& (3 : Int32))), .val (.int (0 : Int32))] [(.int (1 : Int32))]))
            exact Gl.retN X39 hx hlk hret (by simp) (hb hby at_234) e39 (⟨rfl, N14⟩) (by decide) (by decide)
    show Gl p e below _ (T3.setTop (mkF m 48 #[.val (.int p1), .val (.int p2), .val (.int p3), .val (.int p4), .val (.int p5), .val (.int x), .val (.int y), .val (.int (own_min x y)), .val (.int (own_max x y)), .val (.int u1), .unset, .unset, .unset, .unset, .unset, .unset, .unset] []))
    refine Gl.of (fun _ kq_ => XS.iload X3.here hx rfl (hb hby at_48) rfl kq_) ?_
    show Gl p e below _ (T3.setTop (mkF m 50 #[.val (.int p1), .val (.int p2), .val (.int p3), .val (.int p4), .val (.int p5), .val (.int x), .val (.int y), .val (.int (own_min x y)), .val (.int (own_max x y)), .val (.int u1), .unset, .unset, .unset, .unset, .unset, .unset, .unset] [(.int p5)]))
    refine Gl.of (fun _ kq_ => XS.iconst X3.here hx rfl (hb hby at_50) kq_) ?_
    show Gl p e below _ (T3.setTop (mkF m 51 #[.val (.int p1), .val (.int p2), .val (.int p3), .val (.int p4), .val (.int p5), .val (.int x), .val (.int y), .val (.int (own_min x y)), .val (.int (own_max x y)), .val (.int u1), .unset, .unset, .unset, .unset, .unset, .unset, .unset] [(.int (2 : Int32)), (.int p5)]))
    refine Gl.of (fun _ kq_ => XS.iand X3.here hx rfl (hb hby at_51) rfl kq_) ?_
    show Gl p e below _ (T3.setTop (mkF m 52 #[.val (.int p1), .val (.int p2), .val (.int p3), .val (.int p4), .val (.int p5), .val (.int x), .val (.int y), .val (.int (own_min x y)), .val (.int (own_max x y)), .val (.int u1), .unset, .unset, .unset, .unset, .unset, .unset, .unset] [(.int (p5 &&& (2 : Int32)))]))
    by_cases hc52_40 : (p5 &&& (2 : Int32)) = (0 : Int32)
    · refine Gl.of (fun _ kq_ => XS.ifYes X3.here hx rfl (pc0 := 52) (pc' := 60) rfl (hb hby at_52) rfl ((if0 _ _).trans (teq hc52_40).1) (by decide) (by decide) kq_) ?_
      show Gl p e below _ (T3.setTop (mkF m 60 #[.val (.int p1), .val (.int p2), .val (.int p3), .val (.int p4), .val (.int p5), .val (.int x), .val (.int y), .val (.int (own_min x y)), .val (.int (own_max x y)), .val (.int u1), .unset, .unset, .unset, .unset, .unset, .unset, .unset] []))
      refine Gl.of (fun _ kq_ => XS.iloadN X3.here hx rfl (hb hby at_60) rfl kq_) ?_
      show Gl p e below _ (T3.setTop (mkF m 61 #[.val (.int p1), .val (.int p2), .val (.int p3), .val (.int p4), .val (.int p5), .val (.int x), .val (.int y), .val (.int (own_min x y)), .val (.int (own_max x y)), .val (.int u1), .unset, .unset, .unset, .unset, .unset, .unset, .unset] [(.int p4)]))
      refine Gl.of (fun _ kq_ => X3.ldcInt hx hown (mvT hZ (w0 hw)) (g := (mkF m 61 #[.val (.int p1), .val (.int p2), .val (.int p3), .val (.int p4), .val (.int p5), .val (.int x), .val (.int y), .val (.int (own_min x y)), .val (.int (own_max x y)), .val (.int u1), .unset, .unset, .unset, .unset, .unset, .unset, .unset] [(.int p4)])) rfl (hb hby at_61) _ kq_) ?_
      show Gl p e below _ (T3.setTop (mkF m 63 #[.val (.int p1), .val (.int p2), .val (.int p3), .val (.int p4), .val (.int p5), .val (.int x), .val (.int y), .val (.int (own_min x y)), .val (.int (own_max x y)), .val (.int u1), .unset, .unset, .unset, .unset, .unset, .unset, .unset] [(.int (2147483647 : Int32)), (.int p4)]))
      refine Gl.of (fun _ kq_ => XS.iand X3.here hx rfl (hb hby at_63) rfl kq_) ?_
      show Gl p e below _ (T3.setTop (mkF m 64 #[.val (.int p1), .val (.int p2), .val (.int p3), .val (.int p4), .val (.int p5), .val (.int x), .val (.int y), .val (.int (own_min x y)), .val (.int (own_max x y)), .val (.int u1), .unset, .unset, .unset, .unset, .unset, .unset, .unset] [(.int (p4 &&& (2147483647 : Int32)))]))
      exact J64 _ X3 e3 _ (own_nn _)
    · refine Gl.of (fun _ kq_ => XS.ifNo X3.here hx rfl (hb hby at_52) rfl ((if0 _ _).trans (feq hc52_40).1) kq_) ?_
      show Gl p e below _ (T3.setTop (mkF m 55 #[.val (.int p1), .val (.int p2), .val (.int p3), .val (.int p4), .val (.int p5), .val (.int x), .val (.int y), .val (.int (own_min x y)), .val (.int (own_max x y)), .val (.int u1), .unset, .unset, .unset, .unset, .unset, .unset, .unset] []))
      refine Gl.of (fun _ kq_ => XS.iload X3.here hx rfl (hb hby at_55) rfl kq_) ?_
      show Gl p e below _ (T3.setTop (mkF m 57 #[.val (.int p1), .val (.int p2), .val (.int p3), .val (.int p4), .val (.int p5), .val (.int x), .val (.int y), .val (.int (own_min x y)), .val (.int (own_max x y)), .val (.int u1), .unset, .unset, .unset, .unset, .unset, .unset, .unset] [(.int y)]))
      refine Gl.of (fun _ kq_ => XS.goto X3.here hx rfl (pc0 := 57) (pc' := 64) rfl (hb hby at_57) (by decide) (by decide) kq_) ?_
      show Gl p e below _ (T3.setTop (mkF m 64 #[.val (.int p1), .val (.int p2), .val (.int p3), .val (.int p4), .val (.int p5), .val (.int x), .val (.int y), .val (.int (own_min x y)), .val (.int (own_max x y)), .val (.int u1), .unset, .unset, .unset, .unset, .unset, .unset, .unset] [(.int y)]))
      exact J64 _ X3 e3 _ hy'
  show Gl p e below _ (T2.setTop (mkF m 30 #[.val (.int p1), .val (.int p2), .val (.int p3), .val (.int p4), .val (.int p5), .val (.int x), .val (.int y), .val (.int (own_min x y)), .val (.int (own_max x y)), .unset, .unset, .unset, .unset, .unset, .unset, .unset, .unset] []))
  refine Gl.of (fun _ kq_ => XS.iload X2.here hx rfl (hb hby at_30) rfl kq_) ?_
  show Gl p e below _ (T2.setTop (mkF m 32 #[.val (.int p1), .val (.int p2), .val (.int p3), .val (.int p4), .val (.int p5), .val (.int x), .val (.int y), .val (.int (own_min x y)), .val (.int (own_max x y)), .unset, .unset, .unset, .unset, .unset, .unset, .unset, .unset] [(.int p5)]))
  refine Gl.of (fun _ kq_ => XS.iconst X2.here hx rfl (hb hby at_32) kq_) ?_
  show Gl p e below _ (T2.setTop (mkF m 33 #[.val (.int p1), .val (.int p2), .val (.int p3), .val (.int p4), .val (.int p5), .val (.int x), .val (.int y), .val (.int (own_min x y)), .val (.int (own_max x y)), .unset, .unset, .unset, .unset, .unset, .unset, .unset, .unset] [(.int (1 : Int32)), (.int p5)]))
  refine Gl.of (fun _ kq_ => XS.iand X2.here hx rfl (hb hby at_33) rfl kq_) ?_
  show Gl p e below _ (T2.setTop (mkF m 34 #[.val (.int p1), .val (.int p2), .val (.int p3), .val (.int p4), .val (.int p5), .val (.int x), .val (.int y), .val (.int (own_min x y)), .val (.int (own_max x y)), .unset, .unset, .unset, .unset, .unset, .unset, .unset, .unset] [(.int (p5 &&& (1 : Int32)))]))
  by_cases hc34_41 : (p5 &&& (1 : Int32)) = (0 : Int32)
  · refine Gl.of (fun _ kq_ => XS.ifYes X2.here hx rfl (pc0 := 34) (pc' := 42) rfl (hb hby at_34) rfl ((if0 _ _).trans (teq hc34_41).1) (by decide) (by decide) kq_) ?_
    show Gl p e below _ (T2.setTop (mkF m 42 #[.val (.int p1), .val (.int p2), .val (.int p3), .val (.int p4), .val (.int p5), .val (.int x), .val (.int y), .val (.int (own_min x y)), .val (.int (own_max x y)), .unset, .unset, .unset, .unset, .unset, .unset, .unset, .unset] []))
    refine Gl.of (fun _ kq_ => XS.iloadN X2.here hx rfl (hb hby at_42) rfl kq_) ?_
    show Gl p e below _ (T2.setTop (mkF m 43 #[.val (.int p1), .val (.int p2), .val (.int p3), .val (.int p4), .val (.int p5), .val (.int x), .val (.int y), .val (.int (own_min x y)), .val (.int (own_max x y)), .unset, .unset, .unset, .unset, .unset, .unset, .unset, .unset] [(.int p3)]))
    refine Gl.of (fun _ kq_ => X2.ldcInt hx hown (mvT hZ (w0 hw)) (g := (mkF m 43 #[.val (.int p1), .val (.int p2), .val (.int p3), .val (.int p4), .val (.int p5), .val (.int x), .val (.int y), .val (.int (own_min x y)), .val (.int (own_max x y)), .unset, .unset, .unset, .unset, .unset, .unset, .unset, .unset] [(.int p3)])) rfl (hb hby at_43) _ kq_) ?_
    show Gl p e below _ (T2.setTop (mkF m 45 #[.val (.int p1), .val (.int p2), .val (.int p3), .val (.int p4), .val (.int p5), .val (.int x), .val (.int y), .val (.int (own_min x y)), .val (.int (own_max x y)), .unset, .unset, .unset, .unset, .unset, .unset, .unset, .unset] [(.int (2147483647 : Int32)), (.int p3)]))
    refine Gl.of (fun _ kq_ => XS.iand X2.here hx rfl (hb hby at_45) rfl kq_) ?_
    show Gl p e below _ (T2.setTop (mkF m 46 #[.val (.int p1), .val (.int p2), .val (.int p3), .val (.int p4), .val (.int p5), .val (.int x), .val (.int y), .val (.int (own_min x y)), .val (.int (own_max x y)), .unset, .unset, .unset, .unset, .unset, .unset, .unset, .unset] [(.int (p3 &&& (2147483647 : Int32)))]))
    exact J46 _ X2 e2 _ (own_nn _)
  · refine Gl.of (fun _ kq_ => XS.ifNo X2.here hx rfl (hb hby at_34) rfl ((if0 _ _).trans (feq hc34_41).1) kq_) ?_
    show Gl p e below _ (T2.setTop (mkF m 37 #[.val (.int p1), .val (.int p2), .val (.int p3), .val (.int p4), .val (.int p5), .val (.int x), .val (.int y), .val (.int (own_min x y)), .val (.int (own_max x y)), .unset, .unset, .unset, .unset, .unset, .unset, .unset, .unset] []))
    refine Gl.of (fun _ kq_ => XS.iload X2.here hx rfl (hb hby at_37) rfl kq_) ?_
    show Gl p e below _ (T2.setTop (mkF m 39 #[.val (.int p1), .val (.int p2), .val (.int p3), .val (.int p4), .val (.int p5), .val (.int x), .val (.int y), .val (.int (own_min x y)), .val (.int (own_max x y)), .unset, .unset, .unset, .unset, .unset, .unset, .unset, .unset] [(.int x)]))
    refine Gl.of (fun _ kq_ => XS.goto X2.here hx rfl (pc0 := 39) (pc' := 46) rfl (hb hby at_39) (by decide) (by decide) kq_) ?_
    show Gl p e below _ (T2.setTop (mkF m 46 #[.val (.int p1), .val (.int p2), .val (.int p3), .val (.int p4), .val (.int p5), .val (.int x), .val (.int y), .val (.int (own_min x y)), .val (.int (own_max x y)), .unset, .unset, .unset, .unset, .unset, .unset, .unset, .unset] [(.int x)]))
    exact J46 _ X2 e2 _ hx'
theorem w33 {Z : State} {a0 : Array Value} (hw : ∀ d ∈ tables_1, d.before a0 Z = true) : (Jvm.Cond.initialized "java/lang/Integer$IntegerCache").before a0 Z = true := hw _ (List.mem_of_getElem? (i := 33) rfl)
set_option maxRecDepth 65536 in
set_option maxHeartbeats 40000000 in
theorem comes_1 {Post : Tables → Env → Array Value → State → Outcome → State → Prop} (hpost : ∀ tb e args s v u, (limb_1_1.after args s (.returned v) u = true ∧ limb_1_2.after args s (.returned v) u = true ∧ True) → FrameEnd s (.returned v) u (Jvm.fieldLocs frame_1_writes args s ++ Jvm.arrayLocs frame_1_arrays args s ++ Jvm.staticLocs frame_1_statics s) 16 128 → Post tb e args s (.returned v) u) :
    ArmFor flags0 classFile x code maxLocals ret World_1 tables_1 room_1 Calls_1 rest_1 Pre_1 Post := by
  intro l hfl _ _ p e ha hc hk s m args below hf hA hF happ hP
  obtain ⟨hcalls, hrest, hpre⟩ := hP
  obtain ⟨-, -, -, hnamed, -, -, -, hat⟩ := (Spec.applies_iff hf).mp happ
  obtain ⟨hg, hn⟩ := and_e (Cond.before_iff.mp (show (Jvm.Cond.and given_1 narrow_1).before args s = true from hpre))
  obtain ⟨g_c, q_g_c⟩ := and_e hg
  obtain ⟨g_0, q_g_0⟩ := and_e q_g_c
  obtain ⟨g_1, q_g_1⟩ := and_e q_g_0
  obtain ⟨g_2, q_g_2⟩ := and_e q_g_1
  obtain ⟨g_3, q_g_3⟩ := and_e q_g_2
  have g_4 := q_g_3
  obtain ⟨w_0, w_1, w_2, w_3, w_4, rfl⟩ : ∃ w_0 w_1 w_2 w_3 w_4 : Value, args = #[w_0, w_1, w_2, w_3, w_4] := by
    have hs : args.size = 5 := by simpa [Cond.value, given_1] using g_c
    obtain ⟨L⟩ := args
    match L, hs with
    | [w_0, w_1, w_2, w_3, w_4], _ => exact ⟨w_0, w_1, w_2, w_3, w_4, rfl⟩
  have hw := fun d (hd : d ∈ tables_1) => atoms_spec (ws := Jvm.Cond.code x code maxLocals ret :: tables_1) hat d (List.mem_cons_of_mem _ hd)
  have hfit : Fit s := fun {y c} hc i hi => by
    obtain ⟨ha, rfl⟩ := Array.getElem?_eq_some_iff.mp hc
    have q := List.all_eq_true.mp ((Array.all_eq_true_iff_forall_mem.mp hF) _ (Array.getElem_mem ha)) i (List.mem_range.mpr hi)
    simpa [Array.getElem?_eq_getElem hi] using q
  obtain ⟨p1, ei0⟩ := is_v g_0
  obtain rfl : w_0 = (.int p1) := Option.some.inj ei0
  obtain ⟨p2, ei1⟩ := is_v g_1
  obtain rfl : w_1 = (.int p2) := Option.some.inj ei1
  obtain ⟨p3, ei2⟩ := is_v g_2
  obtain rfl : w_2 = (.int p3) := Option.some.inj ei2
  obtain ⟨p4, ei3⟩ := is_v g_3
  obtain rfl : w_3 = (.int p4) := Option.some.inj ei3
  obtain ⟨p5, ei4⟩ := is_v g_4
  obtain rfl : w_4 = (.int p5) := Option.some.inj ei4
  obtain ⟨r0, q_r0⟩ := and_e (Cond.before_iff.mp (show rest_1_c.before _ s = true from hrest))
  obtain ⟨r1, q_r1⟩ := and_e q_r0
  obtain ⟨r2, q_r2⟩ := and_e q_r1
  obtain ⟨r3, q_r3⟩ := and_e q_r2
  obtain ⟨r4, q_r4⟩ := and_e q_r3
  obtain ⟨r5, q_r5⟩ := and_e q_r4
  obtain ⟨r6, q_r6⟩ := and_e q_r5
  obtain ⟨r7, q_r7⟩ := and_e q_r6
  have r8 := q_r7
  have S1 := Sta.start (eq_at r3) (Or.inl (Cond.before_iff.mpr r1))
  obtain ⟨ac, ea⟩ := arr_v r4
  obtain ⟨clc, Ac⟩ := Arr.start ea r4
  have S2 := Sta.start ea (Or.inr ⟨(w33 hw), Cond.before_iff.mpr r2⟩)
  obtain ⟨z1, z2⟩ := len_at (eq_at r6) ea (Ac.fin (Vm.Alike.refl _))
  have BX : Bxs s ac clc "java/lang/Integer" "I" (256 : Int32) (fun j => .int (j - (128 : Int32))) := Bxs.start (fun idx => ea) Ac z2 z1 (by decide) r7 (fun X j nn q => eqv_i (Term.sub_int (idx_at nn) (Term.int_eval _)) q)
  obtain ⟨n, o, h1, h2, h3, _, L, rfl, hQ, hq⟩ := rm0 l s _ hw tables_1 s.heap p1 p2 p3 p4 p5 ac clc s.heap.size S1 S2 BX (Old.start s) p e ha hc hk s m _ below hf ((Spec.applies_iff_loose hf).mp happ).1 ⟨rfl, State.Warmed39.refl s, rfl⟩ trivial
  obtain ⟨rfl, N⟩ := hQ
  exact ⟨n, _, h1, h2, h3, hpost _ _ _ _ _ _ ⟨Cond.after_iff.mpr rfl, Cond.after_iff.mpr (eq_i res_at (Term.int_eval (1)) rfl), trivial⟩ ⟨hq.1, hq.2.1, (hq.2.2.sift fun y hy => Or.inr (N y hy)).mono (by decide) (by decide)⟩⟩
theorem main_1_1 : Claimed_1_1 := comes_1 fun _ _ _ _ _ _ h hF => ⟨h.1, hF⟩
theorem main_1_2 : Claimed_1_2 := comes_1 fun _ _ _ _ _ _ h hF => ⟨h.2.1, hF⟩
end Jvm.Pilot.@@N@@
namespace Jvm.Pilot.@@N@@
open Jvm Jvm.ClassFile Sem Op Lib Jvm.Free Jvm.Stand Jvm.Pilot.@@N@@.Jvm.D
/-! MADE BY PROGRAM (witnessworld.py) out of the Statement's table words and the real class files: 17 classes; the members and pool entries that the words name. The judged class is class 1, her method 1. -/
namespace start1
open Jvm.ClassFile
def u (s : String) : CpInfo := .utf8 (stringToUtf16 s)
/-- a pool by its gaps: so many unusable entries, then the entry; so many at the end -/
def gap : Nat → List CpInfo → List CpInfo
  | 0, r => r
  | n + 1, r => .unusable :: gap n r
def poolList (es : List (Nat × CpInfo)) (last : Nat) : List CpInfo := es.foldr (fun e r => gap e.1 (e.2 :: r)) (gap last [])
def pool (es : List (Nat × CpInfo)) (last : Nat) : Array CpInfo := ⟨poolList es last⟩
def fileOf (pool : Array CpInfo) (this : Nat) (attrs : Array Attribute := #[]) (ms : Array MethodInfo := #[]) (fl : Nat := 33) (sup : Nat := 0) (ifs : Array Nat := #[]) (fds : Array FieldInfo := #[]) : ClassFile where
  minorVersion := 0
  majorVersion := 65
  constantPool := pool
  accessFlags := fl
  thisClass := this
  superClass := sup
  interfaces := ifs
  fields := fds
  methods := ms
  attributes := attrs
def plain (name : String) (sup : Option ClassId) : Class where
  name := name
  kind := .ordinary
  loader := none
  accessFlags := 33
  super := sup
  interfaces := #[]
  cf := none
  fields := #[]
  methods := #[]
  instanceTypes := #[]
  staticTypes := #[]
  resolved := #[]
  callSites := []
  init := .initialized
  statics := none
  mirror := none

def pool0 : Array CpInfo := pool [(5, u "<init>"), (0, u "()V"), (1, .class_ 10), (1, u "java/lang/Object")] 113

def k0c0 : Code := { maxStack := 0, maxLocals := 1, code := object_method_1_code, exceptionTable := #[], attributes := #[] }
def k0m0 : Method := { name := "<init>", desc := "()V", sig := { parameters := [], returnType := none }, accessFlags := 1, code := some k0c0 }
/-- java/lang/Object -/
def k0 : Class := { plain "java/lang/Object" none with
  accessFlags := 33
  interfaces := #[]
  cf := some (fileOf pool0 8 #[] #[{ accessFlags := 1, nameIndex := 5, descriptorIndex := 6, attributes := #[] }] 33 0 #[] #[])
  fields := #[]
  methods := #[k0m0]
  instanceTypes := #[]
  staticTypes := #[]
  resolved := Array.replicate 124 none
  statics := none }

def pool1 : Array CpInfo := pool [(2, .class_ 4), (1, u "java/lang/Object"), (0, u "<init>"), (0, u "()V"), (0, .integer 2147483647), (0, .methodref 9 10), (0, .class_ 11), (0, .nameAndType 12 13), (0, u "java/lang/Math"), (0, u "min"), (0, u "(II)I"), (0, .methodref 9 15), (0, .nameAndType 16 13), (0, u "max"), (0, .class_ 18), (0, u "com/example/sitterson/sitterson/text/Span"), (0, .methodref 17 20), (0, .nameAndType 5 21), (0, u "(II)V"), (0, .methodref 23 24), (0, .class_ 25), (0, .nameAndType 26 27), (0, u "java/lang/Integer"), (0, u "valueOf"), (0, u "(I)Ljava/lang/Integer;"), (0, .methodref 17 29), (0, .nameAndType 30 31), (0, u "equals"), (0, u "(Ljava/lang/Object;)Z"), (0, .class_ 33), (0, u "com/example/sitterson/sitterson/text/SpanEqualsPinLaw"), (2, u "law"), (0, u "(IIIII)Z")] 3

def k1m0 : Method := { name := "<init>", desc := "()V", sig := { parameters := [], returnType := none }, accessFlags := 1, code := none }
def k1c1 : Code := { maxStack := 4, maxLocals := 17, code := code, exceptionTable := #[], attributes := #[] }
def k1m1 : Method := { name := "law", desc := "(IIIII)Z", sig := { parameters := [.int, .int, .int, .int, .int], returnType := some .boolean }, accessFlags := 9, code := some k1c1 }
/-- com/example/sitterson/sitterson/text/SpanEqualsPinLaw -/
def k1 : Class := { plain "com/example/sitterson/sitterson/text/SpanEqualsPinLaw" (some 0) with
  accessFlags := 49
  interfaces := #[]
  cf := some (fileOf pool1 32 #[] #[{ accessFlags := 1, nameIndex := 5, descriptorIndex := 6, attributes := #[] }, { accessFlags := 9, nameIndex := 36, descriptorIndex := 37, attributes := #[] }] 49 2 #[] #[])
  fields := #[]
  methods := #[k1m0, k1m1]
  instanceTypes := #[]
  staticTypes := #[]
  resolved := Array.replicate 41 none
  statics := none }

def pool2 : Array CpInfo := pool [(1, .class_ 2), (0, u "java/lang/Math"), (1, .class_ 6), (1, u "java/lang/Object"), (0, u "<init>"), (0, u "()V"), (89, .class_ 100), (1, u "java/lang/Math$RandomNumberGeneratorHolder"), (71, u "negativeZeroFloatBits"), (0, u "J"), (2, u "negativeZeroDoubleBits"), (21, u "max"), (2, u "min"), (43, u "$assertionsDisabled"), (0, u "Z"), (88, u "(II)I"), (2, u "twoToTheDoubleScaleDown"), (0, u "D"), (4, u "twoToTheDoubleScaleUp"), (9, u "E"), (3, u "PI"), (2, u "TAU"), (2, u "DEGREES_TO_RADIANS"), (0, u "RADIANS_TO_DEGREES")] 94

def k2m0 : Method := { name := "<init>", desc := "()V", sig := { parameters := [], returnType := none }, accessFlags := 2, code := none }
def k2c1 : Code := { maxStack := 2, maxLocals := 2, code := jdk_29_method_65_code, exceptionTable := #[], attributes := #[] }
def k2m1 : Method := { name := "max", desc := "(II)I", sig := { parameters := [.int, .int], returnType := some .int }, accessFlags := 9, code := some k2c1 }
def k2c2 : Code := { maxStack := 2, maxLocals := 2, code := jdk_29_method_69_code, exceptionTable := #[], attributes := #[] }
def k2m2 : Method := { name := "min", desc := "(II)I", sig := { parameters := [.int, .int], returnType := some .int }, accessFlags := 9, code := some k2c2 }
/-- java/lang/Math -/
def k2 : Class := { plain "java/lang/Math" (some 0) with
  accessFlags := 49
  interfaces := #[]
  cf := some (fileOf pool2 1 #[.nestMembers #[98]] #[{ accessFlags := 2, nameIndex := 7, descriptorIndex := 8, attributes := #[] }, { accessFlags := 9, nameIndex := 198, descriptorIndex := 335, attributes := #[] }, { accessFlags := 9, nameIndex := 201, descriptorIndex := 335, attributes := #[] }] 49 4 #[] #[{ accessFlags := 25, nameIndex := 354, descriptorIndex := 339, attributes := #[] }, { accessFlags := 25, nameIndex := 358, descriptorIndex := 339, attributes := #[] }, { accessFlags := 25, nameIndex := 361, descriptorIndex := 339, attributes := #[] }, { accessFlags := 26, nameIndex := 364, descriptorIndex := 339, attributes := #[] }, { accessFlags := 26, nameIndex := 365, descriptorIndex := 339, attributes := #[] }, { accessFlags := 26, nameIndex := 172, descriptorIndex := 173, attributes := #[] }, { accessFlags := 26, nameIndex := 176, descriptorIndex := 173, attributes := #[] }, { accessFlags := 8, nameIndex := 344, descriptorIndex := 339, attributes := #[] }, { accessFlags := 8, nameIndex := 338, descriptorIndex := 339, attributes := #[] }, { accessFlags := 4120, nameIndex := 245, descriptorIndex := 246, attributes := #[] }])
  fields := #[{ name := "E", type := .double, accessFlags := 25, slot := 0, constantValue := 0 }, { name := "PI", type := .double, accessFlags := 25, slot := 1, constantValue := 0 }, { name := "TAU", type := .double, accessFlags := 25, slot := 2, constantValue := 0 }, { name := "DEGREES_TO_RADIANS", type := .double, accessFlags := 26, slot := 3, constantValue := 0 }, { name := "RADIANS_TO_DEGREES", type := .double, accessFlags := 26, slot := 4, constantValue := 0 }, { name := "negativeZeroFloatBits", type := .long, accessFlags := 26, slot := 5, constantValue := 0 }, { name := "negativeZeroDoubleBits", type := .long, accessFlags := 26, slot := 6, constantValue := 0 }, { name := "twoToTheDoubleScaleUp", type := .double, accessFlags := 8, slot := 7, constantValue := 0 }, { name := "twoToTheDoubleScaleDown", type := .double, accessFlags := 8, slot := 8, constantValue := 0 }, { name := "$assertionsDisabled", type := .boolean, accessFlags := 4120, slot := 9, constantValue := 0 }]
  methods := #[k2m0, k2m1, k2m2]
  instanceTypes := #[]
  staticTypes := #[.double, .double, .double, .double, .double, .long, .long, .double, .double, .boolean]
  resolved := Array.replicate 460 none
  statics := none }

def pool3 : Array CpInfo := pool [(1, .methodref 2 3), (0, .class_ 4), (0, .nameAndType 5 6), (0, u "java/lang/Object"), (0, u "<init>"), (0, u "()V"), (9, .fieldref 17 18), (0, .class_ 19), (0, .nameAndType 20 21), (0, u "com/example/sitterson/sitterson/text/Span"), (0, u "start"), (0, u "I"), (0, .fieldref 17 23), (0, .nameAndType 24 21), (0, u "end"), (1, u "(II)V"), (4, u "equals"), (0, u "(Ljava/lang/Object;)Z")] 22

def k3c0 : Code := { maxStack := 4, maxLocals := 3, code := prog_29_method_1_code, exceptionTable := #[], attributes := #[] }
def k3m0 : Method := { name := "<init>", desc := "(II)V", sig := { parameters := [.int, .int], returnType := none }, accessFlags := 1, code := some k3c0 }
def k3c1 : Code := { maxStack := 2, maxLocals := 3, code := prog_29_method_4_code, exceptionTable := #[], attributes := #[] }
def k3m1 : Method := { name := "equals", desc := "(Ljava/lang/Object;)Z", sig := { parameters := [(.object "java/lang/Object")], returnType := some .boolean }, accessFlags := 1, code := some k3c1 }
/-- com/example/sitterson/sitterson/text/Span -/
def k3 : Class := { plain "com/example/sitterson/sitterson/text/Span" (some 0) with
  accessFlags := 49
  interfaces := #[]
  cf := some (fileOf pool3 17 #[] #[{ accessFlags := 1, nameIndex := 5, descriptorIndex := 26, attributes := #[] }, { accessFlags := 1, nameIndex := 31, descriptorIndex := 32, attributes := #[] }] 49 2 #[] #[{ accessFlags := 18, nameIndex := 20, descriptorIndex := 21, attributes := #[] }, { accessFlags := 18, nameIndex := 24, descriptorIndex := 21, attributes := #[] }])
  fields := #[{ name := "start", type := .int, accessFlags := 18, slot := 0, constantValue := 0 }, { name := "end", type := .int, accessFlags := 18, slot := 1, constantValue := 0 }]
  methods := #[k3m0, k3m1]
  instanceTypes := #[.int, .int]
  staticTypes := #[]
  resolved := Array.replicate 55 none
  statics := none }

def pool4 : Array CpInfo := pool [(1, .class_ 2), (0, u "java/io/Serializable"), (0, .class_ 4), (0, u "java/lang/Object")] 2

/-- java/io/Serializable -/
def k4 : Class := { plain "java/io/Serializable" (some 0) with
  accessFlags := 1537
  interfaces := #[]
  cf := some (fileOf pool4 1 #[] #[] 1537 3 #[] #[])
  fields := #[]
  methods := #[]
  instanceTypes := #[]
  staticTypes := #[]
  resolved := Array.replicate 7 none
  statics := none }

def pool5 : Array CpInfo := pool [(1, .methodref 2 3), (0, .class_ 4), (0, .nameAndType 5 6), (0, u "java/lang/Object"), (0, u "<init>"), (0, u "()V"), (1, .class_ 10), (1, u "java/lang/Number"), (2, .class_ 14), (0, u "java/io/Serializable"), (0, u "serialVersionUID"), (0, u "J")] 20

def k5c0 : Code := { maxStack := 1, maxLocals := 1, code := jdk_18_method_1_code, exceptionTable := #[], attributes := #[] }
def k5m0 : Method := { name := "<init>", desc := "()V", sig := { parameters := [], returnType := none }, accessFlags := 1, code := some k5c0 }
/-- java/lang/Number -/
def k5 : Class := { plain "java/lang/Number" (some 0) with
  accessFlags := 1057
  interfaces := #[4]
  cf := some (fileOf pool5 8 #[] #[{ accessFlags := 1, nameIndex := 5, descriptorIndex := 6, attributes := #[] }] 1057 2 #[13] #[{ accessFlags := 26, nameIndex := 15, descriptorIndex := 16, attributes := #[] }])
  fields := #[{ name := "serialVersionUID", type := .long, accessFlags := 26, slot := 0, constantValue := 0 }]
  methods := #[k5m0]
  instanceTypes := #[]
  staticTypes := #[.long]
  resolved := Array.replicate 37 none
  statics := none }

def pool6 : Array CpInfo := pool [(1, .class_ 2), (0, u "java/lang/Comparable"), (0, .class_ 4), (0, u "java/lang/Object")] 7

/-- java/lang/Comparable -/
def k6 : Class := { plain "java/lang/Comparable" (some 0) with
  accessFlags := 1537
  interfaces := #[]
  cf := some (fileOf pool6 1 #[] #[] 1537 3 #[] #[])
  fields := #[]
  methods := #[]
  instanceTypes := #[]
  staticTypes := #[]
  resolved := Array.replicate 12 none
  statics := none }

def pool7 : Array CpInfo := pool [(1, .class_ 2), (0, u "java/lang/constant/Constable"), (0, .class_ 4), (0, u "java/lang/Object")] 6

/-- java/lang/constant/Constable -/
def k7 : Class := { plain "java/lang/constant/Constable" (some 0) with
  accessFlags := 1537
  interfaces := #[]
  cf := some (fileOf pool7 1 #[] #[] 1537 3 #[] #[])
  fields := #[]
  methods := #[]
  instanceTypes := #[]
  staticTypes := #[]
  resolved := Array.replicate 11 none
  statics := none }

def pool8 : Array CpInfo := pool [(1, .class_ 2), (0, u "java/lang/constant/ConstantDesc"), (0, .class_ 4), (0, u "java/lang/Object")] 32

/-- java/lang/constant/ConstantDesc -/
def k8 : Class := { plain "java/lang/constant/ConstantDesc" (some 0) with
  accessFlags := 1537
  interfaces := #[]
  cf := some (fileOf pool8 1 #[] #[] 1537 3 #[] #[])
  fields := #[]
  methods := #[]
  instanceTypes := #[]
  staticTypes := #[]
  resolved := Array.replicate 37 none
  statics := none }

def pool9 : Array CpInfo := pool [(1, .class_ 2), (0, u "java/lang/Integer"), (16, u "digits"), (0, u "[C"), (46, u "<init>"), (17, u "DigitOnes"), (0, u "[B"), (2, u "DigitTens"), (10, .nameAndType 67 101), (0, u "()V"), (85, u "valueOf"), (0, u "(I)Ljava/lang/Integer;"), (0, .class_ 190), (0, u "java/lang/Integer$IntegerCache"), (0, .fieldref 189 192), (0, .nameAndType 193 194), (0, u "high"), (0, u "I"), (0, .fieldref 189 196), (0, .nameAndType 197 198), (0, u "cache"), (0, u "[Ljava/lang/Integer;"), (0, .methodref 1 200), (0, .nameAndType 67 201), (0, u "(I)V"), (0, .methodref 203 100), (0, .class_ 204), (0, u "java/lang/Number"), (0, .fieldref 1 206), (0, .nameAndType 207 194), (0, u "value"), (94, u "TYPE"), (0, u "Ljava/lang/Class;"), (0, .class_ 305), (0, u "java/lang/Comparable"), (0, .class_ 307), (0, u "java/lang/constant/Constable"), (0, .class_ 309), (0, u "java/lang/constant/ConstantDesc"), (0, u "MIN_VALUE"), (1, u "MAX_VALUE"), (3, u "SIZE"), (1, u "BYTES"), (1, u "serialVersionUID"), (0, u "J")] 131

def k9c0 : Code := { maxStack := 3, maxLocals := 1, code := jdk_33_method_22_code, exceptionTable := #[], attributes := #[] }
def k9m0 : Method := { name := "valueOf", desc := "(I)Ljava/lang/Integer;", sig := { parameters := [.int], returnType := some (.object "java/lang/Integer") }, accessFlags := 9, code := some k9c0 }
def k9c1 : Code := { maxStack := 2, maxLocals := 2, code := jdk_33_method_23_code, exceptionTable := #[], attributes := #[] }
def k9m1 : Method := { name := "<init>", desc := "(I)V", sig := { parameters := [.int], returnType := none }, accessFlags := 1, code := some k9c1 }
/-- java/lang/Integer -/
def k9 : Class := { plain "java/lang/Integer" (some 5) with
  accessFlags := 49
  interfaces := #[6, 7, 8]
  cf := some (fileOf pool9 1 #[.nestMembers #[189]] #[{ accessFlags := 9, nameIndex := 187, descriptorIndex := 188, attributes := #[] }, { accessFlags := 1, nameIndex := 67, descriptorIndex := 201, attributes := #[] }] 49 203 #[304, 306, 308] #[{ accessFlags := 25, nameIndex := 310, descriptorIndex := 194, attributes := #[] }, { accessFlags := 25, nameIndex := 312, descriptorIndex := 194, attributes := #[] }, { accessFlags := 25, nameIndex := 302, descriptorIndex := 303, attributes := #[] }, { accessFlags := 24, nameIndex := 19, descriptorIndex := 20, attributes := #[] }, { accessFlags := 24, nameIndex := 89, descriptorIndex := 86, attributes := #[] }, { accessFlags := 24, nameIndex := 85, descriptorIndex := 86, attributes := #[] }, { accessFlags := 18, nameIndex := 207, descriptorIndex := 194, attributes := #[] }, { accessFlags := 25, nameIndex := 316, descriptorIndex := 194, attributes := #[] }, { accessFlags := 25, nameIndex := 318, descriptorIndex := 194, attributes := #[] }, { accessFlags := 26, nameIndex := 320, descriptorIndex := 321, attributes := #[] }])
  fields := #[{ name := "MIN_VALUE", type := .int, accessFlags := 25, slot := 0, constantValue := 0 }, { name := "MAX_VALUE", type := .int, accessFlags := 25, slot := 1, constantValue := 0 }, { name := "TYPE", type := (.object "java/lang/Class"), accessFlags := 25, slot := 2, constantValue := 0 }, { name := "digits", type := (.array .char), accessFlags := 24, slot := 3, constantValue := 0 }, { name := "DigitTens", type := (.array .byte), accessFlags := 24, slot := 4, constantValue := 0 }, { name := "DigitOnes", type := (.array .byte), accessFlags := 24, slot := 5, constantValue := 0 }, { name := "value", type := .int, accessFlags := 18, slot := 0, constantValue := 0 }, { name := "SIZE", type := .int, accessFlags := 25, slot := 6, constantValue := 0 }, { name := "BYTES", type := .int, accessFlags := 25, slot := 7, constantValue := 0 }, { name := "serialVersionUID", type := .long, accessFlags := 26, slot := 8, constantValue := 0 }]
  methods := #[k9m0, k9m1]
  instanceTypes := #[.int]
  staticTypes := #[.int, .int, (.object "java/lang/Class"), (.array .char), (.array .byte), (.array .byte), .int, .int, .long]
  resolved := Array.replicate 453 none
  statics := none }

def pool10 : Array CpInfo := pool [(2, .class_ 4), (1, u "java/lang/Object"), (0, u "<init>"), (0, u "()V"), (0, .class_ 8), (0, u "java/lang/Integer"), (7, .class_ 18), (1, u "java/lang/Integer$IntegerCache"), (0, u "$assertionsDisabled"), (0, u "Z"), (26, u "high"), (0, u "I"), (8, u "archivedCache"), (0, u "[Ljava/lang/Integer;"), (12, u "cache"), (0, u "low")] 27

def k10m0 : Method := { name := "<init>", desc := "()V", sig := { parameters := [], returnType := none }, accessFlags := 2, code := none }
/-- java/lang/Integer$IntegerCache -/
def k10 : Class := { plain "java/lang/Integer$IntegerCache" (some 0) with
  accessFlags := 48
  interfaces := #[]
  cf := some (fileOf pool10 16 #[.nestHost 7] #[{ accessFlags := 2, nameIndex := 5, descriptorIndex := 6, attributes := #[] }] 48 2 #[] #[{ accessFlags := 24, nameIndex := 72, descriptorIndex := 48, attributes := #[] }, { accessFlags := 24, nameIndex := 47, descriptorIndex := 48, attributes := #[] }, { accessFlags := 24, nameIndex := 71, descriptorIndex := 58, attributes := #[] }, { accessFlags := 8, nameIndex := 57, descriptorIndex := 58, attributes := #[] }, { accessFlags := 4120, nameIndex := 19, descriptorIndex := 20, attributes := #[] }])
  fields := #[{ name := "low", type := .int, accessFlags := 24, slot := 0, constantValue := 0 }, { name := "high", type := .int, accessFlags := 24, slot := 1, constantValue := 0 }, { name := "cache", type := (.array (.object "java/lang/Integer")), accessFlags := 24, slot := 2, constantValue := 0 }, { name := "archivedCache", type := (.array (.object "java/lang/Integer")), accessFlags := 8, slot := 3, constantValue := 0 }, { name := "$assertionsDisabled", type := .boolean, accessFlags := 4120, slot := 4, constantValue := 0 }]
  methods := #[k10m0]
  instanceTypes := #[]
  staticTypes := #[.int, .int, (.array (.object "java/lang/Integer")), (.array (.object "java/lang/Integer")), .boolean]
  resolved := Array.replicate 100 none
  statics := some 0 }

def pool11 : Array CpInfo := pool [(1, u "java/lang/Cloneable"), (0, .class_ 1), (0, u "java/lang/Object"), (0, .class_ 3)] 3

/-- java/lang/Cloneable -/
def k11 : Class := { plain "java/lang/Cloneable" (some 0) with
  accessFlags := 1537
  interfaces := #[]
  cf := some (fileOf pool11 2 #[] #[] 1537 4 #[] #[])
  fields := #[]
  methods := #[]
  instanceTypes := #[]
  staticTypes := #[]
  resolved := Array.replicate 8 none
  statics := none }

/-- the primitive byte -/
def k12 : Class := { plain "byte" none with kind := .primitive 'B', accessFlags := 0x411 }
/-- [B -/
def k13 : Class := { plain "[B" (some 0) with kind := .array 12 .byte, interfaces := #[11, 4], accessFlags := 1041 }

/-- the primitive int -/
def k14 : Class := { plain "int" none with kind := .primitive 'I', accessFlags := 0x411 }
/-- [I -/
def k15 : Class := { plain "[I" (some 0) with kind := .array 14 .int, interfaces := #[11, 4], accessFlags := 1041 }

/-- [Ljava/lang/Integer; -/
def k16 : Class := { plain "[Ljava/lang/Integer;" (some 0) with kind := .array 9 (.object "java/lang/Integer"), interfaces := #[11, 4], accessFlags := 1041 }

def heap : Heap := #[{ cls := 10, slots := #[.int 0, .int 127, .ref 1, .null, .int 0], vm := .statics 10 },
  { cls := 16, slots := #[.ref 2, .ref 3, .ref 4, .ref 5, .ref 6, .ref 7, .ref 8, .ref 9, .ref 10, .ref 11, .ref 12, .ref 13, .ref 14, .ref 15, .ref 16, .ref 17, .ref 18, .ref 19, .ref 20, .ref 21, .ref 22, .ref 23, .ref 24, .ref 25, .ref 26, .ref 27, .ref 28, .ref 29, .ref 30, .ref 31, .ref 32, .ref 33, .ref 34, .ref 35, .ref 36, .ref 37, .ref 38, .ref 39, .ref 40, .ref 41, .ref 42, .ref 43, .ref 44, .ref 45, .ref 46, .ref 47, .ref 48, .ref 49, .ref 50, .ref 51, .ref 52, .ref 53, .ref 54, .ref 55, .ref 56, .ref 57, .ref 58, .ref 59, .ref 60, .ref 61, .ref 62, .ref 63, .ref 64, .ref 65, .ref 66, .ref 67, .ref 68, .ref 69, .ref 70, .ref 71, .ref 72, .ref 73, .ref 74, .ref 75, .ref 76, .ref 77, .ref 78, .ref 79, .ref 80, .ref 81, .ref 82, .ref 83, .ref 84, .ref 85, .ref 86, .ref 87, .ref 88, .ref 89, .ref 90, .ref 91, .ref 92, .ref 93, .ref 94, .ref 95, .ref 96, .ref 97, .ref 98, .ref 99, .ref 100, .ref 101, .ref 102, .ref 103, .ref 104, .ref 105, .ref 106, .ref 107, .ref 108, .ref 109, .ref 110, .ref 111, .ref 112, .ref 113, .ref 114, .ref 115, .ref 116, .ref 117, .ref 118, .ref 119, .ref 120, .ref 121, .ref 122, .ref 123, .ref 124, .ref 125, .ref 126, .ref 127, .ref 128, .ref 129, .ref 130, .ref 131, .ref 132, .ref 133, .ref 134, .ref 135, .ref 136, .ref 137, .ref 138, .ref 139, .ref 140, .ref 141, .ref 142, .ref 143, .ref 144, .ref 145, .ref 146, .ref 147, .ref 148, .ref 149, .ref 150, .ref 151, .ref 152, .ref 153, .ref 154, .ref 155, .ref 156, .ref 157, .ref 158, .ref 159, .ref 160, .ref 161, .ref 162, .ref 163, .ref 164, .ref 165, .ref 166, .ref 167, .ref 168, .ref 169, .ref 170, .ref 171, .ref 172, .ref 173, .ref 174, .ref 175, .ref 176, .ref 177, .ref 178, .ref 179, .ref 180, .ref 181, .ref 182, .ref 183, .ref 184, .ref 185, .ref 186, .ref 187, .ref 188, .ref 189, .ref 190, .ref 191, .ref 192, .ref 193, .ref 194, .ref 195, .ref 196, .ref 197, .ref 198, .ref 199, .ref 200, .ref 201, .ref 202, .ref 203, .ref 204, .ref 205, .ref 206, .ref 207, .ref 208, .ref 209, .ref 210, .ref 211, .ref 212, .ref 213, .ref 214, .ref 215, .ref 216, .ref 217, .ref 218, .ref 219, .ref 220, .ref 221, .ref 222, .ref 223, .ref 224, .ref 225, .ref 226, .ref 227, .ref 228, .ref 229, .ref 230, .ref 231, .ref 232, .ref 233, .ref 234, .ref 235, .ref 236, .ref 237, .ref 238, .ref 239, .ref 240, .ref 241, .ref 242, .ref 243, .ref 244, .ref 245, .ref 246, .ref 247, .ref 248, .ref 249, .ref 250, .ref 251, .ref 252, .ref 253, .ref 254, .ref 255, .ref 256, .ref 257], vm := .none },
  { cls := 9, slots := #[.int (-128)], vm := .none },
  { cls := 9, slots := #[.int (-127)], vm := .none },
  { cls := 9, slots := #[.int (-126)], vm := .none },
  { cls := 9, slots := #[.int (-125)], vm := .none },
  { cls := 9, slots := #[.int (-124)], vm := .none },
  { cls := 9, slots := #[.int (-123)], vm := .none },
  { cls := 9, slots := #[.int (-122)], vm := .none },
  { cls := 9, slots := #[.int (-121)], vm := .none },
  { cls := 9, slots := #[.int (-120)], vm := .none },
  { cls := 9, slots := #[.int (-119)], vm := .none },
  { cls := 9, slots := #[.int (-118)], vm := .none },
  { cls := 9, slots := #[.int (-117)], vm := .none },
  { cls := 9, slots := #[.int (-116)], vm := .none },
  { cls := 9, slots := #[.int (-115)], vm := .none },
  { cls := 9, slots := #[.int (-114)], vm := .none },
  { cls := 9, slots := #[.int (-113)], vm := .none },
  { cls := 9, slots := #[.int (-112)], vm := .none },
  { cls := 9, slots := #[.int (-111)], vm := .none },
  { cls := 9, slots := #[.int (-110)], vm := .none },
  { cls := 9, slots := #[.int (-109)], vm := .none },
  { cls := 9, slots := #[.int (-108)], vm := .none },
  { cls := 9, slots := #[.int (-107)], vm := .none },
  { cls := 9, slots := #[.int (-106)], vm := .none },
  { cls := 9, slots := #[.int (-105)], vm := .none },
  { cls := 9, slots := #[.int (-104)], vm := .none },
  { cls := 9, slots := #[.int (-103)], vm := .none },
  { cls := 9, slots := #[.int (-102)], vm := .none },
  { cls := 9, slots := #[.int (-101)], vm := .none },
  { cls := 9, slots := #[.int (-100)], vm := .none },
  { cls := 9, slots := #[.int (-99)], vm := .none },
  { cls := 9, slots := #[.int (-98)], vm := .none },
  { cls := 9, slots := #[.int (-97)], vm := .none },
  { cls := 9, slots := #[.int (-96)], vm := .none },
  { cls := 9, slots := #[.int (-95)], vm := .none },
  { cls := 9, slots := #[.int (-94)], vm := .none },
  { cls := 9, slots := #[.int (-93)], vm := .none },
  { cls := 9, slots := #[.int (-92)], vm := .none },
  { cls := 9, slots := #[.int (-91)], vm := .none },
  { cls := 9, slots := #[.int (-90)], vm := .none },
  { cls := 9, slots := #[.int (-89)], vm := .none },
  { cls := 9, slots := #[.int (-88)], vm := .none },
  { cls := 9, slots := #[.int (-87)], vm := .none },
  { cls := 9, slots := #[.int (-86)], vm := .none },
  { cls := 9, slots := #[.int (-85)], vm := .none },
  { cls := 9, slots := #[.int (-84)], vm := .none },
  { cls := 9, slots := #[.int (-83)], vm := .none },
  { cls := 9, slots := #[.int (-82)], vm := .none },
  { cls := 9, slots := #[.int (-81)], vm := .none },
  { cls := 9, slots := #[.int (-80)], vm := .none },
  { cls := 9, slots := #[.int (-79)], vm := .none },
  { cls := 9, slots := #[.int (-78)], vm := .none },
  { cls := 9, slots := #[.int (-77)], vm := .none },
  { cls := 9, slots := #[.int (-76)], vm := .none },
  { cls := 9, slots := #[.int (-75)], vm := .none },
  { cls := 9, slots := #[.int (-74)], vm := .none },
  { cls := 9, slots := #[.int (-73)], vm := .none },
  { cls := 9, slots := #[.int (-72)], vm := .none },
  { cls := 9, slots := #[.int (-71)], vm := .none },
  { cls := 9, slots := #[.int (-70)], vm := .none },
  { cls := 9, slots := #[.int (-69)], vm := .none },
  { cls := 9, slots := #[.int (-68)], vm := .none },
  { cls := 9, slots := #[.int (-67)], vm := .none },
  { cls := 9, slots := #[.int (-66)], vm := .none },
  { cls := 9, slots := #[.int (-65)], vm := .none },
  { cls := 9, slots := #[.int (-64)], vm := .none },
  { cls := 9, slots := #[.int (-63)], vm := .none },
  { cls := 9, slots := #[.int (-62)], vm := .none },
  { cls := 9, slots := #[.int (-61)], vm := .none },
  { cls := 9, slots := #[.int (-60)], vm := .none },
  { cls := 9, slots := #[.int (-59)], vm := .none },
  { cls := 9, slots := #[.int (-58)], vm := .none },
  { cls := 9, slots := #[.int (-57)], vm := .none },
  { cls := 9, slots := #[.int (-56)], vm := .none },
  { cls := 9, slots := #[.int (-55)], vm := .none },
  { cls := 9, slots := #[.int (-54)], vm := .none },
  { cls := 9, slots := #[.int (-53)], vm := .none },
  { cls := 9, slots := #[.int (-52)], vm := .none },
  { cls := 9, slots := #[.int (-51)], vm := .none },
  { cls := 9, slots := #[.int (-50)], vm := .none },
  { cls := 9, slots := #[.int (-49)], vm := .none },
  { cls := 9, slots := #[.int (-48)], vm := .none },
  { cls := 9, slots := #[.int (-47)], vm := .none },
  { cls := 9, slots := #[.int (-46)], vm := .none },
  { cls := 9, slots := #[.int (-45)], vm := .none },
  { cls := 9, slots := #[.int (-44)], vm := .none },
  { cls := 9, slots := #[.int (-43)], vm := .none },
  { cls := 9, slots := #[.int (-42)], vm := .none },
  { cls := 9, slots := #[.int (-41)], vm := .none },
  { cls := 9, slots := #[.int (-40)], vm := .none },
  { cls := 9, slots := #[.int (-39)], vm := .none },
  { cls := 9, slots := #[.int (-38)], vm := .none },
  { cls := 9, slots := #[.int (-37)], vm := .none },
  { cls := 9, slots := #[.int (-36)], vm := .none },
  { cls := 9, slots := #[.int (-35)], vm := .none },
  { cls := 9, slots := #[.int (-34)], vm := .none },
  { cls := 9, slots := #[.int (-33)], vm := .none },
  { cls := 9, slots := #[.int (-32)], vm := .none },
  { cls := 9, slots := #[.int (-31)], vm := .none },
  { cls := 9, slots := #[.int (-30)], vm := .none },
  { cls := 9, slots := #[.int (-29)], vm := .none },
  { cls := 9, slots := #[.int (-28)], vm := .none },
  { cls := 9, slots := #[.int (-27)], vm := .none },
  { cls := 9, slots := #[.int (-26)], vm := .none },
  { cls := 9, slots := #[.int (-25)], vm := .none },
  { cls := 9, slots := #[.int (-24)], vm := .none },
  { cls := 9, slots := #[.int (-23)], vm := .none },
  { cls := 9, slots := #[.int (-22)], vm := .none },
  { cls := 9, slots := #[.int (-21)], vm := .none },
  { cls := 9, slots := #[.int (-20)], vm := .none },
  { cls := 9, slots := #[.int (-19)], vm := .none },
  { cls := 9, slots := #[.int (-18)], vm := .none },
  { cls := 9, slots := #[.int (-17)], vm := .none },
  { cls := 9, slots := #[.int (-16)], vm := .none },
  { cls := 9, slots := #[.int (-15)], vm := .none },
  { cls := 9, slots := #[.int (-14)], vm := .none },
  { cls := 9, slots := #[.int (-13)], vm := .none },
  { cls := 9, slots := #[.int (-12)], vm := .none },
  { cls := 9, slots := #[.int (-11)], vm := .none },
  { cls := 9, slots := #[.int (-10)], vm := .none },
  { cls := 9, slots := #[.int (-9)], vm := .none },
  { cls := 9, slots := #[.int (-8)], vm := .none },
  { cls := 9, slots := #[.int (-7)], vm := .none },
  { cls := 9, slots := #[.int (-6)], vm := .none },
  { cls := 9, slots := #[.int (-5)], vm := .none },
  { cls := 9, slots := #[.int (-4)], vm := .none },
  { cls := 9, slots := #[.int (-3)], vm := .none },
  { cls := 9, slots := #[.int (-2)], vm := .none },
  { cls := 9, slots := #[.int (-1)], vm := .none },
  { cls := 9, slots := #[.int (0)], vm := .none },
  { cls := 9, slots := #[.int (1)], vm := .none },
  { cls := 9, slots := #[.int (2)], vm := .none },
  { cls := 9, slots := #[.int (3)], vm := .none },
  { cls := 9, slots := #[.int (4)], vm := .none },
  { cls := 9, slots := #[.int (5)], vm := .none },
  { cls := 9, slots := #[.int (6)], vm := .none },
  { cls := 9, slots := #[.int (7)], vm := .none },
  { cls := 9, slots := #[.int (8)], vm := .none },
  { cls := 9, slots := #[.int (9)], vm := .none },
  { cls := 9, slots := #[.int (10)], vm := .none },
  { cls := 9, slots := #[.int (11)], vm := .none },
  { cls := 9, slots := #[.int (12)], vm := .none },
  { cls := 9, slots := #[.int (13)], vm := .none },
  { cls := 9, slots := #[.int (14)], vm := .none },
  { cls := 9, slots := #[.int (15)], vm := .none },
  { cls := 9, slots := #[.int (16)], vm := .none },
  { cls := 9, slots := #[.int (17)], vm := .none },
  { cls := 9, slots := #[.int (18)], vm := .none },
  { cls := 9, slots := #[.int (19)], vm := .none },
  { cls := 9, slots := #[.int (20)], vm := .none },
  { cls := 9, slots := #[.int (21)], vm := .none },
  { cls := 9, slots := #[.int (22)], vm := .none },
  { cls := 9, slots := #[.int (23)], vm := .none },
  { cls := 9, slots := #[.int (24)], vm := .none },
  { cls := 9, slots := #[.int (25)], vm := .none },
  { cls := 9, slots := #[.int (26)], vm := .none },
  { cls := 9, slots := #[.int (27)], vm := .none },
  { cls := 9, slots := #[.int (28)], vm := .none },
  { cls := 9, slots := #[.int (29)], vm := .none },
  { cls := 9, slots := #[.int (30)], vm := .none },
  { cls := 9, slots := #[.int (31)], vm := .none },
  { cls := 9, slots := #[.int (32)], vm := .none },
  { cls := 9, slots := #[.int (33)], vm := .none },
  { cls := 9, slots := #[.int (34)], vm := .none },
  { cls := 9, slots := #[.int (35)], vm := .none },
  { cls := 9, slots := #[.int (36)], vm := .none },
  { cls := 9, slots := #[.int (37)], vm := .none },
  { cls := 9, slots := #[.int (38)], vm := .none },
  { cls := 9, slots := #[.int (39)], vm := .none },
  { cls := 9, slots := #[.int (40)], vm := .none },
  { cls := 9, slots := #[.int (41)], vm := .none },
  { cls := 9, slots := #[.int (42)], vm := .none },
  { cls := 9, slots := #[.int (43)], vm := .none },
  { cls := 9, slots := #[.int (44)], vm := .none },
  { cls := 9, slots := #[.int (45)], vm := .none },
  { cls := 9, slots := #[.int (46)], vm := .none },
  { cls := 9, slots := #[.int (47)], vm := .none },
  { cls := 9, slots := #[.int (48)], vm := .none },
  { cls := 9, slots := #[.int (49)], vm := .none },
  { cls := 9, slots := #[.int (50)], vm := .none },
  { cls := 9, slots := #[.int (51)], vm := .none },
  { cls := 9, slots := #[.int (52)], vm := .none },
  { cls := 9, slots := #[.int (53)], vm := .none },
  { cls := 9, slots := #[.int (54)], vm := .none },
  { cls := 9, slots := #[.int (55)], vm := .none },
  { cls := 9, slots := #[.int (56)], vm := .none },
  { cls := 9, slots := #[.int (57)], vm := .none },
  { cls := 9, slots := #[.int (58)], vm := .none },
  { cls := 9, slots := #[.int (59)], vm := .none },
  { cls := 9, slots := #[.int (60)], vm := .none },
  { cls := 9, slots := #[.int (61)], vm := .none },
  { cls := 9, slots := #[.int (62)], vm := .none },
  { cls := 9, slots := #[.int (63)], vm := .none },
  { cls := 9, slots := #[.int (64)], vm := .none },
  { cls := 9, slots := #[.int (65)], vm := .none },
  { cls := 9, slots := #[.int (66)], vm := .none },
  { cls := 9, slots := #[.int (67)], vm := .none },
  { cls := 9, slots := #[.int (68)], vm := .none },
  { cls := 9, slots := #[.int (69)], vm := .none },
  { cls := 9, slots := #[.int (70)], vm := .none },
  { cls := 9, slots := #[.int (71)], vm := .none },
  { cls := 9, slots := #[.int (72)], vm := .none },
  { cls := 9, slots := #[.int (73)], vm := .none },
  { cls := 9, slots := #[.int (74)], vm := .none },
  { cls := 9, slots := #[.int (75)], vm := .none },
  { cls := 9, slots := #[.int (76)], vm := .none },
  { cls := 9, slots := #[.int (77)], vm := .none },
  { cls := 9, slots := #[.int (78)], vm := .none },
  { cls := 9, slots := #[.int (79)], vm := .none },
  { cls := 9, slots := #[.int (80)], vm := .none },
  { cls := 9, slots := #[.int (81)], vm := .none },
  { cls := 9, slots := #[.int (82)], vm := .none },
  { cls := 9, slots := #[.int (83)], vm := .none },
  { cls := 9, slots := #[.int (84)], vm := .none },
  { cls := 9, slots := #[.int (85)], vm := .none },
  { cls := 9, slots := #[.int (86)], vm := .none },
  { cls := 9, slots := #[.int (87)], vm := .none },
  { cls := 9, slots := #[.int (88)], vm := .none },
  { cls := 9, slots := #[.int (89)], vm := .none },
  { cls := 9, slots := #[.int (90)], vm := .none },
  { cls := 9, slots := #[.int (91)], vm := .none },
  { cls := 9, slots := #[.int (92)], vm := .none },
  { cls := 9, slots := #[.int (93)], vm := .none },
  { cls := 9, slots := #[.int (94)], vm := .none },
  { cls := 9, slots := #[.int (95)], vm := .none },
  { cls := 9, slots := #[.int (96)], vm := .none },
  { cls := 9, slots := #[.int (97)], vm := .none },
  { cls := 9, slots := #[.int (98)], vm := .none },
  { cls := 9, slots := #[.int (99)], vm := .none },
  { cls := 9, slots := #[.int (100)], vm := .none },
  { cls := 9, slots := #[.int (101)], vm := .none },
  { cls := 9, slots := #[.int (102)], vm := .none },
  { cls := 9, slots := #[.int (103)], vm := .none },
  { cls := 9, slots := #[.int (104)], vm := .none },
  { cls := 9, slots := #[.int (105)], vm := .none },
  { cls := 9, slots := #[.int (106)], vm := .none },
  { cls := 9, slots := #[.int (107)], vm := .none },
  { cls := 9, slots := #[.int (108)], vm := .none },
  { cls := 9, slots := #[.int (109)], vm := .none },
  { cls := 9, slots := #[.int (110)], vm := .none },
  { cls := 9, slots := #[.int (111)], vm := .none },
  { cls := 9, slots := #[.int (112)], vm := .none },
  { cls := 9, slots := #[.int (113)], vm := .none },
  { cls := 9, slots := #[.int (114)], vm := .none },
  { cls := 9, slots := #[.int (115)], vm := .none },
  { cls := 9, slots := #[.int (116)], vm := .none },
  { cls := 9, slots := #[.int (117)], vm := .none },
  { cls := 9, slots := #[.int (118)], vm := .none },
  { cls := 9, slots := #[.int (119)], vm := .none },
  { cls := 9, slots := #[.int (120)], vm := .none },
  { cls := 9, slots := #[.int (121)], vm := .none },
  { cls := 9, slots := #[.int (122)], vm := .none },
  { cls := 9, slots := #[.int (123)], vm := .none },
  { cls := 9, slots := #[.int (124)], vm := .none },
  { cls := 9, slots := #[.int (125)], vm := .none },
  { cls := 9, slots := #[.int (126)], vm := .none },
  { cls := 9, slots := #[.int (127)], vm := .none }]
def classes : Array Class := #[k0, k1, k2, k3, k4, k5, k6, k7, k8, k9, k10, k11, k12, k13, k14, k15, k16]
def interned : List (Array UInt16 × Addr) := []
def slotsUsed : Nat := 517
def theMethod : MethodId := ⟨1, 1⟩
def args0 : Array Value := #[.int 5, .int 9, .int 5, .int 9, .int 3]
def aboutOver (below : List Frame) : State where
  vm := { classes := classes, interned := interned.toArray }
  heap := heap
  slotsUsed := slotsUsed
  threads := #[{ frames := .invoking theMethod args0 :: below }]
def below0 : List Frame := [.native { method := ⟨0, 0⟩, args := #[] }]
def about1 : State := aboutOver below0
def p0 : Program := .bare "" "" ""
def e0 : Env := launch0.env 0 0 0
theorem w_frames : about1.frames = Frame.invoking theMethod args0 :: below0 := rfl
set_option maxRecDepth 65536 in
theorem w_args : argsFit about1.vm theMethod args0 = true := by decide +kernel
set_option maxRecDepth 65536 in
theorem w_heap : heapFits about1 = true := by decide +kernel
set_option maxRecDepth 65536 in
theorem w_runnable : about1.curStatus? = some .runnable := by decide +kernel
set_option maxRecDepth 65536 in
theorem w_alone : about1.alone = true := by decide +kernel
set_option maxRecDepth 65536 in
theorem w_named : about1.methodNamed? x = some theMethod := by decide +kernel
set_option maxRecDepth 65536 in
theorem w_hears : about1.hears theMethod below0 = true := by decide +kernel
set_option maxRecDepth 65536 in
theorem w_ripe : about1.ripe theMethod args0 below0 = true := by decide +kernel
theorem w_running : about1.status = .running := rfl
set_option maxRecDepth 65536 in
theorem w_room : about1.hasRoom e0.platform room_1 = true :=
  launch0.hasRoom_least _ room_1 (by decide +kernel) (by decide +kernel) (by decide +kernel) (by decide +kernel) (by decide +kernel) (by decide +kernel)
theorem allAtoms_all (ts : List Jvm.Cond) (a : Array Jvm.Value) (st : Jvm.State) : (allAtoms ts).before a st = ts.all (fun c => c.before a st) := by
  induction ts with
  | nil => rfl
  | cons c t ih =>
    show (Jvm.Cond.and c (allAtoms t)).before a st = _
    rw [Jvm.Cond.before_and, ih, List.all_cons]
def words1 : List Jvm.Cond := Jvm.Cond.code x code maxLocals ret :: tables_1
/-- a 'code' word, met by the world's own term for the bytes: nothing is compared byte by byte -/
theorem code_word {y : MethodName} {bytes : ByteArray} {mx : Nat} {rt : Option FieldType} {a : Array Value} {s : State} {m : MethodId} {meth : Method} {c : Code} (h1 : s.methodNamed? y = some m) (h2 : s.vm.method? m = some meth) (h3 : meth.code = some c) (h4 : c.code = bytes)
    (h5 : (c.maxLocals == mx && c.exceptionTable.isEmpty && decide (c.maxStack ≤ mostOperands) && decide (meth.sig.returnType = rt) && !meth.locks && decide (parseMethodDescriptor y.desc = some meth.sig)) = true) : (Jvm.Cond.code y bytes mx rt).before a s = true := by
  simp only [Bool.and_eq_true, beq_iff_eq, Bool.not_eq_true', decide_eq_true_eq] at h5
  obtain ⟨⟨⟨⟨⟨g1, g2⟩, g3⟩, g4⟩, g5⟩, g6⟩ := h5
  simp [Cond.before, Cond.holds, Cond.value, h1, h2, h3, h4, g1, g2, g3, g4, g5, g6]
def isCode : Jvm.Cond → Bool
  | .code _ _ _ _ => true
  | _ => false
theorem all_split {L : List Jvm.Cond} {P : Jvm.Cond → Bool} (h1 : L.all (fun c => isCode c || P c) = true) (h2 : ∀ c ∈ L.filter isCode, P c = true) : L.all P = true := by
  refine List.all_eq_true.mpr fun c hc => ?_
  have h := List.all_eq_true.mp h1 c hc
  rcases Bool.eq_false_or_eq_true (isCode c) with hi | hi
  · exact h2 c (List.mem_filter.mpr ⟨hc, hi⟩)
  · simpa [hi] using h
set_option maxRecDepth 65536 in
theorem w_c0 : (Jvm.Cond.code x code maxLocals ret).before args0 about1 = true := code_word (m := ⟨1, 1⟩) (meth := k1m1) (c := k1c1) (by decide +kernel) rfl rfl rfl (by decide +kernel)
set_option maxRecDepth 65536 in
theorem w_c1 : (Jvm.Cond.code ({ cls := "java/lang/Math", name := "min", desc := "(II)I" } : Jvm.MethodName) jdk_29_method_69_code (2 : Nat) (Option.some Jvm.ClassFile.FieldType.int)).before args0 about1 = true := code_word (m := ⟨2, 2⟩) (meth := k2m2) (c := k2c2) (by decide +kernel) rfl rfl rfl (by decide +kernel)
set_option maxRecDepth 65536 in
theorem w_c2 : (Jvm.Cond.code ({ cls := "java/lang/Math", name := "max", desc := "(II)I" } : Jvm.MethodName) jdk_29_method_65_code (2 : Nat) (Option.some Jvm.ClassFile.FieldType.int)).before args0 about1 = true := code_word (m := ⟨2, 1⟩) (meth := k2m1) (c := k2c1) (by decide +kernel) rfl rfl rfl (by decide +kernel)
set_option maxRecDepth 65536 in
theorem w_c3 : (Jvm.Cond.code ({ cls := "com/example/sitterson/sitterson/text/Span", name := "<init>", desc := "(II)V" } : Jvm.MethodName) prog_29_method_1_code (3 : Nat) (Option.none : Option Jvm.ClassFile.FieldType)).before args0 about1 = true := code_word (m := ⟨3, 0⟩) (meth := k3m0) (c := k3c0) (by decide +kernel) rfl rfl rfl (by decide +kernel)
set_option maxRecDepth 65536 in
theorem w_c4 : (Jvm.Cond.code ({ cls := "java/lang/Object", name := "<init>", desc := "()V" } : Jvm.MethodName) object_method_1_code (1 : Nat) (Option.none : Option Jvm.ClassFile.FieldType)).before args0 about1 = true := code_word (m := ⟨0, 0⟩) (meth := k0m0) (c := k0c0) (by decide +kernel) rfl rfl rfl (by decide +kernel)
set_option maxRecDepth 65536 in
theorem w_c5 : (Jvm.Cond.code ({ cls := "com/example/sitterson/sitterson/text/Span", name := "equals", desc := "(Ljava/lang/Object;)Z" } : Jvm.MethodName) prog_29_method_4_code (3 : Nat) (Option.some Jvm.ClassFile.FieldType.boolean)).before args0 about1 = true := code_word (m := ⟨3, 1⟩) (meth := k3m1) (c := k3c1) (by decide +kernel) rfl rfl rfl (by decide +kernel)
set_option maxRecDepth 65536 in
theorem w_c6 : (Jvm.Cond.code ({ cls := "java/lang/Integer", name := "valueOf", desc := "(I)Ljava/lang/Integer;" } : Jvm.MethodName) jdk_33_method_22_code (1 : Nat) (Option.some (Jvm.ClassFile.FieldType.object "java/lang/Integer"))).before args0 about1 = true := code_word (m := ⟨9, 0⟩) (meth := k9m0) (c := k9c0) (by decide +kernel) rfl rfl rfl (by decide +kernel)
set_option maxRecDepth 65536 in
theorem w_c7 : (Jvm.Cond.code ({ cls := "java/lang/Integer", name := "<init>", desc := "(I)V" } : Jvm.MethodName) jdk_33_method_23_code (2 : Nat) (Option.none : Option Jvm.ClassFile.FieldType)).before args0 about1 = true := code_word (m := ⟨9, 1⟩) (meth := k9m1) (c := k9c1) (by decide +kernel) rfl rfl rfl (by decide +kernel)
set_option maxRecDepth 65536 in
theorem w_c8 : (Jvm.Cond.code ({ cls := "java/lang/Number", name := "<init>", desc := "()V" } : Jvm.MethodName) jdk_18_method_1_code (1 : Nat) (Option.none : Option Jvm.ClassFile.FieldType)).before args0 about1 = true := code_word (m := ⟨5, 0⟩) (meth := k5m0) (c := k5c0) (by decide +kernel) rfl rfl rfl (by decide +kernel)
def codes1 : List Jvm.Cond := [Jvm.Cond.code x code maxLocals ret, Jvm.Cond.code ({ cls := "java/lang/Math", name := "min", desc := "(II)I" } : Jvm.MethodName) jdk_29_method_69_code (2 : Nat) (Option.some Jvm.ClassFile.FieldType.int), Jvm.Cond.code ({ cls := "java/lang/Math", name := "max", desc := "(II)I" } : Jvm.MethodName) jdk_29_method_65_code (2 : Nat) (Option.some Jvm.ClassFile.FieldType.int), Jvm.Cond.code ({ cls := "com/example/sitterson/sitterson/text/Span", name := "<init>", desc := "(II)V" } : Jvm.MethodName) prog_29_method_1_code (3 : Nat) (Option.none : Option Jvm.ClassFile.FieldType), Jvm.Cond.code ({ cls := "java/lang/Object", name := "<init>", desc := "()V" } : Jvm.MethodName) object_method_1_code (1 : Nat) (Option.none : Option Jvm.ClassFile.FieldType), Jvm.Cond.code ({ cls := "com/example/sitterson/sitterson/text/Span", name := "equals", desc := "(Ljava/lang/Object;)Z" } : Jvm.MethodName) prog_29_method_4_code (3 : Nat) (Option.some Jvm.ClassFile.FieldType.boolean), Jvm.Cond.code ({ cls := "java/lang/Integer", name := "valueOf", desc := "(I)Ljava/lang/Integer;" } : Jvm.MethodName) jdk_33_method_22_code (1 : Nat) (Option.some (Jvm.ClassFile.FieldType.object "java/lang/Integer")), Jvm.Cond.code ({ cls := "java/lang/Integer", name := "<init>", desc := "(I)V" } : Jvm.MethodName) jdk_33_method_23_code (2 : Nat) (Option.none : Option Jvm.ClassFile.FieldType), Jvm.Cond.code ({ cls := "java/lang/Number", name := "<init>", desc := "()V" } : Jvm.MethodName) jdk_18_method_1_code (1 : Nat) (Option.none : Option Jvm.ClassFile.FieldType)]
set_option maxRecDepth 65536 in
theorem codes_eq : words1.filter isCode = codes1 := rfl
theorem w_codes : ∀ c ∈ words1.filter isCode, c.before args0 about1 = true := by
  rw [codes_eq]
  intro c hc
  simp only [codes1, List.mem_cons, List.not_mem_nil, or_false] at hc
  rcases hc with rfl | rfl | rfl | rfl | rfl | rfl | rfl | rfl | rfl
  · exact w_c0
  · exact w_c1
  · exact w_c2
  · exact w_c3
  · exact w_c4
  · exact w_c5
  · exact w_c6
  · exact w_c7
  · exact w_c8
set_option maxRecDepth 65536 in
theorem w_t1 : (words1.take 24).all (fun c => isCode c || c.before args0 about1) = true := by decide +kernel
set_option maxRecDepth 65536 in
theorem w_t2 : ((words1.drop 24).take 24).all (fun c => isCode c || c.before args0 about1) = true := by decide +kernel
set_option maxRecDepth 65536 in
theorem w_t3 : ((words1.drop 24).drop 24).all (fun c => isCode c || c.before args0 about1) = true := by decide +kernel
theorem w_tables : (allAtoms (Jvm.Cond.code x code maxLocals ret :: tables_1)).before args0 about1 = true := by
  rw [allAtoms_all]
  show words1.all (fun c => c.before args0 about1) = true
  refine all_split ?_ w_codes
  rw [← List.take_append_drop 24 words1, List.all_append, w_t1, ← List.take_append_drop 24 (words1.drop 24), List.all_append, w_t2, w_t3]
  rfl
set_option maxRecDepth 65536 in
theorem w_rest : rest_1_c.before args0 about1 = true := by decide +kernel
set_option maxRecDepth 65536 in
theorem w_case : (Jvm.Cond.and given_1 narrow_1).before args0 about1 = true := by decide +kernel
theorem w_applies : (headSpec (Jvm.Cond.code x code maxLocals ret :: tables_1) room_1).applies x e0.platform about1 = true :=
  (Spec.applies_iff w_frames).mpr ⟨w_running, w_runnable, w_alone, w_named, w_hears, w_ripe, w_room, w_tables⟩
theorem atStart : AtStart classFile x code maxLocals ret World_1 tables_1 room_1 Calls_1 rest_1 Pre_1 launch0 p0 e0 about1 theMethod args0 below0 :=
  ⟨lists_1, trivial, launch0.admits_env _ _ _, launch0.least_env, fairChoices_fair.cas, fairChoices_fair.clock, w_frames, w_args, w_heap, w_applies, trivial, w_rest, w_case⟩
end start1
theorem witness_1 : WitnessClaimed_1 := ⟨start1.p0, start1.e0, start1.about1, start1.theMethod, start1.args0, start1.below0, start1.atStart⟩
end Jvm.Pilot.@@N@@
