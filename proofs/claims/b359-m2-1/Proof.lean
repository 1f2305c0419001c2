import JvmDerived
import JvmDerived.Pilot.@@N@@Statement
import JvmDerived.Pilot.@@N@@Code
set_option linter.unusedVariables false
set_option linter.unusedSimpArgs false
namespace Jvm.Pilot.@@N@@
open Jvm Jvm.ClassFile Sem Op Lib Jvm.Free Jvm.Stand Jvm.LawKit Jvm.RoadKit Bundle Jvm.Pilot.@@N@@.Jvm.D
section Own
variable {p : Program} {l : Launch} {e : Env} {R : Room} {s : State} {m : MethodId} {args : Array Value} {below : List Frame} {meth : Method} {c : Code} {T : State} {locs : List Loc} {cells slots : Nat} {Z : State} {a0 : Array Value} {h : Heap}
/-- from S the invocation ends, and G holds of the end -/
def Gl (p : Program) (e : Env) (below : List Frame) (G : State → Outcome → Prop) (S : State) : Prop :=
  ∃ s₂ o, Steps p.tables e below S s₂ ∧ s₂.status = .running ∧ Ended s₂ below o ∧ G s₂ o
theorem Gl.of {G : State → Outcome → Prop} {S S' : State} (h : ∀ t, Steps p.tables e below S' t → Steps p.tables e below S t) (g : Gl p e below G S') : Gl p e below G S := by
  obtain ⟨s2, o, a, b⟩ := g
  exact ⟨s2, o, h _ a, b⟩
def Gd (s : State) (Q : Option Value → Heap → List Loc → Prop) (C N : Nat) (t : State) (o : Outcome) : Prop := ∃ v L, o = .returned v ∧ Q v t.heap L ∧ FrameEnd s o t L C N
def Con (l : Launch) (Z : State) (y : MethodName) (bytes : ByteArray) (maxL : Nat) (rt : Option FieldType) (ws : List Jvm.Cond) (rm : Room) (C N : Nat) (as : Array Value) (h : Heap) (Q : Option Value → Heap → List Loc → Prop) : Prop :=
  MetFree l y (head1 (Jvm.Cond.code y bytes maxL rt :: ws) rm) (fun a U => a = as ∧ Z.Warmed39 U.vm ∧ U.heap = h) (fun _ _ _ _ _ => True) (fun _ U o U' => ∃ v L, o = .returned v ∧ Q v U'.heap L ∧ FrameEnd U o U' L C N)
theorem Con.intro {y : MethodName} {bytes : ByteArray} {maxL : Nat} {rt : Option FieldType} {ws : List Jvm.Cond} {rm : Room} {C N : Nat} {as : Array Value} {Q : Option Value → Heap → List Loc → Prop} (hp : plainFor y = true)
    (body : ∀ p e s m below meth c s₁, Stand p l e rm s m as below meth c s₁ [] 0 0 → p.tables.exec = Jvm.exec → c.code = bytes → c.maxLocals = maxL → Z.Warmed39 s.vm → s.vm.findClass y.cls = some m.cls → meth.name = y.name → meth.sig.returnType = rt → meth.locks = false → s₁.heap = h → s.heap = h →
      Gl p e below (Gd s Q C N) (s₁.setTop (entryFrame m as maxL))) : Con l Z y bytes maxL rt ws rm C N as h Q := by
  refine MetFree.of_bodySF hp hisR ?_
  intro p e s m args below meth c s₁ Bd hml0 hP hK
  obtain ⟨rfl, hZ, hh⟩ := hP
  exact body p e s m below meth c s₁ (Stand.of_body Bd) Bd.exec Bd.bytes hml0 hZ (findClass_of_methodNamed Bd.named) (name_of_methodNamed Bd.named Bd.method).1 Bd.returns (BodyLoose.notSynchronized Bd) (by rw [← hh, Bd.state]; rfl) hh
theorem Gl.leaf {Q : Option Value → Heap → List Loc → Prop} {C N : Nat} (X : Stand p l e R s m args below meth c T locs cells slots) (hlk : meth.locks = false) {v : Option Value} (hv : meth.sig.returnType = none → v = none) {S : State}
    (st : ∀ fs, (∀ (f : JFrame) (acts : List Action), f.method = m → f.locked = none → f.entered = [] → (doReturn e (T.setTop f) acts v).1 = T.setFrames fs) → Steps p.tables e below S (T.setFrames fs)) (eT : T.heap = h) (hQ : Q v h locs) (hC : cells ≤ C) (hN : slots ≤ N) : Gl p e below (Gd s Q C N) S := by
  obtain ⟨fs, hr, hrun, hended, hW, hsame⟩ := X.leave (v := v) hv hlk
  exact ⟨_, _, st fs hr, hrun, hended, v, locs, rfl, by show Q v T.heap locs; rw [eT]; exact hQ, ⟨_, rfl⟩, hW, hsame.mono hC hN⟩
/-- ireturn of an int -/
theorem Gl.retI {Q : Option Value → Heap → List Loc → Prop} {C N : Nat} (X : Stand p l e R s m args below meth c T locs cells slots) (hx : p.tables.exec = Jvm.exec) (hlk : meth.locks = false) (hret : meth.sig.returnType = some .int) {pc : Nat} {Ls : Array Slot} {z : Int32} {rest : List Value} (hd : decode c.code pc = .ok (.ireturn, 1))
    (eT : T.heap = h) (hQ : Q (some (.int z)) h locs) (hC : cells ≤ C) (hN : slots ≤ N) : Gl p e below (Gd s Q C N) (T.setTop (mkF m pc Ls (.int z :: rest))) :=
  Gl.leaf X hlk (fun q => by rw [hret] at q; cases q) (fun fs hr => retOut X hx hret rfl (Or.inl ⟨rfl, Or.inl rfl, z, rfl⟩) hd hr) eT hQ hC hN
/-- ireturn of a boolean, byte, char, short -/
theorem Gl.retN {Q : Option Value → Heap → List Loc → Prop} {C N : Nat} (X : Stand p l e R s m args below meth c T locs cells slots) (hx : p.tables.exec = Jvm.exec) (hlk : meth.locks = false) {t : FieldType} (hret : meth.sig.returnType = some t) (ht : t = .boolean ∨ t = .byte ∨ t = .char ∨ t = .short) {pc : Nat} {Ls : Array Slot} {z : Int32} {rest : List Value} (hd : decode c.code pc = .ok (.ireturn, 1))
    (eT : T.heap = h) (hQ : Q (some (.int (nar t z))) h locs) (hC : cells ≤ C) (hN : slots ≤ N) : Gl p e below (Gd s Q C N) (T.setTop (mkF m pc Ls (.int z :: rest))) :=
  Gl.leaf X hlk (fun q => by rw [hret] at q; cases q) (fun fs hr => Jvm.RoadKit.retN X hx hret ht hd hr) eT hQ hC hN
/-- areturn -/
theorem Gl.retR {Q : Option Value → Heap → List Loc → Prop} {C N : Nat} (X : Stand p l e R s m args below meth c T locs cells slots) (hx : p.tables.exec = Jvm.exec) (hlk : meth.locks = false) {t : FieldType} (hret : meth.sig.returnType = some t) (ht : t.isReference = true) {pc : Nat} {Ls : Array Slot} {w : Value} (hw : w.isRef = true) {rest : List Value} (hd : decode c.code pc = .ok (.areturn, 1))
    (eT : T.heap = h) (hQ : Q (some w) h locs) (hC : cells ≤ C) (hN : slots ≤ N) : Gl p e below (Gd s Q C N) (T.setTop (mkF m pc Ls (w :: rest))) :=
  Gl.leaf X hlk (fun q => by rw [hret] at q; cases q) (fun fs hr => retOut X hx hret (by cases t <;> first | (cases ht; done) | (rcases ref_cases hw with rfl | ⟨_, rfl⟩ <;> rfl)) (Or.inr (Or.inr (Or.inr (Or.inr ⟨rfl, ht, hw⟩)))) hd hr) eT hQ hC hN
/-- dreturn -/
theorem Gl.retD {Q : Option Value → Heap → List Loc → Prop} {C N : Nat} (X : Stand p l e R s m args below meth c T locs cells slots) (hx : p.tables.exec = Jvm.exec) (hlk : meth.locks = false) (hret : meth.sig.returnType = some .double) {pc : Nat} {Ls : Array Slot} {z : UInt64} {rest : List Value} (hd : decode c.code pc = .ok (.dreturn, 1))
    (eT : T.heap = h) (hQ : Q (some (.double z)) h locs) (hC : cells ≤ C) (hN : slots ≤ N) : Gl p e below (Gd s Q C N) (T.setTop (mkF m pc Ls (.double z :: rest))) :=
  Gl.leaf X hlk (fun q => by rw [hret] at q; cases q) (fun fs hr => retOut X hx hret rfl (Or.inr (Or.inr (Or.inl ⟨rfl, rfl, z, rfl⟩))) hd hr) eT hQ hC hN
/-- return -/
theorem Gl.ret0 {Q : Option Value → Heap → List Loc → Prop} {C N : Nat} (X : Stand p l e R s m args below meth c T locs cells slots) (hx : p.tables.exec = Jvm.exec) (hlk : meth.locks = false) (hret : meth.sig.returnType = none) {pc : Nat} {Ls : Array Slot} (hd : decode c.code pc = .ok (.return_, 1))
    (eT : T.heap = h) (hQ : Q none h locs) (hC : cells ≤ C) (hN : slots ≤ N) : Gl p e below (Gd s Q C N) (T.setTop (mkF m pc Ls [])) :=
  Gl.leaf X hlk (fun _ => rfl) (fun fs hr => X.returnOut hx hret hd hr) eT hQ hC hN
/-- the end of a walk that may have interned -/
def GdW (s : State) (Q : Option Value → Heap → List Loc → Prop) (C N : Nat) (t : State) (o : Outcome) : Prop := ∃ v L, o = .returned v ∧ Q v t.heap L ∧ ReturnedEndW s o t L C N
def ConW (l : Launch) (Z : State) (y : MethodName) (bytes : ByteArray) (maxL : Nat) (rt : Option FieldType) (ws : List Jvm.Cond) (rm : Room) (C N : Nat) (as : Array Value) (h : Heap) (Q : Option Value → Heap → List Loc → Prop) : Prop :=
  MetFree l y (head1 (Jvm.Cond.code y bytes maxL rt :: ws) rm) (fun a U => a = as ∧ Z.Warmed39 U.vm ∧ U.heap = h) (fun _ _ _ _ _ => True) (fun _ U o U' => ∃ v L, o = .returned v ∧ Q v U'.heap L ∧ ReturnedEndW U o U' L C N)
theorem ConW.intro {y : MethodName} {bytes : ByteArray} {maxL : Nat} {rt : Option FieldType} {ws : List Jvm.Cond} {rm : Room} {C N : Nat} {as : Array Value} {Q : Option Value → Heap → List Loc → Prop} (hp : plainFor y = true)
    (body : ∀ p e s m below meth c s₁, Stand p l e rm s m as below meth c s₁ [] 0 0 → p.tables.exec = Jvm.exec → c.code = bytes → c.maxLocals = maxL → Z.Warmed39 s.vm → s.vm.findClass y.cls = some m.cls → meth.name = y.name → meth.sig.returnType = rt → meth.locks = false → s₁.heap = h → s.heap = h →
      Gl p e below (GdW s Q C N) (s₁.setTop (entryFrame m as maxL))) : ConW l Z y bytes maxL rt ws rm C N as h Q := by
  refine MetFree.of_bodySF hp hisR ?_
  intro p e s m args below meth c s₁ Bd hml0 hP hK
  obtain ⟨rfl, hZ, hh⟩ := hP
  exact body p e s m below meth c s₁ (Stand.of_body Bd) Bd.exec Bd.bytes hml0 hZ (findClass_of_methodNamed Bd.named) (name_of_methodNamed Bd.named Bd.method).1 Bd.returns (BodyLoose.notSynchronized Bd) (by rw [← hh, Bd.state]; rfl) hh
theorem Gl.leafW {Q : Option Value → Heap → List Loc → Prop} {C N n : Nat} {vm₁ : Vm} (X : Stand p l e R (s.setVm vm₁) m args below meth c T locs cells slots) (hlk : meth.locks = false) {v : Option Value} (hv : meth.sig.returnType = none → v = none) {S : State}
    (st : ∀ fs, (∀ (f : JFrame) (acts : List Action), f.method = m → f.locked = none → f.entered = [] → (doReturn e (T.setTop f) acts v).1 = T.setFrames fs) → Steps p.tables e below S (T.setFrames fs)) (eT : T.heap = h) (hQ : Q v h locs) (hS : s.Since vm₁ n) (hn : n ≤ h.size) (hC : cells ≤ C) (hN : slots ≤ N) : Gl p e below (GdW s Q C N) S := by
  obtain ⟨fs, hr, hrun, hended, hW⟩ := X.leaveW hS (by rw [eT]; exact hn) (v := v) hv hlk
  exact ⟨_, _, st fs hr, hrun, hended, v, locs, rfl, by show Q v T.heap locs; rw [eT]; exact hQ, hW.1, hW.2.1, hW.2.2.1, hW.2.2.2.mono hC hN⟩
theorem Gl.retNW {Q : Option Value → Heap → List Loc → Prop} {C N n : Nat} {vm₁ : Vm} (X : Stand p l e R (s.setVm vm₁) m args below meth c T locs cells slots) (hx : p.tables.exec = Jvm.exec) (hlk : meth.locks = false) {t : FieldType} (hret : meth.sig.returnType = some t) (ht : t = .boolean ∨ t = .byte ∨ t = .char ∨ t = .short) {pc : Nat} {Ls : Array Slot} {z : Int32} {rest : List Value} (hd : decode c.code pc = .ok (.ireturn, 1))
    (eT : T.heap = h) (hQ : Q (some (.int (nar t z))) h locs) (hS : s.Since vm₁ n) (hn : n ≤ h.size) (hC : cells ≤ C) (hN : slots ≤ N) : Gl p e below (GdW s Q C N) (T.setTop (mkF m pc Ls (.int z :: rest))) :=
  Gl.leafW X hlk (fun q => by rw [hret] at q; cases q) (fun fs hr => Jvm.RoadKit.retN X hx hret ht hd hr) eT hQ hS hn hC hN
theorem Gl.retRW {Q : Option Value → Heap → List Loc → Prop} {C N n : Nat} {vm₁ : Vm} (X : Stand p l e R (s.setVm vm₁) m args below meth c T locs cells slots) (hx : p.tables.exec = Jvm.exec) (hlk : meth.locks = false) {t : FieldType} (hret : meth.sig.returnType = some t) (ht : t.isReference = true) {pc : Nat} {Ls : Array Slot} {w : Value} (hw : w.isRef = true) {rest : List Value} (hd : decode c.code pc = .ok (.areturn, 1))
    (eT : T.heap = h) (hQ : Q (some w) h locs) (hS : s.Since vm₁ n) (hn : n ≤ h.size) (hC : cells ≤ C) (hN : slots ≤ N) : Gl p e below (GdW s Q C N) (T.setTop (mkF m pc Ls (w :: rest))) :=
  Gl.leafW X hlk (fun q => by rw [hret] at q; cases q) (fun fs hr => retOut X hx hret (by cases t <;> first | (cases ht; done) | (rcases ref_cases hw with rfl | ⟨_, rfl⟩ <;> rfl)) (Or.inr (Or.inr (Or.inr (Or.inr ⟨rfl, ht, hw⟩)))) hd hr) eT hQ hS hn hC hN
theorem ref_nar {r : Value} {C : String} (h : r.isRef = true) : narrow (.object C) r = r := by rcases ref_cases h with rfl | ⟨_, rfl⟩ <;> rfl
theorem ref_fit {r : Value} {C : String} (h : r.isRef = true) : fits (.object C) r = true := by rcases ref_cases h with rfl | ⟨_, rfl⟩ <;> rfl
theorem cat_ref {r : Value} (h : r.isRef = true) : r.category = 1 := by rcases ref_cases h with rfl | ⟨_, rfl⟩ <;> rfl
/-- what a callee that writes and makes nothing leaves -/
def Pur (F : Option Value → Prop) (h0 : Heap) (v : Option Value) (h : Heap) (L : List Loc) : Prop := F v ∧ h = h0 ∧ L = []
theorem desc_ne {n : String} (h : (n == "java/lang/invoke/MethodHandle" || n == "java/lang/invoke/VarHandle") = false) : n ≠ "java/lang/invoke/MethodHandle" ∧ n ≠ "java/lang/invoke/VarHandle" := by
  simp only [Bool.or_eq_false_iff, beq_eq_false_iff_ne, ne_eq] at h
  exact h
/-- a static call by its contract -/
theorem Gl.callS {G : State → Outcome → Prop} (X : Stand p l e R s m args below meth c T locs cells slots) (hx : p.tables.exec = Jvm.exec) (hZ : Z.Warmed39 s.vm) {own : String} {index : Nat} {y : MethodName} {bytes : ByteArray} {maxL : Nat} {rt : Option FieldType} (hown : s.vm.findClass own = some m.cls)
    (w1 : (Jvm.Cond.methodLink own index y).before a0 Z = true) (w2 : (Jvm.Cond.static y).before a0 Z = true) (w3 : (Jvm.Cond.initialized y.cls).before a0 Z = true) (w4 : (Jvm.Cond.code y bytes maxL rt).before a0 Z = true) (hy : y.cls ≠ "java/lang/invoke/MethodHandle" ∧ y.cls ≠ "java/lang/invoke/VarHandle")
    {rm : Room} {Q : Option Value → Heap → List Loc → Prop} {argsL rest : List Value} (hM : Con l Z y bytes maxL rt [] rm rm.cells rm.slots argsL.toArray h Q) (W : Nat) (hf : rm.frames + 1 ≤ R.frames) (hl : W + (maxL + 11) + rm.locals ≤ R.locals) (hcl : cells + rm.cells ≤ R.cells) (hsl : slots + rm.slots ≤ R.slots) (eT : T.heap = h)
    {pc : Nat} {Ls : Array Slot} {st : List Value} (hsz : Ls.size = c.maxLocals) {ps : List FieldType} {r' : Option FieldType} (hds : parseMethodDescriptor y.desc = some ⟨ps, r'⟩) (hlen : argsL.length = ps.length) (hst : st = argsL.reverse ++ rest) (hW : 2 * 0 + (rest.map fun v => v.category).sum ≤ W) (hd : decode c.code pc = .ok (.invokestatic index, 3))
    (k : ∀ (v : Option Value) (T' : State) (L : List Loc), Stand p l e R s m args below meth c T' (locs ++ L) (cells + rm.cells) (slots + rm.slots) → Q v T'.heap L → Gl p e below G (T'.setTop (mkF m (pc + 3) Ls (v.toList ++ rest)))) : Gl p e below G (T.setTop (mkF m pc Ls st)) := by
  obtain ⟨v, _, ⟨T', L', k', n'⟩, -, X', ⟨Lc, hQ, l1, y1, z1⟩, stp⟩ := Jvm.LawKit.callS X hx (y := y) hown (mvT hZ w1) (mvT hZ w2) (mvT hZ w3) (mvT hZ w4) hy (backOf (W := W) hM hZ w4 w3 hf hl) (g := mkF m pc Ls st) rfl hsz (argsL := argsL) (rest := rest) (lenOf hds hlen) hst hW hd (fun _ _ => ⟨rfl, eT, hcl, hsl⟩)
  dsimp only [Pt.U, Pt.locs, Pt.cells, Pt.slots] at X' l1 y1 z1 stp hQ
  subst l1 y1 z1
  exact Gl.of stp (k v T' Lc X' hQ)
theorem Gl.callS0 {G : State → Outcome → Prop} (X : Stand p l e R s m args below meth c T locs cells slots) (hx : p.tables.exec = Jvm.exec) (hZ : Z.Warmed39 s.vm) {own : String} {index : Nat} {y : MethodName} {bytes : ByteArray} {maxL : Nat} {rt : Option FieldType} (hown : s.vm.findClass own = some m.cls)
    (w1 : (Jvm.Cond.methodLink own index y).before a0 Z = true) (w2 : (Jvm.Cond.static y).before a0 Z = true) (w3 : (Jvm.Cond.initialized y.cls).before a0 Z = true) (w4 : (Jvm.Cond.code y bytes maxL rt).before a0 Z = true) (hy : y.cls ≠ "java/lang/invoke/MethodHandle" ∧ y.cls ≠ "java/lang/invoke/VarHandle")
    {fr lo : Nat} {F : Option Value → Prop} {argsL rest : List Value} (hM : Con l Z y bytes maxL rt [] ({ frames := fr, cells := 0, slots := 0, locals := lo } : Room) 0 0 argsL.toArray h (Pur F h)) (W : Nat) (hf : fr + 1 ≤ R.frames) (hl : W + (maxL + 11) + lo ≤ R.locals) (eT : T.heap = h)
    {pc : Nat} {Ls : Array Slot} {st : List Value} (hsz : Ls.size = c.maxLocals) {ps : List FieldType} {r' : Option FieldType} (hds : parseMethodDescriptor y.desc = some ⟨ps, r'⟩) (hlen : argsL.length = ps.length) (hst : st = argsL.reverse ++ rest) (hW : 2 * 0 + (rest.map fun v => v.category).sum ≤ W) (hd : decode c.code pc = .ok (.invokestatic index, 3)) (hcl : cells ≤ R.cells) (hsl : slots ≤ R.slots)
    (k : ∀ (v : Option Value) (T' : State), Stand p l e R s m args below meth c T' locs cells slots → T'.heap = h → F v → Gl p e below G (T'.setTop (mkF m (pc + 3) Ls (v.toList ++ rest)))) : Gl p e below G (T.setTop (mkF m pc Ls st)) := by
  refine Gl.callS X hx hZ hown w1 w2 w3 w4 hy hM W hf hl hcl hsl eT hsz hds hlen hst hW hd ?_
  intro v T' L X' hQ
  obtain ⟨q1, q2, rfl⟩ := hQ
  rw [List.append_nil] at X'
  exact k v T' X' q2 q1
/-- an instance method that the receiver's class selects, by its contract -/
theorem Gl.callV {G : State → Outcome → Prop} (X : Stand p l e R s m args below meth c T locs cells slots) (hx : p.tables.exec = Jvm.exec) (hZ : Z.Warmed39 s.vm) {own C : String} {index : Nat} {y z : MethodName} {bytes : ByteArray} {maxL : Nat} {rt : Option FieldType} (hown : s.vm.findClass own = some m.cls)
    (w1 : (Jvm.Cond.methodLink own index y).before a0 Z = true) (w2 : (Jvm.Cond.declares y).before a0 Z = true) (nf : NotFace s y) (w3 : (Jvm.Cond.selects C y z).before a0 Z = true) (w4 : (Jvm.Cond.instanceMethod z).before a0 Z = true) (w5 : (Jvm.Cond.code z bytes maxL rt).before a0 Z = true) (w6 : (Jvm.Cond.initialized z.cls).before a0 Z = true) (hy : y.cls ≠ "java/lang/invoke/MethodHandle" ∧ y.cls ≠ "java/lang/invoke/VarHandle")
    {rm : Room} {Q : Option Value → Heap → List Loc → Prop} {b : Addr} {argsL rest : List Value} (hE : Exa Z h b C) (hM : Con l Z z bytes maxL rt [] rm rm.cells rm.slots (.ref b :: argsL).toArray h Q) (W : Nat) (hf : rm.frames + 1 ≤ R.frames) (hl : W + (maxL + 11) + rm.locals ≤ R.locals) (hcl : cells + rm.cells ≤ R.cells) (hsl : slots + rm.slots ≤ R.slots) (eT : T.heap = h)
    {pc : Nat} {Ls : Array Slot} {st : List Value} (hsz : Ls.size = c.maxLocals) {ps : List FieldType} {r' : Option FieldType} (hds : parseMethodDescriptor y.desc = some ⟨ps, r'⟩) (hlen : argsL.length = ps.length) (hst : st = argsL.reverse ++ .ref b :: rest) (hW : 2 * 0 + (rest.map fun v => v.category).sum ≤ W) (hd : decode c.code pc = .ok (.invokevirtual index, 3))
    (k : ∀ (v : Option Value) (T' : State) (L : List Loc), Stand p l e R s m args below meth c T' (locs ++ L) (cells + rm.cells) (slots + rm.slots) → Q v T'.heap L → Gl p e below G (T'.setTop (mkF m (pc + 3) Ls (v.toList ++ rest)))) : Gl p e below G (T.setTop (mkF m pc Ls st)) := by
  obtain ⟨cq, kq, qa, qb, qc⟩ := isOf hZ eT hE
  obtain ⟨v, _, ⟨T', L', k', n'⟩, -, X', ⟨Lc, hQ, l1, y1, z1⟩, stp⟩ := X.virtualBack hx (y := y) (z := z) hown (mvT hZ w1) (mvT hZ w2) nf (mvT hZ w3) (mvT hZ w4) hy (backOf (W := W) hM hZ w5 w6 hf hl) qa qc (g := mkF m pc Ls st) rfl hsz (Steps.refl _) (argsL := argsL) (rest := rest) (lenOf hds hlen) hst hW hd (fun _ _ => ⟨rfl, eT, hcl, hsl⟩)
  dsimp only [Pt.U, Pt.locs, Pt.cells, Pt.slots] at X' l1 y1 z1 stp hQ
  subst l1 y1 z1
  exact Gl.of (fun t q => stp.trans q) (k v T' Lc X' hQ)
theorem Gl.callV0 {G : State → Outcome → Prop} (X : Stand p l e R s m args below meth c T locs cells slots) (hx : p.tables.exec = Jvm.exec) (hZ : Z.Warmed39 s.vm) {own C : String} {index : Nat} {y z : MethodName} {bytes : ByteArray} {maxL : Nat} {rt : Option FieldType} (hown : s.vm.findClass own = some m.cls)
    (w1 : (Jvm.Cond.methodLink own index y).before a0 Z = true) (w2 : (Jvm.Cond.declares y).before a0 Z = true) (nf : NotFace s y) (w3 : (Jvm.Cond.selects C y z).before a0 Z = true) (w4 : (Jvm.Cond.instanceMethod z).before a0 Z = true) (w5 : (Jvm.Cond.code z bytes maxL rt).before a0 Z = true) (w6 : (Jvm.Cond.initialized z.cls).before a0 Z = true) (hy : y.cls ≠ "java/lang/invoke/MethodHandle" ∧ y.cls ≠ "java/lang/invoke/VarHandle")
    {fr lo : Nat} {F : Option Value → Prop} {b : Addr} {argsL rest : List Value} (hE : Exa Z h b C) (hM : Con l Z z bytes maxL rt [] ({ frames := fr, cells := 0, slots := 0, locals := lo } : Room) 0 0 (.ref b :: argsL).toArray h (Pur F h)) (W : Nat) (hf : fr + 1 ≤ R.frames) (hl : W + (maxL + 11) + lo ≤ R.locals) (eT : T.heap = h)
    {pc : Nat} {Ls : Array Slot} {st : List Value} (hsz : Ls.size = c.maxLocals) {ps : List FieldType} {r' : Option FieldType} (hds : parseMethodDescriptor y.desc = some ⟨ps, r'⟩) (hlen : argsL.length = ps.length) (hst : st = argsL.reverse ++ .ref b :: rest) (hW : 2 * 0 + (rest.map fun v => v.category).sum ≤ W) (hd : decode c.code pc = .ok (.invokevirtual index, 3)) (hcl : cells ≤ R.cells) (hsl : slots ≤ R.slots)
    (k : ∀ (v : Option Value) (T' : State), Stand p l e R s m args below meth c T' locs cells slots → T'.heap = h → F v → Gl p e below G (T'.setTop (mkF m (pc + 3) Ls (v.toList ++ rest)))) : Gl p e below G (T.setTop (mkF m pc Ls st)) := by
  refine Gl.callV X hx hZ hown w1 w2 nf w3 w4 w5 w6 hy hE hM W hf hl hcl hsl eT hsz hds hlen hst hW hd ?_
  intro v T' L X' hQ
  obtain ⟨q1, q2, rfl⟩ := hQ
  rw [List.append_nil] at X'
  exact k v T' X' q2 q1
/-- a private instance method by its contract -/
theorem Gl.callP {G : State → Outcome → Prop} (X : Stand p l e R s m args below meth c T locs cells slots) (hx : p.tables.exec = Jvm.exec) (hZ : Z.Warmed39 s.vm) {own C : String} {index : Nat} {y : MethodName} {bytes : ByteArray} {maxL : Nat} {rt : Option FieldType} (hown : s.vm.findClass own = some m.cls)
    (w1 : (Jvm.Cond.methodLink own index y).before a0 Z = true) (nf : NotFace s y) (w3 : (Jvm.Cond.privateMethod y).before a0 Z = true) (w4 : (Jvm.Cond.instanceMethod y).before a0 Z = true) (w5 : (Jvm.Cond.code y bytes maxL rt).before a0 Z = true) (w6 : (Jvm.Cond.initialized y.cls).before a0 Z = true) (hy : y.cls ≠ "java/lang/invoke/MethodHandle" ∧ y.cls ≠ "java/lang/invoke/VarHandle")
    {rm : Room} {Q : Option Value → Heap → List Loc → Prop} {b : Addr} {argsL rest : List Value} (hE : Exa Z h b C) (hM : Con l Z y bytes maxL rt [] rm rm.cells rm.slots (.ref b :: argsL).toArray h Q) (W : Nat) (hf : rm.frames + 1 ≤ R.frames) (hl : W + (maxL + 11) + rm.locals ≤ R.locals) (hcl : cells + rm.cells ≤ R.cells) (hsl : slots + rm.slots ≤ R.slots) (eT : T.heap = h)
    {pc : Nat} {Ls : Array Slot} {st : List Value} (hsz : Ls.size = c.maxLocals) {ps : List FieldType} {r' : Option FieldType} (hds : parseMethodDescriptor y.desc = some ⟨ps, r'⟩) (hlen : argsL.length = ps.length) (hst : st = argsL.reverse ++ .ref b :: rest) (hW : 2 * 0 + (rest.map fun v => v.category).sum ≤ W) (hd : decode c.code pc = .ok (.invokevirtual index, 3))
    (k : ∀ (v : Option Value) (T' : State) (L : List Loc), Stand p l e R s m args below meth c T' (locs ++ L) (cells + rm.cells) (slots + rm.slots) → Q v T'.heap L → Gl p e below G (T'.setTop (mkF m (pc + 3) Ls (v.toList ++ rest)))) : Gl p e below G (T.setTop (mkF m pc Ls st)) := by
  obtain ⟨cq, q, q'⟩ := hE.cell
  have hpv := Cond.privateMethod_at (mvP hZ w3 (args := #[]))
  have hin : (Jvm.Cond.instanceMethod y).before args s = true := mvT hZ w4
  obtain ⟨mk, methM, hnamed, hmethM, -, -⟩ := Cond.instanceMethod_spec hin
  obtain ⟨kc, hkc, hkni⟩ := nf mk hnamed
  have hsel : (Jvm.Cond.selects y.cls y y).before args s = true := selects_self_of_private (findClass_of_methodNamed hnamed) hkc hkni hpv hin hy
  obtain ⟨v, _, ⟨T', L', k', n'⟩, -, X', ⟨Lc, hQ, l1, y1, z1⟩, stp⟩ := X.privateBack hx (y := y) hown (mvT hZ w1) hin hsel hpv (mvT hZ w5) hy (backOf (W := W) hM hZ w5 w6 hf hl) (g := mkF m pc Ls st) rfl hsz (Steps.refl _) (a := b) (by rw [eT]; exact q) q' (argsL := argsL) (rest := rest) (lenOf hds hlen) hst hW hd (fun _ _ => ⟨rfl, eT, hcl, hsl⟩)
  dsimp only [Pt.U, Pt.locs, Pt.cells, Pt.slots] at X' l1 y1 z1 stp hQ
  subst l1 y1 z1
  exact Gl.of (fun t q => stp.trans q) (k v T' Lc X' hQ)
theorem Gl.callP0 {G : State → Outcome → Prop} (X : Stand p l e R s m args below meth c T locs cells slots) (hx : p.tables.exec = Jvm.exec) (hZ : Z.Warmed39 s.vm) {own C : String} {index : Nat} {y : MethodName} {bytes : ByteArray} {maxL : Nat} {rt : Option FieldType} (hown : s.vm.findClass own = some m.cls)
    (w1 : (Jvm.Cond.methodLink own index y).before a0 Z = true) (nf : NotFace s y) (w3 : (Jvm.Cond.privateMethod y).before a0 Z = true) (w4 : (Jvm.Cond.instanceMethod y).before a0 Z = true) (w5 : (Jvm.Cond.code y bytes maxL rt).before a0 Z = true) (w6 : (Jvm.Cond.initialized y.cls).before a0 Z = true) (hy : y.cls ≠ "java/lang/invoke/MethodHandle" ∧ y.cls ≠ "java/lang/invoke/VarHandle")
    {fr lo : Nat} {F : Option Value → Prop} {b : Addr} {argsL rest : List Value} (hE : Exa Z h b C) (hM : Con l Z y bytes maxL rt [] ({ frames := fr, cells := 0, slots := 0, locals := lo } : Room) 0 0 (.ref b :: argsL).toArray h (Pur F h)) (W : Nat) (hf : fr + 1 ≤ R.frames) (hl : W + (maxL + 11) + lo ≤ R.locals) (eT : T.heap = h)
    {pc : Nat} {Ls : Array Slot} {st : List Value} (hsz : Ls.size = c.maxLocals) {ps : List FieldType} {r' : Option FieldType} (hds : parseMethodDescriptor y.desc = some ⟨ps, r'⟩) (hlen : argsL.length = ps.length) (hst : st = argsL.reverse ++ .ref b :: rest) (hW : 2 * 0 + (rest.map fun v => v.category).sum ≤ W) (hd : decode c.code pc = .ok (.invokevirtual index, 3)) (hcl : cells ≤ R.cells) (hsl : slots ≤ R.slots)
    (k : ∀ (v : Option Value) (T' : State), Stand p l e R s m args below meth c T' locs cells slots → T'.heap = h → F v → Gl p e below G (T'.setTop (mkF m (pc + 3) Ls (v.toList ++ rest)))) : Gl p e below G (T.setTop (mkF m pc Ls st)) := by
  refine Gl.callP X hx hZ hown w1 nf w3 w4 w5 w6 hy hE hM W hf hl hcl hsl eT hsz hds hlen hst hW hd ?_
  intro v T' L X' hQ
  obtain ⟨q1, q2, rfl⟩ := hQ
  rw [List.append_nil] at X'
  exact k v T' X' q2 q1
/-- a constructor by its contract -/
theorem Gl.callI {G : State → Outcome → Prop} (X : Stand p l e R s m args below meth c T locs cells slots) (hx : p.tables.exec = Jvm.exec) (hZ : Z.Warmed39 s.vm) {own : String} {index : Nat} {y : MethodName} {bytes : ByteArray} {maxL : Nat} (hy1 : y.name = "<init>") (hown : s.vm.findClass own = some m.cls)
    (w1 : (Jvm.Cond.methodLink own index y).before a0 Z = true) (w2 : (Jvm.Cond.instanceMethod y).before a0 Z = true) (w3 : (Jvm.Cond.initialized y.cls).before a0 Z = true) (w4 : (Jvm.Cond.code y bytes maxL none).before a0 Z = true) (hy : y.cls ≠ "java/lang/invoke/MethodHandle" ∧ y.cls ≠ "java/lang/invoke/VarHandle")
    {rm : Room} {Q : Option Value → Heap → List Loc → Prop} {b : Addr} {argsL rest : List Value} (hM : Con l Z y bytes maxL none [] rm rm.cells rm.slots (.ref b :: argsL).toArray h Q) (W : Nat) (hf : rm.frames + 1 ≤ R.frames) (hl : W + (maxL + 11) + rm.locals ≤ R.locals) (hcl : cells + rm.cells ≤ R.cells) (hsl : slots + rm.slots ≤ R.slots) (eT : T.heap = h)
    {pc : Nat} {Ls : Array Slot} {st : List Value} (hsz : Ls.size = c.maxLocals) {ps : List FieldType} {r' : Option FieldType} (hds : parseMethodDescriptor y.desc = some ⟨ps, r'⟩) (hlen : argsL.length = ps.length) (hst : st = argsL.reverse ++ .ref b :: rest) (hW : 2 * 0 + (rest.map fun v => v.category).sum ≤ W) (hd : decode c.code pc = .ok (.invokespecial index, 3))
    (k : ∀ (v : Option Value) (T' : State) (L : List Loc), Stand p l e R s m args below meth c T' (locs ++ L) (cells + rm.cells) (slots + rm.slots) → Q v T'.heap L → Gl p e below G (T'.setTop (mkF m (pc + 3) Ls (v.toList ++ rest)))) : Gl p e below G (T.setTop (mkF m pc Ls st)) := by
  obtain ⟨v, _, ⟨T', L', k', n'⟩, -, X', ⟨Lc, hQ, l1, y1, z1⟩, stp⟩ := X.specialBack hx (y := y) hy1 hown (mvT hZ w1) (mvT hZ w2) (mvT hZ w4) hy (backOf (W := W) hM hZ w4 w3 hf hl) (g := mkF m pc Ls st) rfl hsz (Steps.refl _) (a := b) (argsL := argsL) (rest := rest) (lenOf hds hlen) hst hW hd (fun _ _ => ⟨rfl, eT, hcl, hsl⟩)
  dsimp only [Pt.U, Pt.locs, Pt.cells, Pt.slots] at X' l1 y1 z1 stp hQ
  subst l1 y1 z1
  exact Gl.of (fun t q => stp.trans q) (k v T' Lc X' hQ)
theorem Gl.callI0 {G : State → Outcome → Prop} (X : Stand p l e R s m args below meth c T locs cells slots) (hx : p.tables.exec = Jvm.exec) (hZ : Z.Warmed39 s.vm) {own : String} {index : Nat} {y : MethodName} {bytes : ByteArray} {maxL : Nat} (hy1 : y.name = "<init>") (hown : s.vm.findClass own = some m.cls)
    (w1 : (Jvm.Cond.methodLink own index y).before a0 Z = true) (w2 : (Jvm.Cond.instanceMethod y).before a0 Z = true) (w3 : (Jvm.Cond.initialized y.cls).before a0 Z = true) (w4 : (Jvm.Cond.code y bytes maxL none).before a0 Z = true) (hy : y.cls ≠ "java/lang/invoke/MethodHandle" ∧ y.cls ≠ "java/lang/invoke/VarHandle")
    {fr lo : Nat} {F : Option Value → Prop} {b : Addr} {argsL rest : List Value} (hM : Con l Z y bytes maxL none [] ({ frames := fr, cells := 0, slots := 0, locals := lo } : Room) 0 0 (.ref b :: argsL).toArray h (Pur F h)) (W : Nat) (hf : fr + 1 ≤ R.frames) (hl : W + (maxL + 11) + lo ≤ R.locals) (eT : T.heap = h)
    {pc : Nat} {Ls : Array Slot} {st : List Value} (hsz : Ls.size = c.maxLocals) {ps : List FieldType} {r' : Option FieldType} (hds : parseMethodDescriptor y.desc = some ⟨ps, r'⟩) (hlen : argsL.length = ps.length) (hst : st = argsL.reverse ++ .ref b :: rest) (hW : 2 * 0 + (rest.map fun v => v.category).sum ≤ W) (hd : decode c.code pc = .ok (.invokespecial index, 3)) (hcl : cells ≤ R.cells) (hsl : slots ≤ R.slots)
    (k : ∀ (v : Option Value) (T' : State), Stand p l e R s m args below meth c T' locs cells slots → T'.heap = h → F v → Gl p e below G (T'.setTop (mkF m (pc + 3) Ls (v.toList ++ rest)))) : Gl p e below G (T.setTop (mkF m pc Ls st)) := by
  refine Gl.callI X hx hZ hy1 hown w1 w2 w3 w4 hy hM W hf hl hcl hsl eT hsz hds hlen hst hW hd ?_
  intro v T' L X' hQ
  obtain ⟨q1, q2, rfl⟩ := hQ
  rw [List.append_nil] at X'
  exact k v T' X' q2 q1
/-- a constructor, by a Back -/
theorem Gl.callIB {G : State → Outcome → Prop} (X : Stand p l e R s m args below meth c T locs cells slots) (hx : p.tables.exec = Jvm.exec) (hZ : Z.Warmed39 s.vm) {own : String} {index : Nat} {y : MethodName} {bytes : ByteArray} {maxL : Nat} (hy1 : y.name = "<init>") (hown : s.vm.findClass own = some m.cls)
    (w1 : (Jvm.Cond.methodLink own index y).before a0 Z = true) (w2 : (Jvm.Cond.instanceMethod y).before a0 Z = true) (w4 : (Jvm.Cond.code y bytes maxL none).before a0 Z = true) (hy : y.cls ≠ "java/lang/invoke/MethodHandle" ∧ y.cls ≠ "java/lang/invoke/VarHandle")
    {C N W : Nat} (Q : Option Value → Heap → List Loc → Prop) {b : Addr} {argsL rest : List Value} (hK : Back l R p e below s args y 3 W (fun A a => a = (Value.ref b :: argsL).toArray ∧ A.U.heap = h ∧ A.cells + C ≤ R.cells ∧ A.slots + N ≤ R.slots) (fun A _ v B => ∃ L, Q v B.U.heap L ∧ B.locs = A.locs ++ L ∧ B.cells = A.cells + C ∧ B.slots = A.slots + N)) (hcl : cells + C ≤ R.cells) (hsl : slots + N ≤ R.slots) (eT : T.heap = h)
    {pc : Nat} {Ls : Array Slot} {st : List Value} (hsz : Ls.size = c.maxLocals) {ps : List FieldType} {r' : Option FieldType} (hds : parseMethodDescriptor y.desc = some ⟨ps, r'⟩) (hlen : argsL.length = ps.length) (hst : st = argsL.reverse ++ .ref b :: rest) (hW : 2 * 0 + (rest.map fun v => v.category).sum ≤ W) (hd : decode c.code pc = .ok (.invokespecial index, 3))
    (k : ∀ (v : Option Value) (T' : State) (L : List Loc), Stand p l e R s m args below meth c T' (locs ++ L) (cells + C) (slots + N) → Q v T'.heap L → Gl p e below G (T'.setTop (mkF m (pc + 3) Ls (v.toList ++ rest)))) : Gl p e below G (T.setTop (mkF m pc Ls st)) := by
  obtain ⟨v, _, ⟨T', L', k', n'⟩, -, X', ⟨Lc, hQ, l1, y1, z1⟩, stp⟩ := X.specialBack hx (y := y) hy1 hown (mvT hZ w1) (mvT hZ w2) (mvT hZ w4) hy hK (g := mkF m pc Ls st) rfl hsz (Steps.refl _) (a := b) (argsL := argsL) (rest := rest) (lenOf hds hlen) hst hW hd (fun _ _ => ⟨rfl, eT, hcl, hsl⟩)
  dsimp only [Pt.U, Pt.locs, Pt.cells, Pt.slots] at X' l1 y1 z1 stp hQ
  subst l1 y1 z1
  exact Gl.of (fun t q => stp.trans q) (k v T' Lc X' hQ)
/-- an instance method that writes and makes nothing, by a Back -/
theorem Gl.callVB {G : State → Outcome → Prop} (X : Stand p l e R s m args below meth c T locs cells slots) (hx : p.tables.exec = Jvm.exec) (hZ : Z.Warmed39 s.vm) {own C : String} {index : Nat} {y z : MethodName} (hown : s.vm.findClass own = some m.cls)
    (w1 : (Jvm.Cond.methodLink own index y).before a0 Z = true) (w2 : (Jvm.Cond.declares y).before a0 Z = true) (nf : NotFace s y) (w3 : (Jvm.Cond.selects C y z).before a0 Z = true) (w4 : (Jvm.Cond.instanceMethod z).before a0 Z = true) (hy : y.cls ≠ "java/lang/invoke/MethodHandle" ∧ y.cls ≠ "java/lang/invoke/VarHandle")
    {W : Nat} (F : Option Value → Prop) {b : Addr} {argsL rest : List Value} (hE : Exa Z h b C) (hK : Back l R p e below s args z 3 W (fun A a => a = (Value.ref b :: argsL).toArray ∧ A.U.heap = h ∧ A.cells + 0 ≤ R.cells ∧ A.slots + 0 ≤ R.slots) (fun A _ v B => ∃ L, (F v ∧ L = [] ∧ B.U.heap = h) ∧ B.locs = A.locs ++ L ∧ B.cells = A.cells + 0 ∧ B.slots = A.slots + 0)) (hcl : cells ≤ R.cells) (hsl : slots ≤ R.slots) (eT : T.heap = h)
    {pc : Nat} {Ls : Array Slot} {st : List Value} (hsz : Ls.size = c.maxLocals) {ps : List FieldType} {r' : Option FieldType} (hds : parseMethodDescriptor y.desc = some ⟨ps, r'⟩) (hlen : argsL.length = ps.length) (hst : st = argsL.reverse ++ .ref b :: rest) (hW : 2 * 0 + (rest.map fun v => v.category).sum ≤ W) (hd : decode c.code pc = .ok (.invokevirtual index, 3))
    (k : ∀ (v : Option Value) (T' : State), Stand p l e R s m args below meth c T' locs cells slots → T'.heap = h → F v → Gl p e below G (T'.setTop (mkF m (pc + 3) Ls (v.toList ++ rest)))) : Gl p e below G (T.setTop (mkF m pc Ls st)) := by
  obtain ⟨cq, kq, qa, qb, qc⟩ := isOf hZ eT hE
  obtain ⟨v, _, ⟨T', L', k', n'⟩, -, X', ⟨Lc, ⟨hF, hL, hH⟩, l1, y1, z1⟩, stp⟩ := X.virtualBack hx (y := y) (z := z) hown (mvT hZ w1) (mvT hZ w2) nf (mvT hZ w3) (mvT hZ w4) hy hK qa qc (g := mkF m pc Ls st) rfl hsz (Steps.refl _) (argsL := argsL) (rest := rest) (lenOf hds hlen) hst hW hd (fun _ _ => ⟨rfl, eT, hcl, hsl⟩)
  dsimp only [Pt.U, Pt.locs, Pt.cells, Pt.slots] at X' l1 y1 z1 stp hH
  subst l1 y1 z1 hL
  rw [List.append_nil] at X'
  exact Gl.of (fun t q => stp.trans q) (k v T' X' hH hF)
theorem nf_same {y y' : MethodName} {C : String} (hc : y'.cls = y.cls) (w : (Jvm.Cond.selects C y y).before args s = true) : NotFace s y' := fun r0 h0 => by
  obtain ⟨c2, r2, m2, q1, q2, q3, q4, kP, hkP, hkPi⟩ := Cond.selects_spec w
  have a := findClass_of_methodNamed h0
  rw [hc] at a
  have b := Option.some.inj (a.symm.trans (findClass_of_methodNamed q3))
  exact ⟨kP, by rw [b]; exact hkP, hkPi⟩
theorem fld_ne {a b : Addr} {C n d : String} {v w : Value} (F : Fld Z h a C n d v) (G : Fld Z h b C n d w) (hn : v ≠ w) : ¬ a = b := fun e => by
  subst e
  obtain ⟨c1, cf, k, i, f, h1, h2, -, -, -, -, h7⟩ := F
  obtain ⟨c2, cf', k', i', f', g1, g2, -, -, -, -, g7⟩ := G
  cases h1.symm.trans g1
  cases h2.symm.trans g2
  exact hn (Option.some.inj (h7.symm.trans g7))
theorem own_nb1 : nar .boolean 1 = 1 := rfl
theorem own_nb0 : nar .boolean 0 = 0 := rfl
/-- the words of a case: an equation with an int -/
theorem eq_at {args : Array Value} {s : State} {t : Term} {idx : List Nat} {z : Int32} (h : (Jvm.Cond.eq t (.int z)).value args s none s idx = some true) : t.eval args s none idx s = some (.int z) := by
  obtain ⟨x, y', e1, e2, k1, k2⟩ := cmp_v (Or.inl h)
  cases (Term.int_eval z).symm.trans e2
  obtain ⟨z', rfl⟩ : ∃ z', x = .int z' := k2
  exact e1.trans (congrArg (fun z => some (Value.int z)) (gotT (Cond.eq_ints e1 (Term.int_eval z)) h))
theorem eqR_at {args : Array Value} {s : State} {t u : Term} {idx : List Nat} {a : Addr} (h : (Jvm.Cond.eq t u).value args s none s idx = some true) (hu : u.eval args s none idx s = some (.ref a)) : t.eval args s none idx s = some (.ref a) := by
  obtain ⟨x, y', e1, e2, k1, k2⟩ := cmp_v (Or.inl h)
  cases hu.symm.trans e2
  have hx : x.isRef = true := k2.2
  have q := gotT (eq_R e1 hu hx rfl) h
  rw [q] at e1
  exact e1
theorem len_at {args : Array Value} {s : State} {t : Term} {z : Int32} {a : Addr} {cl : Cell} (h : (Term.length t).eval args s none [] s = some (.int z)) (ht : t.eval args s none [] s = some (.ref a)) (ha : s.arrayAt? a = some cl) : cl.slots.size.toInt32 = z ∧ cl.slots.size < 2 ^ 31 := by
  by_cases q : cl.slots.size < 2 ^ 31
  · rw [len_f ht ha q] at h
    cases h
    exact ⟨rfl, q⟩
  · simp [Term.eval, ht, ha, q] at h
theorem len_sz {n : Nat} {z : Int32} (h : n.toInt32 = z) (q : n < 2 ^ 31) : n = z.toNatClampNeg := by
  rw [← h]; simp only [Int32.toNatClampNeg, len_toInt q]; rfl
end Own
theorem ef_1 (m : MethodId) (x0 : Addr) : entryFrame m #[(.ref x0)] 1 = mkF m 0 #[.val (.ref x0)] [] := by first | (simp [entryFrame, mkF, argsToLocals, Value.category, maxLocals]; done) | rfl
theorem pn_0 : plainName "java/lang/Record" = true := by first | (simp [plainName, overriddenIn]; done) | decide +kernel
theorem d3_0 : decode jdk_30_method_1_code 0 = .ok (.aload_n 0, 1) := by decide +kernel
theorem d3_1 : decode jdk_30_method_1_code 1 = .ok (.invokespecial 1, 3) := by decide +kernel
theorem w25 {Z : State} {a0 : Array Value} (hw : ∀ d ∈ tables_1, d.before a0 Z = true) : (Jvm.Cond.methodLink "java/lang/Record" (1 : Nat) ({ cls := "java/lang/Object", name := "<init>", desc := "()V" } : Jvm.MethodName)).before a0 Z = true := hw _ (List.mem_of_getElem? (i := 25) rfl)
theorem w26 {Z : State} {a0 : Array Value} (hw : ∀ d ∈ tables_1, d.before a0 Z = true) : (Jvm.Cond.instanceMethod ({ cls := "java/lang/Object", name := "<init>", desc := "()V" } : Jvm.MethodName)).before a0 Z = true := hw _ (List.mem_of_getElem? (i := 26) rfl)
theorem w27 {Z : State} {a0 : Array Value} (hw : ∀ d ∈ tables_1, d.before a0 Z = true) : (Jvm.Cond.code ({ cls := "java/lang/Object", name := "<init>", desc := "()V" } : Jvm.MethodName) object_method_1_code (1 : Nat) (Option.none : Option Jvm.ClassFile.FieldType)).before a0 Z = true := hw _ (List.mem_of_getElem? (i := 27) rfl)
theorem d3_4 : decode jdk_30_method_1_code 4 = .ok (.return_, 1) := by decide +kernel
set_option maxRecDepth 65536 in
set_option maxHeartbeats 40000000 in
theorem rmR (l : Launch) (Z : State) (a0 : Array Value) (hw : ∀ d ∈ tables_1, d.before a0 Z = true) (h0 : Heap) (a1 : Addr) : Con l Z (⟨"java/lang/Record", "<init>", "()V"⟩ : MethodName) jdk_30_method_1_code 1 none [] ({ frames := 1, cells := 0, slots := 0, locals := 12 } : Room) 0 0 #[(.ref a1)] h0 (Pur (fun v => v = none) h0) := by
  refine Con.intro (plainFor_of_name pn_0) ?_
  intro p e s m below meth c s₁ X0 hx hby hml hZ hown hnm hret hlk e0 hs0
  refine Gl.of (fun _ k => castTop (ef_1 m a1) k) ?_
  show Gl p e below _ (s₁.setTop (mkF m 0 #[.val (.ref a1)] []))
  refine Gl.of (fun _ k => XS.aloadN X0.here hx rfl (hb hby d3_0) rfl rfl k) ?_
  show Gl p e below _ (s₁.setTop (mkF m 1 #[.val (.ref a1)] [(.ref a1)]))
  obtain ⟨T1, X1, e1, st1⟩ := initO X0 hx hZ hown (w25 hw) (w26 hw) (w27 hw) e0 (g := (mkF m 1 #[.val (.ref a1)] [(.ref a1)])) rfl (by rw [hml]; rfl) rfl (hb hby d3_1) (by decide) (W := 0) (by show 2 * 0 + _ ≤ _; exact Nat.le_of_eq rfl) (by decide)
  refine Gl.of st1 ?_
  show Gl p e below _ (T1.setTop (mkF m 4 #[.val (.ref a1)] []))
  exact Gl.ret0 X1 hx hlk hret (hb hby d3_4) e1 (⟨rfl, rfl, rfl⟩) (by decide) (by decide)
theorem ef_2 (m : MethodId) (x0 : Addr) (x1 : Int32) (x2 : Value) (hx2 : x2.isRef = true) (x3 : Int32) (x4 : Int32) (x5 : Int32) (x6 : Value) (hx6 : x6.isRef = true) : entryFrame m #[(.ref x0), (.int x1), x2, (.int x3), (.int x4), (.int x5), x6] 7 = mkF m 0 #[.val (.ref x0), .val (.int x1), .val x2, .val (.int x3), .val (.int x4), .val (.int x5), .val x6] [] := by rcases ref_cases hx2 with rfl | ⟨_, rfl⟩ <;> rcases ref_cases hx6 with rfl | ⟨_, rfl⟩ <;> (first | (simp [entryFrame, mkF, argsToLocals, Value.category, maxLocals]; done) | rfl)
theorem pn_1 : plainName "keystrata/Dialect$DeclaredType" = true := by first | (simp [plainName, overriddenIn]; done) | decide +kernel
theorem d2_0 : decode prog_16_method_2_code 0 = .ok (.aload_n 0, 1) := by decide +kernel
theorem d2_1 : decode prog_16_method_2_code 1 = .ok (.invokespecial 1, 3) := by decide +kernel
theorem pd_0 : parseMethodDescriptor "()V" = some ⟨[], none⟩ := by decide +kernel
theorem w20 {Z : State} {a0 : Array Value} (hw : ∀ d ∈ tables_1, d.before a0 Z = true) : (Jvm.Cond.methodLink "keystrata/Dialect$DeclaredType" (1 : Nat) ({ cls := "java/lang/Record", name := "<init>", desc := "()V" } : Jvm.MethodName)).before a0 Z = true := hw _ (List.mem_of_getElem? (i := 20) rfl)
theorem w21 {Z : State} {a0 : Array Value} (hw : ∀ d ∈ tables_1, d.before a0 Z = true) : (Jvm.Cond.instanceMethod ({ cls := "java/lang/Record", name := "<init>", desc := "()V" } : Jvm.MethodName)).before a0 Z = true := hw _ (List.mem_of_getElem? (i := 21) rfl)
theorem w23 {Z : State} {a0 : Array Value} (hw : ∀ d ∈ tables_1, d.before a0 Z = true) : (Jvm.Cond.initialized "java/lang/Record").before a0 Z = true := hw _ (List.mem_of_getElem? (i := 23) rfl)
theorem w24 {Z : State} {a0 : Array Value} (hw : ∀ d ∈ tables_1, d.before a0 Z = true) : (Jvm.Cond.code ({ cls := "java/lang/Record", name := "<init>", desc := "()V" } : Jvm.MethodName) jdk_30_method_1_code (1 : Nat) (Option.none : Option Jvm.ClassFile.FieldType)).before a0 Z = true := hw _ (List.mem_of_getElem? (i := 24) rfl)
theorem d2_4 : decode prog_16_method_2_code 4 = .ok (.aload_n 0, 1) := by decide +kernel
theorem d2_5 : decode prog_16_method_2_code 5 = .ok (.iload_n 1, 1) := by decide +kernel
theorem d2_6 : decode prog_16_method_2_code 6 = .ok (.putfield 7, 3) := by decide +kernel
theorem w28 {Z : State} {a0 : Array Value} (hw : ∀ d ∈ tables_1, d.before a0 Z = true) : (Jvm.Cond.fieldLink "keystrata/Dialect$DeclaredType" (7 : Nat) "keystrata/Dialect$DeclaredType" "jdbcType" "I").before a0 Z = true := hw _ (List.mem_of_getElem? (i := 28) rfl)
theorem w29 {Z : State} {a0 : Array Value} (hw : ∀ d ∈ tables_1, d.before a0 Z = true) : (Jvm.Cond.laysFinal "keystrata/Dialect$DeclaredType" "keystrata/Dialect$DeclaredType" "jdbcType" "I").before a0 Z = true := hw _ (List.mem_of_getElem? (i := 29) rfl)
theorem w1 {Z : State} {a0 : Array Value} (hw : ∀ d ∈ tables_1, d.before a0 Z = true) : (Jvm.Cond.instantiable "keystrata/Dialect$DeclaredType" (6 : Nat)).before a0 Z = true := hw _ (List.mem_of_getElem? (i := 1) rfl)
theorem w31 {Z : State} {a0 : Array Value} (hw : ∀ d ∈ tables_1, d.before a0 Z = true) : (Jvm.Cond.laysFinal "keystrata/Dialect$DeclaredType" "keystrata/Dialect$DeclaredType" "name" "Ljava/lang/String;").before a0 Z = true := hw _ (List.mem_of_getElem? (i := 31) rfl)
theorem w33 {Z : State} {a0 : Array Value} (hw : ∀ d ∈ tables_1, d.before a0 Z = true) : (Jvm.Cond.laysFinal "keystrata/Dialect$DeclaredType" "keystrata/Dialect$DeclaredType" "size" "I").before a0 Z = true := hw _ (List.mem_of_getElem? (i := 33) rfl)
theorem w35 {Z : State} {a0 : Array Value} (hw : ∀ d ∈ tables_1, d.before a0 Z = true) : (Jvm.Cond.laysFinal "keystrata/Dialect$DeclaredType" "keystrata/Dialect$DeclaredType" "digits" "I").before a0 Z = true := hw _ (List.mem_of_getElem? (i := 35) rfl)
theorem w37 {Z : State} {a0 : Array Value} (hw : ∀ d ∈ tables_1, d.before a0 Z = true) : (Jvm.Cond.laysFinal "keystrata/Dialect$DeclaredType" "keystrata/Dialect$DeclaredType" "digitsReported" "Z").before a0 Z = true := hw _ (List.mem_of_getElem? (i := 37) rfl)
theorem w39 {Z : State} {a0 : Array Value} (hw : ∀ d ∈ tables_1, d.before a0 Z = true) : (Jvm.Cond.laysFinal "keystrata/Dialect$DeclaredType" "keystrata/Dialect$DeclaredType" "characterSet" "Lkeystrata/CharacterSet;").before a0 Z = true := hw _ (List.mem_of_getElem? (i := 39) rfl)
theorem d2_9 : decode prog_16_method_2_code 9 = .ok (.aload_n 0, 1) := by decide +kernel
theorem d2_10 : decode prog_16_method_2_code 10 = .ok (.aload_n 2, 1) := by decide +kernel
theorem d2_11 : decode prog_16_method_2_code 11 = .ok (.putfield 13, 3) := by decide +kernel
theorem w30 {Z : State} {a0 : Array Value} (hw : ∀ d ∈ tables_1, d.before a0 Z = true) : (Jvm.Cond.fieldLink "keystrata/Dialect$DeclaredType" (13 : Nat) "keystrata/Dialect$DeclaredType" "name" "Ljava/lang/String;").before a0 Z = true := hw _ (List.mem_of_getElem? (i := 30) rfl)
theorem d2_14 : decode prog_16_method_2_code 14 = .ok (.aload_n 0, 1) := by decide +kernel
theorem d2_15 : decode prog_16_method_2_code 15 = .ok (.iload_n 3, 1) := by decide +kernel
theorem d2_16 : decode prog_16_method_2_code 16 = .ok (.putfield 17, 3) := by decide +kernel
theorem w32 {Z : State} {a0 : Array Value} (hw : ∀ d ∈ tables_1, d.before a0 Z = true) : (Jvm.Cond.fieldLink "keystrata/Dialect$DeclaredType" (17 : Nat) "keystrata/Dialect$DeclaredType" "size" "I").before a0 Z = true := hw _ (List.mem_of_getElem? (i := 32) rfl)
theorem d2_19 : decode prog_16_method_2_code 19 = .ok (.aload_n 0, 1) := by decide +kernel
theorem d2_20 : decode prog_16_method_2_code 20 = .ok (.iload 4, 2) := by decide +kernel
theorem d2_22 : decode prog_16_method_2_code 22 = .ok (.putfield 20, 3) := by decide +kernel
theorem w34 {Z : State} {a0 : Array Value} (hw : ∀ d ∈ tables_1, d.before a0 Z = true) : (Jvm.Cond.fieldLink "keystrata/Dialect$DeclaredType" (20 : Nat) "keystrata/Dialect$DeclaredType" "digits" "I").before a0 Z = true := hw _ (List.mem_of_getElem? (i := 34) rfl)
theorem d2_25 : decode prog_16_method_2_code 25 = .ok (.aload_n 0, 1) := by decide +kernel
theorem d2_26 : decode prog_16_method_2_code 26 = .ok (.iload 5, 2) := by decide +kernel
theorem d2_28 : decode prog_16_method_2_code 28 = .ok (.putfield 23, 3) := by decide +kernel
theorem w36 {Z : State} {a0 : Array Value} (hw : ∀ d ∈ tables_1, d.before a0 Z = true) : (Jvm.Cond.fieldLink "keystrata/Dialect$DeclaredType" (23 : Nat) "keystrata/Dialect$DeclaredType" "digitsReported" "Z").before a0 Z = true := hw _ (List.mem_of_getElem? (i := 36) rfl)
theorem d2_31 : decode prog_16_method_2_code 31 = .ok (.aload_n 0, 1) := by decide +kernel
theorem d2_32 : decode prog_16_method_2_code 32 = .ok (.aload 6, 2) := by decide +kernel
theorem d2_34 : decode prog_16_method_2_code 34 = .ok (.putfield 27, 3) := by decide +kernel
theorem w38 {Z : State} {a0 : Array Value} (hw : ∀ d ∈ tables_1, d.before a0 Z = true) : (Jvm.Cond.fieldLink "keystrata/Dialect$DeclaredType" (27 : Nat) "keystrata/Dialect$DeclaredType" "characterSet" "Lkeystrata/CharacterSet;").before a0 Z = true := hw _ (List.mem_of_getElem? (i := 38) rfl)
theorem d2_37 : decode prog_16_method_2_code 37 = .ok (.return_, 1) := by decide +kernel
set_option maxRecDepth 65536 in
set_option maxHeartbeats 40000000 in
theorem rm6 (l : Launch) (Z : State) (a0 : Array Value) (hw : ∀ d ∈ tables_1, d.before a0 Z = true) (h0 : Heap) (a1 : Addr) (p1 : Int32) (r2 : Value) (p3 p4 p5 : Int32) (r6 : Value) (n0 : Nat) (hr2 : r2.isRef = true) (hr6 : r6.isRef = true) (E1 : Exa Z h0 a1 "keystrata/Dialect$DeclaredType") (I0 : Fld Z h0 a1 "keystrata/Dialect$DeclaredType" "jdbcType" "I" (.int (0 : Int32))) (I1 : Fld Z h0 a1 "keystrata/Dialect$DeclaredType" "name" "Ljava/lang/String;" .null) (I2 : Fld Z h0 a1 "keystrata/Dialect$DeclaredType" "size" "I" (.int (0 : Int32))) (I3 : Fld Z h0 a1 "keystrata/Dialect$DeclaredType" "digits" "I" (.int (0 : Int32))) (I4 : Fld Z h0 a1 "keystrata/Dialect$DeclaredType" "digitsReported" "Z" (.int (0 : Int32))) (I5 : Fld Z h0 a1 "keystrata/Dialect$DeclaredType" "characterSet" "Lkeystrata/CharacterSet;" .null) (Ga1 : n0 ≤ a1) : Con l Z (⟨"keystrata/Dialect$DeclaredType", "<init>", "(ILjava/lang/String;IIZLkeystrata/CharacterSet;)V"⟩ : MethodName) prog_16_method_2_code 7 none [] ({ frames := 2, cells := 0, slots := 0, locals := 26 } : Room) 0 0 #[(.ref a1), (.int p1), r2, (.int p3), (.int p4), (.int p5), r6] h0 (fun v h L => v = none ∧ Fr n0 L ∧ Keep h0 h [a1] ∧ Fld Z h a1 "keystrata/Dialect$DeclaredType" "jdbcType" "I" (.int p1) ∧ Fld Z h a1 "keystrata/Dialect$DeclaredType" "digitsReported" "Z" (.int (nar .boolean p5))) := by
  refine Con.intro (plainFor_of_name pn_1) ?_
  intro p e s m below meth c s₁ X0 hx hby hml hZ hown hnm hret hlk e0 hs0
  refine Gl.of (fun _ k => castTop (ef_2 m a1 p1 r2 hr2 p3 p4 p5 r6 hr6) k) ?_
  have K0 := Keep.refl h0 [a1]
  show Gl p e below _ (s₁.setTop (mkF m 0 #[.val (.ref a1), .val (.int p1), .val r2, .val (.int p3), .val (.int p4), .val (.int p5), .val r6] []))
  refine Gl.of (fun _ k => XS.aloadN X0.here hx rfl (hb hby d2_0) rfl rfl k) ?_
  show Gl p e below _ (s₁.setTop (mkF m 1 #[.val (.ref a1), .val (.int p1), .val r2, .val (.int p3), .val (.int p4), .val (.int p5), .val r6] [(.ref a1)]))
  refine Gl.callI0 X0 hx hZ (y := (⟨"java/lang/Record", "<init>", "()V"⟩ : MethodName)) rfl hown (w20 hw) (w21 hw) (w23 hw) (w24 hw) (desc_ne (by decide)) (b := a1) (argsL := []) (rest := []) (rmR l Z a0 hw _ a1) 0 (by decide) (by decide) e0 (pc := 1) (Ls := #[.val (.ref a1), .val (.int p1), .val r2, .val (.int p3), .val (.int p4), .val (.int p5), .val r6]) (st := [(.ref a1)]) (by rw [hml]; rfl) pd_0 rfl rfl (Nat.le_of_eq rfl) (hb hby d2_1) (by decide) (by decide) ?_
  intro v1 T1 X1 e1 hv1
  subst hv1
  show Gl p e below _ (T1.setTop (mkF m 4 #[.val (.ref a1), .val (.int p1), .val r2, .val (.int p3), .val (.int p4), .val (.int p5), .val r6] []))
  refine Gl.of (fun _ k => XS.aloadN X1.here hx rfl (hb hby d2_4) rfl rfl k) ?_
  show Gl p e below _ (T1.setTop (mkF m 5 #[.val (.ref a1), .val (.int p1), .val r2, .val (.int p3), .val (.int p4), .val (.int p5), .val r6] [(.ref a1)]))
  refine Gl.of (fun _ k => XS.iloadN X1.here hx rfl (hb hby d2_5) rfl k) ?_
  show Gl p e below _ (T1.setTop (mkF m 6 #[.val (.ref a1), .val (.int p1), .val r2, .val (.int p3), .val (.int p4), .val (.int p5), .val r6] [(.int p1), (.ref a1)]))
  obtain ⟨T2, h2, X2, e2, W2, st2⟩ := putF X1 hx hZ hown (host := "") (Or.inl (w28 hw)) Via.refl e1 I0 E1 (Or.inr ⟨(w29 hw), rfl, hnm⟩) (w1 hw) (ty := .int) (by decide) rfl rfl (g := (mkF m 6 #[.val (.ref a1), .val (.int p1), .val r2, .val (.int p3), .val (.int p4), .val (.int p5), .val r6] [(.int p1), (.ref a1)])) rfl rfl (hb hby d2_6)
  refine Gl.of st2 ?_
  have F2 : Fld Z h2 a1 "keystrata/Dialect$DeclaredType" "jdbcType" "I" (.int p1) := I0.same W2
  have ec3 := E1.wr W2
  have fc4 := I1.other W2 (Or.inr (slot_ne (Or.inr (w31 hw)) (Or.inr (w29 hw)) (by decide) (t := (.object "java/lang/String")) (t' := .int) (by decide) (by decide)))
  have fc5 := I2.other W2 (Or.inr (slot_ne (Or.inr (w33 hw)) (Or.inr (w29 hw)) (by decide) (t := .int) (t' := .int) (by decide) (by decide)))
  have fc6 := I3.other W2 (Or.inr (slot_ne (Or.inr (w35 hw)) (Or.inr (w29 hw)) (by decide) (t := .int) (t' := .int) (by decide) (by decide)))
  have fc7 := I4.other W2 (Or.inr (slot_ne (Or.inr (w37 hw)) (Or.inr (w29 hw)) (by decide) (t := .boolean) (t' := .int) (by decide) (by decide)))
  have fc8 := I5.other W2 (Or.inr (slot_ne (Or.inr (w39 hw)) (Or.inr (w29 hw)) (by decide) (t := (.object "keystrata/CharacterSet")) (t' := .int) (by decide) (by decide)))
  have N2 := Fr.snoc X2 (Fr.nil n0) Ga1
  have K2 := K0.wr W2 (Or.inl (List.mem_of_getElem? (i := 0) rfl))
  show Gl p e below _ (T2.setTop (mkF m 9 #[.val (.ref a1), .val (.int p1), .val r2, .val (.int p3), .val (.int p4), .val (.int p5), .val r6] []))
  refine Gl.of (fun _ k => XS.aloadN X2.here hx rfl (hb hby d2_9) rfl rfl k) ?_
  show Gl p e below _ (T2.setTop (mkF m 10 #[.val (.ref a1), .val (.int p1), .val r2, .val (.int p3), .val (.int p4), .val (.int p5), .val r6] [(.ref a1)]))
  refine Gl.of (fun _ k => XS.aloadN X2.here hx rfl (hb hby d2_10) rfl hr2 k) ?_
  show Gl p e below _ (T2.setTop (mkF m 11 #[.val (.ref a1), .val (.int p1), .val r2, .val (.int p3), .val (.int p4), .val (.int p5), .val r6] [r2, (.ref a1)]))
  obtain ⟨T9, h9, X9, e9, W9, st9⟩ := putF X2 hx hZ hown (host := "") (Or.inl (w30 hw)) Via.refl e2 fc4 ec3 (Or.inr ⟨(w31 hw), rfl, hnm⟩) (w1 hw) (ty := (.object "java/lang/String")) (by decide) (ref_nar hr2) (ref_fit hr2) (g := (mkF m 11 #[.val (.ref a1), .val (.int p1), .val r2, .val (.int p3), .val (.int p4), .val (.int p5), .val r6] [r2, (.ref a1)])) rfl rfl (hb hby d2_11)
  refine Gl.of st9 ?_
  have F9 : Fld Z h9 a1 "keystrata/Dialect$DeclaredType" "name" "Ljava/lang/String;" r2 := fc4.same W9
  have ec10 := ec3.wr W9
  have fc11 := fc5.other W9 (Or.inr (slot_ne (Or.inr (w33 hw)) (Or.inr (w31 hw)) (by decide) (t := .int) (t' := (.object "java/lang/String")) (by decide) (by decide)))
  have fc12 := fc6.other W9 (Or.inr (slot_ne (Or.inr (w35 hw)) (Or.inr (w31 hw)) (by decide) (t := .int) (t' := (.object "java/lang/String")) (by decide) (by decide)))
  have fc13 := fc7.other W9 (Or.inr (slot_ne (Or.inr (w37 hw)) (Or.inr (w31 hw)) (by decide) (t := .boolean) (t' := (.object "java/lang/String")) (by decide) (by decide)))
  have fc14 := fc8.other W9 (Or.inr (slot_ne (Or.inr (w39 hw)) (Or.inr (w31 hw)) (by decide) (t := (.object "keystrata/CharacterSet")) (t' := (.object "java/lang/String")) (by decide) (by decide)))
  have fc15 := F2.other W9 (Or.inr (slot_ne (Or.inr (w29 hw)) (Or.inr (w31 hw)) (by decide) (t := .int) (t' := (.object "java/lang/String")) (by decide) (by decide)))
  have N9 := Fr.snoc X9 N2 Ga1
  have K9 := K2.wr W9 (Or.inl (List.mem_of_getElem? (i := 0) rfl))
  show Gl p e below _ (T9.setTop (mkF m 14 #[.val (.ref a1), .val (.int p1), .val r2, .val (.int p3), .val (.int p4), .val (.int p5), .val r6] []))
  refine Gl.of (fun _ k => XS.aloadN X9.here hx rfl (hb hby d2_14) rfl rfl k) ?_
  show Gl p e below _ (T9.setTop (mkF m 15 #[.val (.ref a1), .val (.int p1), .val r2, .val (.int p3), .val (.int p4), .val (.int p5), .val r6] [(.ref a1)]))
  refine Gl.of (fun _ k => XS.iloadN X9.here hx rfl (hb hby d2_15) rfl k) ?_
  show Gl p e below _ (T9.setTop (mkF m 16 #[.val (.ref a1), .val (.int p1), .val r2, .val (.int p3), .val (.int p4), .val (.int p5), .val r6] [(.int p3), (.ref a1)]))
  obtain ⟨T16, h16, X16, e16, W16, st16⟩ := putF X9 hx hZ hown (host := "") (Or.inl (w32 hw)) Via.refl e9 fc11 ec10 (Or.inr ⟨(w33 hw), rfl, hnm⟩) (w1 hw) (ty := .int) (by decide) rfl rfl (g := (mkF m 16 #[.val (.ref a1), .val (.int p1), .val r2, .val (.int p3), .val (.int p4), .val (.int p5), .val r6] [(.int p3), (.ref a1)])) rfl rfl (hb hby d2_16)
  refine Gl.of st16 ?_
  have F16 : Fld Z h16 a1 "keystrata/Dialect$DeclaredType" "size" "I" (.int p3) := fc11.same W16
  have ec17 := ec10.wr W16
  have fc18 := fc12.other W16 (Or.inr (slot_ne (Or.inr (w35 hw)) (Or.inr (w33 hw)) (by decide) (t := .int) (t' := .int) (by decide) (by decide)))
  have fc19 := fc13.other W16 (Or.inr (slot_ne (Or.inr (w37 hw)) (Or.inr (w33 hw)) (by decide) (t := .boolean) (t' := .int) (by decide) (by decide)))
  have fc20 := fc14.other W16 (Or.inr (slot_ne (Or.inr (w39 hw)) (Or.inr (w33 hw)) (by decide) (t := (.object "keystrata/CharacterSet")) (t' := .int) (by decide) (by decide)))
  have fc21 := fc15.other W16 (Or.inr (slot_ne (Or.inr (w29 hw)) (Or.inr (w33 hw)) (by decide) (t := .int) (t' := .int) (by decide) (by decide)))
  have fc22 := F9.other W16 (Or.inr (slot_ne (Or.inr (w31 hw)) (Or.inr (w33 hw)) (by decide) (t := (.object "java/lang/String")) (t' := .int) (by decide) (by decide)))
  have N16 := Fr.snoc X16 N9 Ga1
  have K16 := K9.wr W16 (Or.inl (List.mem_of_getElem? (i := 0) rfl))
  show Gl p e below _ (T16.setTop (mkF m 19 #[.val (.ref a1), .val (.int p1), .val r2, .val (.int p3), .val (.int p4), .val (.int p5), .val r6] []))
  refine Gl.of (fun _ k => XS.aloadN X16.here hx rfl (hb hby d2_19) rfl rfl k) ?_
  show Gl p e below _ (T16.setTop (mkF m 20 #[.val (.ref a1), .val (.int p1), .val r2, .val (.int p3), .val (.int p4), .val (.int p5), .val r6] [(.ref a1)]))
  refine Gl.of (fun _ k => XS.iload X16.here hx rfl (hb hby d2_20) rfl k) ?_
  show Gl p e below _ (T16.setTop (mkF m 22 #[.val (.ref a1), .val (.int p1), .val r2, .val (.int p3), .val (.int p4), .val (.int p5), .val r6] [(.int p4), (.ref a1)]))
  obtain ⟨T23, h23, X23, e23, W23, st23⟩ := putF X16 hx hZ hown (host := "") (Or.inl (w34 hw)) Via.refl e16 fc18 ec17 (Or.inr ⟨(w35 hw), rfl, hnm⟩) (w1 hw) (ty := .int) (by decide) rfl rfl (g := (mkF m 22 #[.val (.ref a1), .val (.int p1), .val r2, .val (.int p3), .val (.int p4), .val (.int p5), .val r6] [(.int p4), (.ref a1)])) rfl rfl (hb hby d2_22)
  refine Gl.of st23 ?_
  have F23 : Fld Z h23 a1 "keystrata/Dialect$DeclaredType" "digits" "I" (.int p4) := fc18.same W23
  have ec24 := ec17.wr W23
  have fc25 := fc19.other W23 (Or.inr (slot_ne (Or.inr (w37 hw)) (Or.inr (w35 hw)) (by decide) (t := .boolean) (t' := .int) (by decide) (by decide)))
  have fc26 := fc20.other W23 (Or.inr (slot_ne (Or.inr (w39 hw)) (Or.inr (w35 hw)) (by decide) (t := (.object "keystrata/CharacterSet")) (t' := .int) (by decide) (by decide)))
  have fc27 := fc21.other W23 (Or.inr (slot_ne (Or.inr (w29 hw)) (Or.inr (w35 hw)) (by decide) (t := .int) (t' := .int) (by decide) (by decide)))
  have fc28 := fc22.other W23 (Or.inr (slot_ne (Or.inr (w31 hw)) (Or.inr (w35 hw)) (by decide) (t := (.object "java/lang/String")) (t' := .int) (by decide) (by decide)))
  have fc29 := F16.other W23 (Or.inr (slot_ne (Or.inr (w33 hw)) (Or.inr (w35 hw)) (by decide) (t := .int) (t' := .int) (by decide) (by decide)))
  have N23 := Fr.snoc X23 N16 Ga1
  have K23 := K16.wr W23 (Or.inl (List.mem_of_getElem? (i := 0) rfl))
  show Gl p e below _ (T23.setTop (mkF m 25 #[.val (.ref a1), .val (.int p1), .val r2, .val (.int p3), .val (.int p4), .val (.int p5), .val r6] []))
  refine Gl.of (fun _ k => XS.aloadN X23.here hx rfl (hb hby d2_25) rfl rfl k) ?_
  show Gl p e below _ (T23.setTop (mkF m 26 #[.val (.ref a1), .val (.int p1), .val r2, .val (.int p3), .val (.int p4), .val (.int p5), .val r6] [(.ref a1)]))
  refine Gl.of (fun _ k => XS.iload X23.here hx rfl (hb hby d2_26) rfl k) ?_
  show Gl p e below _ (T23.setTop (mkF m 28 #[.val (.ref a1), .val (.int p1), .val r2, .val (.int p3), .val (.int p4), .val (.int p5), .val r6] [(.int p5), (.ref a1)]))
  obtain ⟨T30, h30, X30, e30, W30, st30⟩ := putFN X23 hx hZ hown (w36 hw) Via.refl e23 fc25 ec24 (Or.inr ⟨(w37 hw), rfl, hnm⟩) (w1 hw) (ty := .boolean) (v' := (.int (nar .boolean p5))) (by decide) rfl (fits_nar_bool _) (g := (mkF m 28 #[.val (.ref a1), .val (.int p1), .val r2, .val (.int p3), .val (.int p4), .val (.int p5), .val r6] [(.int p5), (.ref a1)])) rfl rfl (hb hby d2_28)
  refine Gl.of st30 ?_
  have F30 : Fld Z h30 a1 "keystrata/Dialect$DeclaredType" "digitsReported" "Z" (.int (nar .boolean p5)) := fc25.same W30
  have ec31 := ec24.wr W30
  have fc32 := fc26.other W30 (Or.inr (slot_ne (Or.inr (w39 hw)) (Or.inr (w37 hw)) (by decide) (t := (.object "keystrata/CharacterSet")) (t' := .boolean) (by decide) (by decide)))
  have fc33 := fc27.other W30 (Or.inr (slot_ne (Or.inr (w29 hw)) (Or.inr (w37 hw)) (by decide) (t := .int) (t' := .boolean) (by decide) (by decide)))
  have fc34 := fc28.other W30 (Or.inr (slot_ne (Or.inr (w31 hw)) (Or.inr (w37 hw)) (by decide) (t := (.object "java/lang/String")) (t' := .boolean) (by decide) (by decide)))
  have fc35 := fc29.other W30 (Or.inr (slot_ne (Or.inr (w33 hw)) (Or.inr (w37 hw)) (by decide) (t := .int) (t' := .boolean) (by decide) (by decide)))
  have fc36 := F23.other W30 (Or.inr (slot_ne (Or.inr (w35 hw)) (Or.inr (w37 hw)) (by decide) (t := .int) (t' := .boolean) (by decide) (by decide)))
  have N30 := Fr.snoc X30 N23 Ga1
  have K30 := K23.wr W30 (Or.inl (List.mem_of_getElem? (i := 0) rfl))
  show Gl p e below _ (T30.setTop (mkF m 31 #[.val (.ref a1), .val (.int p1), .val r2, .val (.int p3), .val (.int p4), .val (.int p5), .val r6] []))
  refine Gl.of (fun _ k => XS.aloadN X30.here hx rfl (hb hby d2_31) rfl rfl k) ?_
  show Gl p e below _ (T30.setTop (mkF m 32 #[.val (.ref a1), .val (.int p1), .val r2, .val (.int p3), .val (.int p4), .val (.int p5), .val r6] [(.ref a1)]))
  refine Gl.of (fun _ k => XS.aload X30.here hx rfl (hb hby d2_32) rfl hr6 k) ?_
  show Gl p e below _ (T30.setTop (mkF m 34 #[.val (.ref a1), .val (.int p1), .val r2, .val (.int p3), .val (.int p4), .val (.int p5), .val r6] [r6, (.ref a1)]))
  obtain ⟨T37, h37, X37, e37, W37, st37⟩ := putF X30 hx hZ hown (host := "") (Or.inl (w38 hw)) Via.refl e30 fc32 ec31 (Or.inr ⟨(w39 hw), rfl, hnm⟩) (w1 hw) (ty := (.object "keystrata/CharacterSet")) (by decide) (ref_nar hr6) (ref_fit hr6) (g := (mkF m 34 #[.val (.ref a1), .val (.int p1), .val r2, .val (.int p3), .val (.int p4), .val (.int p5), .val r6] [r6, (.ref a1)])) rfl rfl (hb hby d2_34)
  refine Gl.of st37 ?_
  have F37 : Fld Z h37 a1 "keystrata/Dialect$DeclaredType" "characterSet" "Lkeystrata/CharacterSet;" r6 := fc32.same W37
  have ec38 := ec31.wr W37
  have fc39 := fc33.other W37 (Or.inr (slot_ne (Or.inr (w29 hw)) (Or.inr (w39 hw)) (by decide) (t := .int) (t' := (.object "keystrata/CharacterSet")) (by decide) (by decide)))
  have fc40 := fc34.other W37 (Or.inr (slot_ne (Or.inr (w31 hw)) (Or.inr (w39 hw)) (by decide) (t := (.object "java/lang/String")) (t' := (.object "keystrata/CharacterSet")) (by decide) (by decide)))
  have fc41 := fc35.other W37 (Or.inr (slot_ne (Or.inr (w33 hw)) (Or.inr (w39 hw)) (by decide) (t := .int) (t' := (.object "keystrata/CharacterSet")) (by decide) (by decide)))
  have fc42 := fc36.other W37 (Or.inr (slot_ne (Or.inr (w35 hw)) (Or.inr (w39 hw)) (by decide) (t := .int) (t' := (.object "keystrata/CharacterSet")) (by decide) (by decide)))
  have fc43 := F30.other W37 (Or.inr (slot_ne (Or.inr (w37 hw)) (Or.inr (w39 hw)) (by decide) (t := .boolean) (t' := (.object "keystrata/CharacterSet")) (by decide) (by decide)))
  have N37 := Fr.snoc X37 N30 Ga1
  have K37 := K30.wr W37 (Or.inl (List.mem_of_getElem? (i := 0) rfl))
  show Gl p e below _ (T37.setTop (mkF m 37 #[.val (.ref a1), .val (.int p1), .val r2, .val (.int p3), .val (.int p4), .val (.int p5), .val r6] []))
  exact Gl.ret0 X37 hx hlk hret (hb hby d2_37) e37 (⟨rfl, N37, K37, fc39, fc43⟩) (by decide) (by decide)
theorem ef_3 (m : MethodId) (x0 : Addr) (x1 : Int32) (x2 : Value) (hx2 : x2.isRef = true) (x3 : Int32) (x4 : Int32) : entryFrame m #[(.ref x0), (.int x1), x2, (.int x3), (.int x4)] 5 = mkF m 0 #[.val (.ref x0), .val (.int x1), .val x2, .val (.int x3), .val (.int x4)] [] := by rcases ref_cases hx2 with rfl | ⟨_, rfl⟩ <;> (first | (simp [entryFrame, mkF, argsToLocals, Value.category, maxLocals]; done) | rfl)
theorem d1_0 : decode prog_16_method_1_code 0 = .ok (.aload_n 0, 1) := by decide +kernel
theorem d1_1 : decode prog_16_method_1_code 1 = .ok (.iload_n 1, 1) := by decide +kernel
theorem d1_2 : decode prog_16_method_1_code 2 = .ok (.aload_n 2, 1) := by decide +kernel
theorem d1_3 : decode prog_16_method_1_code 3 = .ok (.iload_n 3, 1) := by decide +kernel
theorem d1_4 : decode prog_16_method_1_code 4 = .ok (.iload 4, 2) := by decide +kernel
theorem d1_6 : decode prog_16_method_1_code 6 = .ok (.iconst 1, 1) := by decide +kernel
theorem d1_7 : decode prog_16_method_1_code 7 = .ok (.getstatic 31, 3) := by decide +kernel
theorem w14 {Z : State} {a0 : Array Value} (hw : ∀ d ∈ tables_1, d.before a0 Z = true) : (Jvm.Cond.fieldLink "keystrata/Dialect$DeclaredType" (31 : Nat) "keystrata/CharacterSet" "ANY" "Lkeystrata/CharacterSet;").before a0 Z = true := hw _ (List.mem_of_getElem? (i := 14) rfl)
theorem d1_10 : decode prog_16_method_1_code 10 = .ok (.invokespecial 36, 3) := by decide +kernel
theorem pd_1 : parseMethodDescriptor "(ILjava/lang/String;IIZLkeystrata/CharacterSet;)V" = some ⟨[.int, (.object "java/lang/String"), .int, .int, .boolean, (.object "keystrata/CharacterSet")], none⟩ := by decide +kernel
theorem w17 {Z : State} {a0 : Array Value} (hw : ∀ d ∈ tables_1, d.before a0 Z = true) : (Jvm.Cond.methodLink "keystrata/Dialect$DeclaredType" (36 : Nat) ({ cls := "keystrata/Dialect$DeclaredType", name := "<init>", desc := "(ILjava/lang/String;IIZLkeystrata/CharacterSet;)V" } : Jvm.MethodName)).before a0 Z = true := hw _ (List.mem_of_getElem? (i := 17) rfl)
theorem w18 {Z : State} {a0 : Array Value} (hw : ∀ d ∈ tables_1, d.before a0 Z = true) : (Jvm.Cond.instanceMethod ({ cls := "keystrata/Dialect$DeclaredType", name := "<init>", desc := "(ILjava/lang/String;IIZLkeystrata/CharacterSet;)V" } : Jvm.MethodName)).before a0 Z = true := hw _ (List.mem_of_getElem? (i := 18) rfl)
theorem w2 {Z : State} {a0 : Array Value} (hw : ∀ d ∈ tables_1, d.before a0 Z = true) : (Jvm.Cond.initialized "keystrata/Dialect$DeclaredType").before a0 Z = true := hw _ (List.mem_of_getElem? (i := 2) rfl)
theorem w19 {Z : State} {a0 : Array Value} (hw : ∀ d ∈ tables_1, d.before a0 Z = true) : (Jvm.Cond.code ({ cls := "keystrata/Dialect$DeclaredType", name := "<init>", desc := "(ILjava/lang/String;IIZLkeystrata/CharacterSet;)V" } : Jvm.MethodName) prog_16_method_2_code (7 : Nat) (Option.none : Option Jvm.ClassFile.FieldType)).before a0 Z = true := hw _ (List.mem_of_getElem? (i := 19) rfl)
theorem d1_13 : decode prog_16_method_1_code 13 = .ok (.return_, 1) := by decide +kernel
set_option maxRecDepth 65536 in
set_option maxHeartbeats 40000000 in
theorem rm5 (l : Launch) (Z : State) (a0 : Array Value) (hw : ∀ d ∈ tables_1, d.before a0 Z = true) (h0 : Heap) (a1 : Addr) (p1 : Int32) (r2 : Value) (p3 p4 : Int32) (r6 : Value) (n0 : Nat) (hr2 : r2.isRef = true) (hr6 : r6.isRef = true) (S0 : Sta Z h0 "keystrata/CharacterSet" "ANY" "Lkeystrata/CharacterSet;" r6) (E1 : Exa Z h0 a1 "keystrata/Dialect$DeclaredType") (I0 : Fld Z h0 a1 "keystrata/Dialect$DeclaredType" "jdbcType" "I" (.int (0 : Int32))) (I1 : Fld Z h0 a1 "keystrata/Dialect$DeclaredType" "name" "Ljava/lang/String;" .null) (I2 : Fld Z h0 a1 "keystrata/Dialect$DeclaredType" "size" "I" (.int (0 : Int32))) (I3 : Fld Z h0 a1 "keystrata/Dialect$DeclaredType" "digits" "I" (.int (0 : Int32))) (I4 : Fld Z h0 a1 "keystrata/Dialect$DeclaredType" "digitsReported" "Z" (.int (0 : Int32))) (I5 : Fld Z h0 a1 "keystrata/Dialect$DeclaredType" "characterSet" "Lkeystrata/CharacterSet;" .null) (Ga1 : n0 ≤ a1) : Con l Z (⟨"keystrata/Dialect$DeclaredType", "<init>", "(ILjava/lang/String;II)V"⟩ : MethodName) prog_16_method_1_code 5 none [] ({ frames := 3, cells := 0, slots := 0, locals := 52 } : Room) 0 0 #[(.ref a1), (.int p1), r2, (.int p3), (.int p4)] h0 (fun v h L => v = none ∧ Fr n0 L ∧ Keep h0 h [a1] ∧ Fld Z h a1 "keystrata/Dialect$DeclaredType" "jdbcType" "I" (.int p1) ∧ Fld Z h a1 "keystrata/Dialect$DeclaredType" "digitsReported" "Z" (.int (nar .boolean (1 : Int32)))) := by
  refine Con.intro (plainFor_of_name pn_1) ?_
  intro p e s m below meth c s₁ X0 hx hby hml hZ hown hnm hret hlk e0 hs0
  refine Gl.of (fun _ k => castTop (ef_3 m a1 p1 r2 hr2 p3 p4) k) ?_
  have K0 := Keep.refl h0 [a1]
  show Gl p e below _ (s₁.setTop (mkF m 0 #[.val (.ref a1), .val (.int p1), .val r2, .val (.int p3), .val (.int p4)] []))
  refine Gl.of (fun _ k => XS.aloadN X0.here hx rfl (hb hby d1_0) rfl rfl k) ?_
  show Gl p e below _ (s₁.setTop (mkF m 1 #[.val (.ref a1), .val (.int p1), .val r2, .val (.int p3), .val (.int p4)] [(.ref a1)]))
  refine Gl.of (fun _ k => XS.iloadN X0.here hx rfl (hb hby d1_1) rfl k) ?_
  show Gl p e below _ (s₁.setTop (mkF m 2 #[.val (.ref a1), .val (.int p1), .val r2, .val (.int p3), .val (.int p4)] [(.int p1), (.ref a1)]))
  refine Gl.of (fun _ k => XS.aloadN X0.here hx rfl (hb hby d1_2) rfl hr2 k) ?_
  show Gl p e below _ (s₁.setTop (mkF m 3 #[.val (.ref a1), .val (.int p1), .val r2, .val (.int p3), .val (.int p4)] [r2, (.int p1), (.ref a1)]))
  refine Gl.of (fun _ k => XS.iloadN X0.here hx rfl (hb hby d1_3) rfl k) ?_
  show Gl p e below _ (s₁.setTop (mkF m 4 #[.val (.ref a1), .val (.int p1), .val r2, .val (.int p3), .val (.int p4)] [(.int p3), r2, (.int p1), (.ref a1)]))
  refine Gl.of (fun _ k => XS.iload X0.here hx rfl (hb hby d1_4) rfl k) ?_
  show Gl p e below _ (s₁.setTop (mkF m 6 #[.val (.ref a1), .val (.int p1), .val r2, .val (.int p3), .val (.int p4)] [(.int p4), (.int p3), r2, (.int p1), (.ref a1)]))
  refine Gl.of (fun _ k => XS.iconst X0.here hx rfl (hb hby d1_6) k) ?_
  show Gl p e below _ (s₁.setTop (mkF m 7 #[.val (.ref a1), .val (.int p1), .val r2, .val (.int p3), .val (.int p4)] [(.int (1 : Int32)), (.int p4), (.int p3), r2, (.int p1), (.ref a1)]))
  obtain ⟨T1, X1, e1, st1⟩ := getS2 X0 hx hZ hown (host := "") (Or.inl (w14 hw)) Via.refl e0 S0 (g := (mkF m 7 #[.val (.ref a1), .val (.int p1), .val r2, .val (.int p3), .val (.int p4)] [(.int (1 : Int32)), (.int p4), (.int p3), r2, (.int p1), (.ref a1)])) rfl (hb hby d1_7)
  refine Gl.of st1 ?_
  show Gl p e below _ (T1.setTop (mkF m 10 #[.val (.ref a1), .val (.int p1), .val r2, .val (.int p3), .val (.int p4)] [r6, (.int (1 : Int32)), (.int p4), (.int p3), r2, (.int p1), (.ref a1)]))
  refine Gl.callI X1 hx hZ (y := (⟨"keystrata/Dialect$DeclaredType", "<init>", "(ILjava/lang/String;IIZLkeystrata/CharacterSet;)V"⟩ : MethodName)) rfl hown (w17 hw) (w18 hw) (w2 hw) (w19 hw) (desc_ne (by decide)) (rm := { frames := 2, cells := 0, slots := 0, locals := 26 }) (b := a1) (argsL := [(.int p1), r2, (.int p3), (.int p4), (.int (1 : Int32)), r6]) (rest := []) (rm6 l Z a0 hw _ a1 p1 r2 p3 p4 (1 : Int32) r6 n0 hr2 hr6 E1 I0 I1 I2 I3 I4 I5 Ga1) 0 (by decide) (by decide) (by decide) (by decide) e1 (pc := 10) (Ls := #[.val (.ref a1), .val (.int p1), .val r2, .val (.int p3), .val (.int p4)]) (st := [r6, (.int (1 : Int32)), (.int p4), (.int p3), r2, (.int p1), (.ref a1)]) (by rw [hml]; rfl) pd_1 rfl rfl (Nat.le_of_eq rfl) (hb hby d1_10) ?_
  intro v2 T2 L2 X2 hQ2
  obtain ⟨rfl, Nq2, Kq2, F2a, F2b⟩ := hQ2
  have N2 := Fr.app (Fr.nil n0) Nq2
  have ec3 := E1.keep Kq2
  have K2 := K0.trans Kq2 (by intro x hx'; cases List.mem_singleton.mp hx'; exact Or.inl (List.mem_of_getElem? (i := 0) rfl))
  show Gl p e below _ (T2.setTop (mkF m 13 #[.val (.ref a1), .val (.int p1), .val r2, .val (.int p3), .val (.int p4)] []))
  exact Gl.ret0 X2 hx hlk hret (hb hby d1_13) rfl (⟨rfl, N2, K2, F2a, F2b⟩) (by decide) (by decide)
def own_dwd (t q : Int32) : Int32 := if t = (8 : Int32) then (if q = (0 : Int32) then 0 else 1) else 0
def own_d (t : Int32) : Int32 := if t = (8 : Int32) then 1 else 0
theorem own_known (t : Int32) : own_dwd t (nar .boolean (1 : Int32)) = own_d t := by
  rw [own_nb1]; unfold own_dwd own_d; split <;> rfl
theorem own_f1 {t r d : Int32} (hd : d = own_d t) (h : d = (0 : Int32)) : own_dwd t (nar .boolean r) = 0 := by
  unfold own_dwd; unfold own_d at hd; split
  · rename_i q; simp [q] at hd; simp [hd] at h
  · rfl
theorem own_f2 {t r : Int32} (h : r = (0 : Int32)) : own_dwd t (nar .boolean r) = 0 := by
  subst h; rw [own_nb0]; unfold own_dwd; split <;> rfl
theorem own_f3 {t r d : Int32} (hr : r = 0 ∨ r = 1) (hd : d = own_d t) (h : ¬ d = (0 : Int32)) (h' : ¬ r = (0 : Int32)) : own_dwd t (nar .boolean r) = 1 := by
  rcases hr with rfl | rfl
  · exact absurd rfl h'
  rw [own_nb1]; unfold own_dwd; unfold own_d at hd; split
  · rfl
  · rename_i q; simp [q] at hd; exact absurd hd h
theorem ef_4 (m : MethodId) (x0 : Addr) : entryFrame m #[(.ref x0)] 1 = mkF m 0 #[.val (.ref x0)] [] := by first | (simp [entryFrame, mkF, argsToLocals, Value.category, maxLocals]; done) | rfl
theorem d5_0 : decode prog_16_method_25_code 0 = .ok (.aload_n 0, 1) := by decide +kernel
theorem d5_1 : decode prog_16_method_25_code 1 = .ok (.getfield 7, 3) := by decide +kernel
theorem d5_4 : decode prog_16_method_25_code 4 = .ok (.bipush 8, 2) := by decide +kernel
theorem d5_6 : decode prog_16_method_25_code 6 = .ok (.if_icmp .ne 14, 3) := by decide +kernel
theorem d5_9 : decode prog_16_method_25_code 9 = .ok (.aload_n 0, 1) := by decide +kernel
theorem d5_10 : decode prog_16_method_25_code 10 = .ok (.getfield 23, 3) := by decide +kernel
theorem d5_13 : decode prog_16_method_25_code 13 = .ok (.ifCond .eq 7, 3) := by decide +kernel
theorem d5_20 : decode prog_16_method_25_code 20 = .ok (.iconst 0, 1) := by decide +kernel
theorem d5_21 : decode prog_16_method_25_code 21 = .ok (.ireturn, 1) := by decide +kernel
theorem d5_16 : decode prog_16_method_25_code 16 = .ok (.iconst 1, 1) := by decide +kernel
theorem d5_17 : decode prog_16_method_25_code 17 = .ok (.goto 4, 3) := by decide +kernel
set_option maxRecDepth 65536 in
set_option maxHeartbeats 40000000 in
theorem rm4 (l : Launch) (Z : State) (a0 : Array Value) (hw : ∀ d ∈ tables_1, d.before a0 Z = true) (h0 : Heap) (a1 : Addr) (p1 p2 : Int32) (F1 : Fld Z h0 a1 "keystrata/Dialect$DeclaredType" "jdbcType" "I" (.int p1)) (F2 : Fld Z h0 a1 "keystrata/Dialect$DeclaredType" "digitsReported" "Z" (.int p2)) : Con l Z (⟨"keystrata/Dialect$DeclaredType", "doubleWithDigits", "()Z"⟩ : MethodName) prog_16_method_25_code 1 (some .boolean) [] ({ frames := 0, cells := 0, slots := 0, locals := 0 } : Room) 0 0 #[(.ref a1)] h0 (Pur (fun v => v = some (.int (own_dwd p1 p2))) h0) := by
  refine Con.intro (plainFor_of_name pn_1) ?_
  intro p e s m below meth c s₁ X0 hx hby hml hZ hown hnm hret hlk e0 hs0
  refine Gl.of (fun _ k => castTop (ef_4 m a1) k) ?_
  show Gl p e below _ (s₁.setTop (mkF m 0 #[.val (.ref a1)] []))
  refine Gl.of (fun _ k => XS.aloadN X0.here hx rfl (hb hby d5_0) rfl rfl k) ?_
  show Gl p e below _ (s₁.setTop (mkF m 1 #[.val (.ref a1)] [(.ref a1)]))
  obtain ⟨T1, X1, e1, st1⟩ := getF X0 hx hZ hown (host := "") (Or.inl (w28 hw)) Via.refl e0 F1 (g := (mkF m 1 #[.val (.ref a1)] [(.ref a1)])) rfl rfl (hb hby d5_1)
  refine Gl.of st1 ?_
  show Gl p e below _ (T1.setTop (mkF m 4 #[.val (.ref a1)] [(.int p1)]))
  refine Gl.of (fun _ k => XS.bipush X1.here hx rfl (hb hby d5_4) k) ?_
  show Gl p e below _ (T1.setTop (mkF m 6 #[.val (.ref a1)] [(.int (8 : Int32)), (.int p1)]))
  by_cases hc6_2 : p1 = (8 : Int32)
  · refine Gl.of (fun _ k => XS.icmpNo X1.here hx rfl (hb hby d5_6) rfl (teq hc6_2).2 k) ?_
    show Gl p e below _ (T1.setTop (mkF m 9 #[.val (.ref a1)] []))
    refine Gl.of (fun _ k => XS.aloadN X1.here hx rfl (hb hby d5_9) rfl rfl k) ?_
    show Gl p e below _ (T1.setTop (mkF m 10 #[.val (.ref a1)] [(.ref a1)]))
    obtain ⟨T3, X3, e3, st3⟩ := getF X1 hx hZ hown (host := "") (Or.inl (w36 hw)) Via.refl e1 F2 (g := (mkF m 10 #[.val (.ref a1)] [(.ref a1)])) rfl rfl (hb hby d5_10)
    refine Gl.of st3 ?_
    show Gl p e below _ (T3.setTop (mkF m 13 #[.val (.ref a1)] [(.int p2)]))
    by_cases hc13_4 : p2 = (0 : Int32)
    · refine Gl.of (fun _ k => XS.ifYes X3.here hx rfl (pc0 := 13) (pc' := 20) rfl (hb hby d5_13) rfl ((if0 _ _).trans (teq hc13_4).1) (by decide) (by decide) k) ?_
      show Gl p e below _ (T3.setTop (mkF m 20 #[.val (.ref a1)] []))
      refine Gl.of (fun _ k => XS.iconst X3.here hx rfl (hb hby d5_20) k) ?_
      show Gl p e below _ (T3.setTop (mkF m 21 #[.val (.ref a1)] [(.int (0 : Int32))]))
      exact Gl.retN X3 hx hlk hret (by simp) (hb hby d5_21) e3 (⟨by simp [own_dwd, own_nb1, own_nb0, hc6_2, hc13_4], rfl, rfl⟩) (by decide) (by decide)
    · refine Gl.of (fun _ k => XS.ifNo X3.here hx rfl (hb hby d5_13) rfl ((if0 _ _).trans (feq hc13_4).1) k) ?_
      show Gl p e below _ (T3.setTop (mkF m 16 #[.val (.ref a1)] []))
      refine Gl.of (fun _ k => XS.iconst X3.here hx rfl (hb hby d5_16) k) ?_
      show Gl p e below _ (T3.setTop (mkF m 17 #[.val (.ref a1)] [(.int (1 : Int32))]))
      refine Gl.of (fun _ k => XS.goto X3.here hx rfl (pc0 := 17) (pc' := 21) rfl (hb hby d5_17) (by decide) (by decide) k) ?_
      show Gl p e below _ (T3.setTop (mkF m 21 #[.val (.ref a1)] [(.int (1 : Int32))]))
      exact Gl.retN X3 hx hlk hret (by simp) (hb hby d5_21) e3 (⟨by simp [own_dwd, own_nb1, own_nb0, hc6_2, hc13_4], rfl, rfl⟩) (by decide) (by decide)
  · refine Gl.of (fun _ k => XS.icmpYes X1.here hx rfl (pc0 := 6) (pc' := 20) rfl (hb hby d5_6) rfl (feq hc6_2).2 (by decide) (by decide) k) ?_
    show Gl p e below _ (T1.setTop (mkF m 20 #[.val (.ref a1)] []))
    refine Gl.of (fun _ k => XS.iconst X1.here hx rfl (hb hby d5_20) k) ?_
    show Gl p e below _ (T1.setTop (mkF m 21 #[.val (.ref a1)] [(.int (0 : Int32))]))
    exact Gl.retN X1 hx hlk hret (by simp) (hb hby d5_21) e1 (⟨by simp [own_dwd, own_nb1, own_nb0, hc6_2], rfl, rfl⟩) (by decide) (by decide)
theorem own_str {Z : State} {a0 : Array Value} (hw : ∀ d ∈ tables_1, d.before a0 Z = true) : ∀ a ∈ Bundle.stringAtoms, a.before a0 Z = true := fun d hd => hw d ((by decide +kernel : ∀ d ∈ Bundle.stringAtoms, d ∈ tables_1) d hd)
theorem ef_5 (m : MethodId) (x0 : Int32) (x1 : Int32) (x2 : Int32) (x3 : Int32) : entryFrame m #[(.int x0), (.int x1), (.int x2), (.int x3)] maxLocals = mkF m 0 #[.val (.int x0), .val (.int x1), .val (.int x2), .val (.int x3), .unset, .unset, .unset, .unset, .unset, .unset, .unset, .unset] [] := by first | (simp [entryFrame, mkF, argsToLocals, Value.category, maxLocals]; done) | rfl
theorem pn_2 : plainName "keystrata/DeclaredTypeDoubleWithDigitsPinLaw" = true := by first | (simp [plainName, overriddenIn]; done) | decide +kernel
theorem w0 {Z : State} {a0 : Array Value} (hw : ∀ d ∈ tables_1, d.before a0 Z = true) : (Jvm.Cond.classLink "keystrata/DeclaredTypeDoubleWithDigitsPinLaw" (9 : Nat) "keystrata/Dialect$DeclaredType").before a0 Z = true := hw _ (List.mem_of_getElem? (i := 0) rfl)
theorem w3 {Z : State} {a0 : Array Value} (hw : ∀ d ∈ tables_1, d.before a0 Z = true) : (Jvm.Cond.stringLink "keystrata/DeclaredTypeDoubleWithDigitsPinLaw" (11 : Nat) "DOUBLE").before a0 Z = true := hw _ (List.mem_of_getElem? (i := 3) rfl)
theorem pd_2 : parseMethodDescriptor "(ILjava/lang/String;II)V" = some ⟨[.int, (.object "java/lang/String"), .int, .int], none⟩ := by decide +kernel
theorem w11 {Z : State} {a0 : Array Value} (hw : ∀ d ∈ tables_1, d.before a0 Z = true) : (Jvm.Cond.methodLink "keystrata/DeclaredTypeDoubleWithDigitsPinLaw" (13 : Nat) ({ cls := "keystrata/Dialect$DeclaredType", name := "<init>", desc := "(ILjava/lang/String;II)V" } : Jvm.MethodName)).before a0 Z = true := hw _ (List.mem_of_getElem? (i := 11) rfl)
theorem w12 {Z : State} {a0 : Array Value} (hw : ∀ d ∈ tables_1, d.before a0 Z = true) : (Jvm.Cond.instanceMethod ({ cls := "keystrata/Dialect$DeclaredType", name := "<init>", desc := "(ILjava/lang/String;II)V" } : Jvm.MethodName)).before a0 Z = true := hw _ (List.mem_of_getElem? (i := 12) rfl)
theorem w13 {Z : State} {a0 : Array Value} (hw : ∀ d ∈ tables_1, d.before a0 Z = true) : (Jvm.Cond.code ({ cls := "keystrata/Dialect$DeclaredType", name := "<init>", desc := "(ILjava/lang/String;II)V" } : Jvm.MethodName) prog_16_method_1_code (5 : Nat) (Option.none : Option Jvm.ClassFile.FieldType)).before a0 Z = true := hw _ (List.mem_of_getElem? (i := 13) rfl)
theorem pd_3 : parseMethodDescriptor "()Z" = some ⟨[], some .boolean⟩ := by decide +kernel
theorem w43 {Z : State} {a0 : Array Value} (hw : ∀ d ∈ tables_1, d.before a0 Z = true) : (Jvm.Cond.selects "keystrata/Dialect$DeclaredType" ({ cls := "keystrata/Dialect$DeclaredType", name := "doubleWithDigits", desc := "()Z" } : Jvm.MethodName) ({ cls := "keystrata/Dialect$DeclaredType", name := "doubleWithDigits", desc := "()Z" } : Jvm.MethodName)).before a0 Z = true := hw _ (List.mem_of_getElem? (i := 43) rfl)
theorem w40 {Z : State} {a0 : Array Value} (hw : ∀ d ∈ tables_1, d.before a0 Z = true) : (Jvm.Cond.methodLink "keystrata/DeclaredTypeDoubleWithDigitsPinLaw" (16 : Nat) ({ cls := "keystrata/Dialect$DeclaredType", name := "doubleWithDigits", desc := "()Z" } : Jvm.MethodName)).before a0 Z = true := hw _ (List.mem_of_getElem? (i := 40) rfl)
theorem w41 {Z : State} {a0 : Array Value} (hw : ∀ d ∈ tables_1, d.before a0 Z = true) : (Jvm.Cond.declares ({ cls := "keystrata/Dialect$DeclaredType", name := "doubleWithDigits", desc := "()Z" } : Jvm.MethodName)).before a0 Z = true := hw _ (List.mem_of_getElem? (i := 41) rfl)
theorem w42 {Z : State} {a0 : Array Value} (hw : ∀ d ∈ tables_1, d.before a0 Z = true) : (Jvm.Cond.instanceMethod ({ cls := "keystrata/Dialect$DeclaredType", name := "doubleWithDigits", desc := "()Z" } : Jvm.MethodName)).before a0 Z = true := hw _ (List.mem_of_getElem? (i := 42) rfl)
theorem w44 {Z : State} {a0 : Array Value} (hw : ∀ d ∈ tables_1, d.before a0 Z = true) : (Jvm.Cond.code ({ cls := "keystrata/Dialect$DeclaredType", name := "doubleWithDigits", desc := "()Z" } : Jvm.MethodName) prog_16_method_25_code (1 : Nat) (Option.some Jvm.ClassFile.FieldType.boolean)).before a0 Z = true := hw _ (List.mem_of_getElem? (i := 44) rfl)
theorem w45 {Z : State} {a0 : Array Value} (hw : ∀ d ∈ tables_1, d.before a0 Z = true) : (Jvm.Cond.methodLink "keystrata/DeclaredTypeDoubleWithDigitsPinLaw" (20 : Nat) ({ cls := "keystrata/Dialect$DeclaredType", name := "<init>", desc := "(ILjava/lang/String;IIZLkeystrata/CharacterSet;)V" } : Jvm.MethodName)).before a0 Z = true := hw _ (List.mem_of_getElem? (i := 45) rfl)
set_option maxRecDepth 65536 in
set_option maxHeartbeats 40000000 in
theorem rm0 (l : Launch) (Z : State) (a0 : Array Value) (hw : ∀ d ∈ tables_1, d.before a0 Z = true) (ws : List Jvm.Cond) (h0 : Heap) (p1 p2 p3 p4 : Int32) (r6 : Value) (n0 : Nat) (hr6 : r6.isRef = true) (S0 : Sta Z Z.heap "keystrata/CharacterSet" "ANY" "Lkeystrata/CharacterSet;" r6) (O0 : Old Z n0 h0) : ConW l Z x code maxLocals ret ws room_1 16 1152 #[(.int p1), (.int p2), (.int p3), (.int p4)] h0 (fun v h L => v = some (.int 1) ∧ Fr n0 L) := by
  refine ConW.intro (plainFor_of_name pn_2) ?_
  intro p e s m below meth c s₁ X0 hx hby hml hZ hown hnm hret hlk e0 hs0
  refine Gl.of (fun _ k => castTop (ef_5 m p1 p2 p3 p4) k) ?_
  have hS0 := (State.WarmedH.refl s).since 0
  have hk0 : 0 ≤ h0.size := Nat.zero_le _
  have J13 : ∀ (T1 : State), Stand p l e room_1 s m #[(.int p1), (.int p2), (.int p3), (.int p4)] below meth c T1 [] 0 0 → T1.heap = h0 → ∀ r : Int32, (r = 0 ∨ r = 1) → Gl p e below (GdW s (fun v h L => v = some (.int 1) ∧ Fr n0 L) 16 1152) (T1.setTop (mkF m 13 #[.val (.int p1), .val (.int p2), .val (.int p3), .val (.int p4), .val (.int r), .unset, .unset, .unset, .unset, .unset, .unset, .unset] [])) := by
    intro T1 X1 e1 r hr
    have J61 : ∀ (T2 : State), Stand p l e room_1 s m #[(.int p1), (.int p2), (.int p3), (.int p4)] below meth c T2 [] 0 0 → T2.heap = h0 → ∀ t : Int32, Gl p e below (GdW s (fun v h L => v = some (.int 1) ∧ Fr n0 L) 16 1152) (T2.setTop (mkF m 61 #[.val (.int p1), .val (.int p2), .val (.int p3), .val (.int p4), .val (.int r), .val (.int (((p4.toUInt32 >>> ((1 : Int32) &&& 31).toUInt32).toInt32) &&& (3 : Int32))), .val (.int t), .unset, .unset, .unset, .unset, .unset] [])) := by
      intro T2 X2 e2 t
      have J75 : ∀ (T3 : State), Stand p l e room_1 s m #[(.int p1), (.int p2), (.int p3), (.int p4)] below meth c T3 [] 0 0 → T3.heap = h0 → ∀ d : Int32, (d = own_d t) → Gl p e below (GdW s (fun v h L => v = some (.int 1) ∧ Fr n0 L) 16 1152) (T3.setTop (mkF m 75 #[.val (.int p1), .val (.int p2), .val (.int p3), .val (.int p4), .val (.int r), .val (.int (((p4.toUInt32 >>> ((1 : Int32) &&& 31).toUInt32).toInt32) &&& (3 : Int32))), .val (.int t), .val (.int d), .unset, .unset, .unset, .unset] [])) := by
        intro T3 X3 e3 d hd
        show Gl p e below _ (T3.setTop (mkF m 75 #[.val (.int p1), .val (.int p2), .val (.int p3), .val (.int p4), .val (.int r), .val (.int (((p4.toUInt32 >>> ((1 : Int32) &&& 31).toUInt32).toInt32) &&& (3 : Int32))), .val (.int t), .val (.int d), .unset, .unset, .unset, .unset] []))
        obtain ⟨T4, h4, X4, e4, E4, A4, D4, -, st4⟩ := newO X3 hx hZ hown (w0 hw) (w1 hw) (w2 hw) e3 (g := (mkF m 75 #[.val (.int p1), .val (.int p2), .val (.int p3), .val (.int p4), .val (.int r), .val (.int (((p4.toUInt32 >>> ((1 : Int32) &&& 31).toUInt32).toInt32) &&& (3 : Int32))), .val (.int t), .val (.int d), .unset, .unset, .unset, .unset] [])) rfl (hb hby at_75) (by decide) (by decide)
        obtain ⟨b4, g4⟩ : ∃ z, z = h0.size := ⟨_, rfl⟩
        rw [← g4] at A4 D4 st4
        refine Gl.of st4 ?_
        have Gb4 : n0 ≤ b4 := Nat.le_trans (O0.1 ▸ O0.2.1) (Nat.le_of_eq g4.symm)
        have O4 := O0.ext E4
        have hk4 := Nat.le_trans hk0 E4.1
        have F4_jdbcType : Fld Z h4 b4 "keystrata/Dialect$DeclaredType" "jdbcType" "I" (.int (0 : Int32)) := D4 (Or.inr (w29 hw)) (ty := .int) (by decide)
        have F4_name : Fld Z h4 b4 "keystrata/Dialect$DeclaredType" "name" "Ljava/lang/String;" .null := D4 (Or.inr (w31 hw)) (ty := (.object "java/lang/String")) (by decide)
        have F4_size : Fld Z h4 b4 "keystrata/Dialect$DeclaredType" "size" "I" (.int (0 : Int32)) := D4 (Or.inr (w33 hw)) (ty := .int) (by decide)
        have F4_digits : Fld Z h4 b4 "keystrata/Dialect$DeclaredType" "digits" "I" (.int (0 : Int32)) := D4 (Or.inr (w35 hw)) (ty := .int) (by decide)
        have F4_digitsReported : Fld Z h4 b4 "keystrata/Dialect$DeclaredType" "digitsReported" "Z" (.int (0 : Int32)) := D4 (Or.inr (w37 hw)) (ty := .boolean) (by decide)
        have F4_characterSet : Fld Z h4 b4 "keystrata/Dialect$DeclaredType" "characterSet" "Lkeystrata/CharacterSet;" .null := D4 (Or.inr (w39 hw)) (ty := (.object "keystrata/CharacterSet")) (by decide)
        show Gl p e below _ (T4.setTop (mkF m 78 #[.val (.int p1), .val (.int p2), .val (.int p3), .val (.int p4), .val (.int r), .val (.int (((p4.toUInt32 >>> ((1 : Int32) &&& 31).toUInt32).toInt32) &&& (3 : Int32))), .val (.int t), .val (.int d), .unset, .unset, .unset, .unset] [(.ref b4)]))
        refine Gl.of (fun _ k => XS.dup X4.here hx rfl (hb hby at_78) rfl rfl k) ?_
        show Gl p e below _ (T4.setTop (mkF m 79 #[.val (.int p1), .val (.int p2), .val (.int p3), .val (.int p4), .val (.int r), .val (.int (((p4.toUInt32 >>> ((1 : Int32) &&& 31).toUInt32).toInt32) &&& (3 : Int32))), .val (.int t), .val (.int d), .unset, .unset, .unset, .unset] [(.ref b4), (.ref b4)]))
        refine Gl.of (fun _ k => XS.iload X4.here hx rfl (hb hby at_79) rfl k) ?_
        show Gl p e below _ (T4.setTop (mkF m 81 #[.val (.int p1), .val (.int p2), .val (.int p3), .val (.int p4), .val (.int r), .val (.int (((p4.toUInt32 >>> ((1 : Int32) &&& 31).toUInt32).toInt32) &&& (3 : Int32))), .val (.int t), .val (.int d), .unset, .unset, .unset, .unset] [(.int t), (.ref b4), (.ref b4)]))
        obtain ⟨b5, T5, h5, k5, X5, e5, E5, hS5, hk5, hZ, hown, st5⟩ := ldcS X4 hx hZ hown (w3 hw) (own_str hw) e4 hS0 hk4 (g := (mkF m 81 #[.val (.int p1), .val (.int p2), .val (.int p3), .val (.int p4), .val (.int r), .val (.int (((p4.toUInt32 >>> ((1 : Int32) &&& 31).toUInt32).toInt32) &&& (3 : Int32))), .val (.int t), .val (.int d), .unset, .unset, .unset, .unset] [(.int t), (.ref b4), (.ref b4)])) rfl (hb hby at_81) (n := 24) (by decide) (by decide) (by decide) (by decide)
        refine Gl.of st5 ?_
        have ec6 := A4.ext E5
        have fc7 := F4_jdbcType.ext E5
        have fc8 := F4_name.ext E5
        have fc9 := F4_size.ext E5
        have fc10 := F4_digits.ext E5
        have fc11 := F4_digitsReported.ext E5
        have fc12 := F4_characterSet.ext E5
        have O5 := O4.ext E5
        show Gl p e below _ (T5.setTop (mkF m 83 #[.val (.int p1), .val (.int p2), .val (.int p3), .val (.int p4), .val (.int r), .val (.int (((p4.toUInt32 >>> ((1 : Int32) &&& 31).toUInt32).toInt32) &&& (3 : Int32))), .val (.int t), .val (.int d), .unset, .unset, .unset, .unset] [(.ref b5), (.int t), (.ref b4), (.ref b4)]))
        refine Gl.of (fun _ k => XS.iloadN X5.here hx rfl (hb hby at_83) rfl k) ?_
        show Gl p e below _ (T5.setTop (mkF m 84 #[.val (.int p1), .val (.int p2), .val (.int p3), .val (.int p4), .val (.int r), .val (.int (((p4.toUInt32 >>> ((1 : Int32) &&& 31).toUInt32).toInt32) &&& (3 : Int32))), .val (.int t), .val (.int d), .unset, .unset, .unset, .unset] [(.int p2), (.ref b5), (.int t), (.ref b4), (.ref b4)]))
        refine Gl.of (fun _ k => XS.iloadN X5.here hx rfl (hb hby at_84) rfl k) ?_
        show Gl p e below _ (T5.setTop (mkF m 85 #[.val (.int p1), .val (.int p2), .val (.int p3), .val (.int p4), .val (.int r), .val (.int (((p4.toUInt32 >>> ((1 : Int32) &&& 31).toUInt32).toInt32) &&& (3 : Int32))), .val (.int t), .val (.int d), .unset, .unset, .unset, .unset] [(.int p3), (.int p2), (.ref b5), (.int t), (.ref b4), (.ref b4)]))
        refine Gl.callI X5 hx hZ (y := (⟨"keystrata/Dialect$DeclaredType", "<init>", "(ILjava/lang/String;II)V"⟩ : MethodName)) rfl hown (w11 hw) (w12 hw) (w2 hw) (w13 hw) (desc_ne (by decide)) (rm := { frames := 3, cells := 0, slots := 0, locals := 52 }) (b := b4) (argsL := [(.int t), (.ref b5), (.int p2), (.int p3)]) (rest := [(.ref b4)]) (rm5 l Z a0 hw _ b4 t (.ref b5) p2 p3 r6 n0 rfl hr6 (S0.ext O5.2) ec6 fc7 fc8 fc9 fc10 fc11 fc12 Gb4) 1 (by decide) (by decide) (by decide) (by decide) e5 (pc := 85) (Ls := #[.val (.int p1), .val (.int p2), .val (.int p3), .val (.int p4), .val (.int r), .val (.int (((p4.toUInt32 >>> ((1 : Int32) &&& 31).toUInt32).toInt32) &&& (3 : Int32))), .val (.int t), .val (.int d), .unset, .unset, .unset, .unset]) (st := [(.int p3), (.int p2), (.ref b5), (.int t), (.ref b4), (.ref b4)]) (by rw [hml]; rfl) pd_2 rfl rfl (Nat.le_of_eq rfl) (hb hby at_85) ?_
        intro v13 T13 L13 X13 hQ13
        obtain ⟨rfl, Nq13, Kq13, F13a, F13b⟩ := hQ13
        have N13 := Fr.app (Fr.nil n0) Nq13
        have ec14 := ec6.keep Kq13
        have O13 := O5.keep Kq13 (allS Gb4 all0)
        have hk13 := Nat.le_trans hk5 Kq13.1
        show Gl p e below _ (T13.setTop (mkF m 88 #[.val (.int p1), .val (.int p2), .val (.int p3), .val (.int p4), .val (.int r), .val (.int (((p4.toUInt32 >>> ((1 : Int32) &&& 31).toUInt32).toInt32) &&& (3 : Int32))), .val (.int t), .val (.int d), .unset, .unset, .unset, .unset] [(.ref b4)]))
        refine Gl.of (fun _ k => XS.astore X13.here hx rfl (hb hby at_88) rfl rfl (l' := #[.val (.int p1), .val (.int p2), .val (.int p3), .val (.int p4), .val (.int r), .val (.int (((p4.toUInt32 >>> ((1 : Int32) &&& 31).toUInt32).toInt32) &&& (3 : Int32))), .val (.int t), .val (.int d), .val (.ref b4), .unset, .unset, .unset]) rfl k) ?_
        show Gl p e below _ (T13.setTop (mkF m 90 #[.val (.int p1), .val (.int p2), .val (.int p3), .val (.int p4), .val (.int r), .val (.int (((p4.toUInt32 >>> ((1 : Int32) &&& 31).toUInt32).toInt32) &&& (3 : Int32))), .val (.int t), .val (.int d), .val (.ref b4), .unset, .unset, .unset] []))
        refine Gl.of (fun _ k => XS.aload X13.here hx rfl (hb hby at_90) rfl rfl k) ?_
        show Gl p e below _ (T13.setTop (mkF m 92 #[.val (.int p1), .val (.int p2), .val (.int p3), .val (.int p4), .val (.int r), .val (.int (((p4.toUInt32 >>> ((1 : Int32) &&& 31).toUInt32).toInt32) &&& (3 : Int32))), .val (.int t), .val (.int d), .val (.ref b4), .unset, .unset, .unset] [(.ref b4)]))
        refine Gl.callV0 X13 hx hZ (y := (⟨"keystrata/Dialect$DeclaredType", "doubleWithDigits", "()Z"⟩ : MethodName)) (z := (⟨"keystrata/Dialect$DeclaredType", "doubleWithDigits", "()Z"⟩ : MethodName)) hown (w40 hw) (w41 hw) (notFace_of_selects (args := #[]) (mvT hZ (w43 hw))) (w43 hw) (w42 hw) (w44 hw) (w2 hw) (desc_ne (by decide)) (b := b4) (argsL := []) (rest := []) ec14 (rm4 l Z a0 hw _ b4 t (nar .boolean (1 : Int32)) F13a F13b) 0 (by decide) (by decide) rfl (pc := 92) (Ls := #[.val (.int p1), .val (.int p2), .val (.int p3), .val (.int p4), .val (.int r), .val (.int (((p4.toUInt32 >>> ((1 : Int32) &&& 31).toUInt32).toInt32) &&& (3 : Int32))), .val (.int t), .val (.int d), .val (.ref b4), .unset, .unset, .unset]) (st := [(.ref b4)]) (by rw [hml]; rfl) pd_3 rfl rfl (Nat.le_of_eq rfl) (hb hby at_92) (by decide) (by decide) ?_
        intro v15 T15 X15 e15 hv15
        subst hv15
        show Gl p e below _ (T15.setTop (mkF m 95 #[.val (.int p1), .val (.int p2), .val (.int p3), .val (.int p4), .val (.int r), .val (.int (((p4.toUInt32 >>> ((1 : Int32) &&& 31).toUInt32).toInt32) &&& (3 : Int32))), .val (.int t), .val (.int d), .val (.ref b4), .unset, .unset, .unset] [(.int (own_dwd t (nar .boolean (1 : Int32))))]))
        refine Gl.of (fun _ k => XS.iload X15.here hx rfl (hb hby at_95) rfl k) ?_
        show Gl p e below _ (T15.setTop (mkF m 97 #[.val (.int p1), .val (.int p2), .val (.int p3), .val (.int p4), .val (.int r), .val (.int (((p4.toUInt32 >>> ((1 : Int32) &&& 31).toUInt32).toInt32) &&& (3 : Int32))), .val (.int t), .val (.int d), .val (.ref b4), .unset, .unset, .unset] [(.int d), (.int (own_dwd t (nar .boolean (1 : Int32))))]))
        refine Gl.of (fun _ k => XS.icmpNo X15.here hx rfl (hb hby at_97) rfl (teq ((own_known t).trans hd.symm : (own_dwd t (nar .boolean (1 : Int32))) = d)).2 k) ?_
        show Gl p e below _ (T15.setTop (mkF m 100 #[.val (.int p1), .val (.int p2), .val (.int p3), .val (.int p4), .val (.int r), .val (.int (((p4.toUInt32 >>> ((1 : Int32) &&& 31).toUInt32).toInt32) &&& (3 : Int32))), .val (.int t), .val (.int d), .val (.ref b4), .unset, .unset, .unset] []))
        refine Gl.of (fun _ k => XS.iconst X15.here hx rfl (hb hby at_100) k) ?_
        show Gl p e below _ (T15.setTop (mkF m 101 #[.val (.int p1), .val (.int p2), .val (.int p3), .val (.int p4), .val (.int r), .val (.int (((p4.toUInt32 >>> ((1 : Int32) &&& 31).toUInt32).toInt32) &&& (3 : Int32))), .val (.int t), .val (.int d), .val (.ref b4), .unset, .unset, .unset] [(.int (1 : Int32))]))
        refine Gl.of (fun _ k => XS.goto X15.here hx rfl (pc0 := 101) (pc' := 105) rfl (hb hby at_101) (by decide) (by decide) k) ?_
        show Gl p e below _ (T15.setTop (mkF m 105 #[.val (.int p1), .val (.int p2), .val (.int p3), .val (.int p4), .val (.int r), .val (.int (((p4.toUInt32 >>> ((1 : Int32) &&& 31).toUInt32).toInt32) &&& (3 : Int32))), .val (.int t), .val (.int d), .val (.ref b4), .unset, .unset, .unset] [(.int (1 : Int32))]))
        refine Gl.of (fun _ k => XS.istore X15.here hx rfl (hb hby at_105) rfl (l' := #[.val (.int p1), .val (.int p2), .val (.int p3), .val (.int p4), .val (.int r), .val (.int (((p4.toUInt32 >>> ((1 : Int32) &&& 31).toUInt32).toInt32) &&& (3 : Int32))), .val (.int t), .val (.int d), .val (.ref b4), .val (.int (1 : Int32)), .unset, .unset]) rfl k) ?_
        show Gl p e below _ (T15.setTop (mkF m 107 #[.val (.int p1), .val (.int p2), .val (.int p3), .val (.int p4), .val (.int r), .val (.int (((p4.toUInt32 >>> ((1 : Int32) &&& 31).toUInt32).toInt32) &&& (3 : Int32))), .val (.int t), .val (.int d), .val (.ref b4), .val (.int (1 : Int32)), .unset, .unset] []))
        obtain ⟨T16, h16, X16, e16, E16, A16, D16, -, st16⟩ := newO X15 hx hZ hown (w0 hw) (w1 hw) (w2 hw) e15 (g := (mkF m 107 #[.val (.int p1), .val (.int p2), .val (.int p3), .val (.int p4), .val (.int r), .val (.int (((p4.toUInt32 >>> ((1 : Int32) &&& 31).toUInt32).toInt32) &&& (3 : Int32))), .val (.int t), .val (.int d), .val (.ref b4), .val (.int (1 : Int32)), .unset, .unset] [])) rfl (hb hby at_107) (by decide) (by decide)
        obtain ⟨b16, g16⟩ : ∃ z, z = T13.heap.size := ⟨_, rfl⟩
        rw [← g16] at A16 D16 st16
        refine Gl.of st16 ?_
        have Gb16 : n0 ≤ b16 := Nat.le_trans (O13.1 ▸ O13.2.1) (Nat.le_of_eq g16.symm)
        have ne_b4_b16 : b4 ≠ b16 := Nat.ne_of_lt (Nat.lt_of_lt_of_le ec14.lt (Nat.le_of_eq g16.symm))
        have ec17 := ec14.ext E16
        have fc18 := F13a.ext E16
        have fc19 := F13b.ext E16
        have O16 := O13.ext E16
        have hk16 := Nat.le_trans hk13 E16.1
        have F16_jdbcType : Fld Z h16 b16 "keystrata/Dialect$DeclaredType" "jdbcType" "I" (.int (0 : Int32)) := D16 (Or.inr (w29 hw)) (ty := .int) (by decide)
        have F16_name : Fld Z h16 b16 "keystrata/Dialect$DeclaredType" "name" "Ljava/lang/String;" .null := D16 (Or.inr (w31 hw)) (ty := (.object "java/lang/String")) (by decide)
        have F16_size : Fld Z h16 b16 "keystrata/Dialect$DeclaredType" "size" "I" (.int (0 : Int32)) := D16 (Or.inr (w33 hw)) (ty := .int) (by decide)
        have F16_digits : Fld Z h16 b16 "keystrata/Dialect$DeclaredType" "digits" "I" (.int (0 : Int32)) := D16 (Or.inr (w35 hw)) (ty := .int) (by decide)
        have F16_digitsReported : Fld Z h16 b16 "keystrata/Dialect$DeclaredType" "digitsReported" "Z" (.int (0 : Int32)) := D16 (Or.inr (w37 hw)) (ty := .boolean) (by decide)
        have F16_characterSet : Fld Z h16 b16 "keystrata/Dialect$DeclaredType" "characterSet" "Lkeystrata/CharacterSet;" .null := D16 (Or.inr (w39 hw)) (ty := (.object "keystrata/CharacterSet")) (by decide)
        show Gl p e below _ (T16.setTop (mkF m 110 #[.val (.int p1), .val (.int p2), .val (.int p3), .val (.int p4), .val (.int r), .val (.int (((p4.toUInt32 >>> ((1 : Int32) &&& 31).toUInt32).toInt32) &&& (3 : Int32))), .val (.int t), .val (.int d), .val (.ref b4), .val (.int (1 : Int32)), .unset, .unset] [(.ref b16)]))
        refine Gl.of (fun _ k => XS.dup X16.here hx rfl (hb hby at_110) rfl rfl k) ?_
        show Gl p e below _ (T16.setTop (mkF m 111 #[.val (.int p1), .val (.int p2), .val (.int p3), .val (.int p4), .val (.int r), .val (.int (((p4.toUInt32 >>> ((1 : Int32) &&& 31).toUInt32).toInt32) &&& (3 : Int32))), .val (.int t), .val (.int d), .val (.ref b4), .val (.int (1 : Int32)), .unset, .unset] [(.ref b16), (.ref b16)]))
        refine Gl.of (fun _ k => XS.iload X16.here hx rfl (hb hby at_111) rfl k) ?_
        show Gl p e below _ (T16.setTop (mkF m 113 #[.val (.int p1), .val (.int p2), .val (.int p3), .val (.int p4), .val (.int r), .val (.int (((p4.toUInt32 >>> ((1 : Int32) &&& 31).toUInt32).toInt32) &&& (3 : Int32))), .val (.int t), .val (.int d), .val (.ref b4), .val (.int (1 : Int32)), .unset, .unset] [(.int t), (.ref b16), (.ref b16)]))
        obtain ⟨b20, T20, h20, k20, X20, e20, E20, hS20, hk20, hZ, hown, st20⟩ := ldcS X16 hx hZ hown (w3 hw) (own_str hw) e16 hS5 hk16 (g := (mkF m 113 #[.val (.int p1), .val (.int p2), .val (.int p3), .val (.int p4), .val (.int r), .val (.int (((p4.toUInt32 >>> ((1 : Int32) &&& 31).toUInt32).toInt32) &&& (3 : Int32))), .val (.int t), .val (.int d), .val (.ref b4), .val (.int (1 : Int32)), .unset, .unset] [(.int t), (.ref b16), (.ref b16)])) rfl (hb hby at_113) (n := 24) (by decide) (by decide) (by decide) (by decide)
        refine Gl.of st20 ?_
        have ec21 := ec17.ext E20
        have fc22 := fc18.ext E20
        have fc23 := fc19.ext E20
        have ec24 := A16.ext E20
        have fc25 := F16_jdbcType.ext E20
        have fc26 := F16_name.ext E20
        have fc27 := F16_size.ext E20
        have fc28 := F16_digits.ext E20
        have fc29 := F16_digitsReported.ext E20
        have fc30 := F16_characterSet.ext E20
        have O20 := O16.ext E20
        show Gl p e below _ (T20.setTop (mkF m 115 #[.val (.int p1), .val (.int p2), .val (.int p3), .val (.int p4), .val (.int r), .val (.int (((p4.toUInt32 >>> ((1 : Int32) &&& 31).toUInt32).toInt32) &&& (3 : Int32))), .val (.int t), .val (.int d), .val (.ref b4), .val (.int (1 : Int32)), .unset, .unset] [(.ref b20), (.int t), (.ref b16), (.ref b16)]))
        refine Gl.of (fun _ k => XS.iloadN X20.here hx rfl (hb hby at_115) rfl k) ?_
        show Gl p e below _ (T20.setTop (mkF m 116 #[.val (.int p1), .val (.int p2), .val (.int p3), .val (.int p4), .val (.int r), .val (.int (((p4.toUInt32 >>> ((1 : Int32) &&& 31).toUInt32).toInt32) &&& (3 : Int32))), .val (.int t), .val (.int d), .val (.ref b4), .val (.int (1 : Int32)), .unset, .unset] [(.int p2), (.ref b20), (.int t), (.ref b16), (.ref b16)]))
        refine Gl.of (fun _ k => XS.iloadN X20.here hx rfl (hb hby at_116) rfl k) ?_
        show Gl p e below _ (T20.setTop (mkF m 117 #[.val (.int p1), .val (.int p2), .val (.int p3), .val (.int p4), .val (.int r), .val (.int (((p4.toUInt32 >>> ((1 : Int32) &&& 31).toUInt32).toInt32) &&& (3 : Int32))), .val (.int t), .val (.int d), .val (.ref b4), .val (.int (1 : Int32)), .unset, .unset] [(.int p3), (.int p2), (.ref b20), (.int t), (.ref b16), (.ref b16)]))
        refine Gl.of (fun _ k => XS.iload X20.here hx rfl (hb hby at_117) rfl k) ?_
        show Gl p e below _ (T20.setTop (mkF m 119 #[.val (.int p1), .val (.int p2), .val (.int p3), .val (.int p4), .val (.int r), .val (.int (((p4.toUInt32 >>> ((1 : Int32) &&& 31).toUInt32).toInt32) &&& (3 : Int32))), .val (.int t), .val (.int d), .val (.ref b4), .val (.int (1 : Int32)), .unset, .unset] [(.int r), (.int p3), (.int p2), (.ref b20), (.int t), (.ref b16), (.ref b16)]))
        refine Gl.of (fun _ k => XS.aconstNull X20.here hx rfl (hb hby at_119) k) ?_
        show Gl p e below _ (T20.setTop (mkF m 120 #[.val (.int p1), .val (.int p2), .val (.int p3), .val (.int p4), .val (.int r), .val (.int (((p4.toUInt32 >>> ((1 : Int32) &&& 31).toUInt32).toInt32) &&& (3 : Int32))), .val (.int t), .val (.int d), .val (.ref b4), .val (.int (1 : Int32)), .unset, .unset] [.null, (.int r), (.int p3), (.int p2), (.ref b20), (.int t), (.ref b16), (.ref b16)]))
        refine Gl.callI X20 hx hZ (y := (⟨"keystrata/Dialect$DeclaredType", "<init>", "(ILjava/lang/String;IIZLkeystrata/CharacterSet;)V"⟩ : MethodName)) rfl hown (w45 hw) (w18 hw) (w2 hw) (w19 hw) (desc_ne (by decide)) (rm := { frames := 2, cells := 0, slots := 0, locals := 26 }) (b := b16) (argsL := [(.int t), (.ref b20), (.int p2), (.int p3), (.int r), .null]) (rest := [(.ref b16)]) (rm6 l Z a0 hw _ b16 t (.ref b20) p2 p3 r .null n0 rfl rfl ec24 fc25 fc26 fc27 fc28 fc29 fc30 Gb16) 1 (by decide) (by decide) (by decide) (by decide) e20 (pc := 120) (Ls := #[.val (.int p1), .val (.int p2), .val (.int p3), .val (.int p4), .val (.int r), .val (.int (((p4.toUInt32 >>> ((1 : Int32) &&& 31).toUInt32).toInt32) &&& (3 : Int32))), .val (.int t), .val (.int d), .val (.ref b4), .val (.int (1 : Int32)), .unset, .unset]) (st := [.null, (.int r), (.int p3), (.int p2), (.ref b20), (.int t), (.ref b16), (.ref b16)]) (by rw [hml]; rfl) pd_1 rfl rfl (Nat.le_of_eq rfl) (hb hby at_120) ?_
        intro v31 T31 L31 X31 hQ31
        obtain ⟨rfl, Nq31, Kq31, F31a, F31b⟩ := hQ31
        have N31 := Fr.app N13 Nq31
        have ec32 := ec21.keep Kq31
        have fc33 := fc22.keep Kq31 (fun q => ne_b4_b16 (List.mem_singleton.mp q))
        have fc34 := fc23.keep Kq31 (fun q => ne_b4_b16 (List.mem_singleton.mp q))
        have ec35 := ec24.keep Kq31
        have O31 := O20.keep Kq31 (allS Gb16 all0)
        have hk31 := Nat.le_trans hk20 Kq31.1
        show Gl p e below _ (T31.setTop (mkF m 123 #[.val (.int p1), .val (.int p2), .val (.int p3), .val (.int p4), .val (.int r), .val (.int (((p4.toUInt32 >>> ((1 : Int32) &&& 31).toUInt32).toInt32) &&& (3 : Int32))), .val (.int t), .val (.int d), .val (.ref b4), .val (.int (1 : Int32)), .unset, .unset] [(.ref b16)]))
        refine Gl.of (fun _ k => XS.astore X31.here hx rfl (hb hby at_123) rfl rfl (l' := #[.val (.int p1), .val (.int p2), .val (.int p3), .val (.int p4), .val (.int r), .val (.int (((p4.toUInt32 >>> ((1 : Int32) &&& 31).toUInt32).toInt32) &&& (3 : Int32))), .val (.int t), .val (.int d), .val (.ref b4), .val (.int (1 : Int32)), .val (.ref b16), .unset]) rfl k) ?_
        show Gl p e below _ (T31.setTop (mkF m 125 #[.val (.int p1), .val (.int p2), .val (.int p3), .val (.int p4), .val (.int r), .val (.int (((p4.toUInt32 >>> ((1 : Int32) &&& 31).toUInt32).toInt32) &&& (3 : Int32))), .val (.int t), .val (.int d), .val (.ref b4), .val (.int (1 : Int32)), .val (.ref b16), .unset] []))
        refine Gl.of (fun _ k => XS.aload X31.here hx rfl (hb hby at_125) rfl rfl k) ?_
        show Gl p e below _ (T31.setTop (mkF m 127 #[.val (.int p1), .val (.int p2), .val (.int p3), .val (.int p4), .val (.int r), .val (.int (((p4.toUInt32 >>> ((1 : Int32) &&& 31).toUInt32).toInt32) &&& (3 : Int32))), .val (.int t), .val (.int d), .val (.ref b4), .val (.int (1 : Int32)), .val (.ref b16), .unset] [(.ref b16)]))
        refine Gl.callV0 X31 hx hZ (y := (⟨"keystrata/Dialect$DeclaredType", "doubleWithDigits", "()Z"⟩ : MethodName)) (z := (⟨"keystrata/Dialect$DeclaredType", "doubleWithDigits", "()Z"⟩ : MethodName)) hown (w40 hw) (w41 hw) (notFace_of_selects (args := #[]) (mvT hZ (w43 hw))) (w43 hw) (w42 hw) (w44 hw) (w2 hw) (desc_ne (by decide)) (b := b16) (argsL := []) (rest := []) ec35 (rm4 l Z a0 hw _ b16 t (nar .boolean r) F31a F31b) 0 (by decide) (by decide) rfl (pc := 127) (Ls := #[.val (.int p1), .val (.int p2), .val (.int p3), .val (.int p4), .val (.int r), .val (.int (((p4.toUInt32 >>> ((1 : Int32) &&& 31).toUInt32).toInt32) &&& (3 : Int32))), .val (.int t), .val (.int d), .val (.ref b4), .val (.int (1 : Int32)), .val (.ref b16), .unset]) (st := [(.ref b16)]) (by rw [hml]; rfl) pd_3 rfl rfl (Nat.le_of_eq rfl) (hb hby at_127) (by decide) (by decide) ?_
        intro v36 T36 X36 e36 hv36
        subst hv36
        show Gl p e below _ (T36.setTop (mkF m 130 #[.val (.int p1), .val (.int p2), .val (.int p3), .val (.int p4), .val (.int r), .val (.int (((p4.toUInt32 >>> ((1 : Int32) &&& 31).toUInt32).toInt32) &&& (3 : Int32))), .val (.int t), .val (.int d), .val (.ref b4), .val (.int (1 : Int32)), .val (.ref b16), .unset] [(.int (own_dwd t (nar .boolean r)))]))
        refine Gl.of (fun _ k => XS.iload X36.here hx rfl (hb hby at_130) rfl k) ?_
        show Gl p e below _ (T36.setTop (mkF m 132 #[.val (.int p1), .val (.int p2), .val (.int p3), .val (.int p4), .val (.int r), .val (.int (((p4.toUInt32 >>> ((1 : Int32) &&& 31).toUInt32).toInt32) &&& (3 : Int32))), .val (.int t), .val (.int d), .val (.ref b4), .val (.int (1 : Int32)), .val (.ref b16), .unset] [(.int d), (.int (own_dwd t (nar .boolean r)))]))
        by_cases hc132_37 : d = (0 : Int32)
        · refine Gl.of (fun _ k => XS.ifYes X36.here hx rfl (pc0 := 132) (pc' := 144) rfl (hb hby at_132) rfl ((if0 _ _).trans (teq hc132_37).1) (by decide) (by decide) k) ?_
          show Gl p e below _ (T36.setTop (mkF m 144 #[.val (.int p1), .val (.int p2), .val (.int p3), .val (.int p4), .val (.int r), .val (.int (((p4.toUInt32 >>> ((1 : Int32) &&& 31).toUInt32).toInt32) &&& (3 : Int32))), .val (.int t), .val (.int d), .val (.ref b4), .val (.int (1 : Int32)), .val (.ref b16), .unset] [(.int (own_dwd t (nar .boolean r)))]))
          refine Gl.of (fun _ k => XS.iconst X36.here hx rfl (hb hby at_144) k) ?_
          show Gl p e below _ (T36.setTop (mkF m 145 #[.val (.int p1), .val (.int p2), .val (.int p3), .val (.int p4), .val (.int r), .val (.int (((p4.toUInt32 >>> ((1 : Int32) &&& 31).toUInt32).toInt32) &&& (3 : Int32))), .val (.int t), .val (.int d), .val (.ref b4), .val (.int (1 : Int32)), .val (.ref b16), .unset] [(.int (0 : Int32)), (.int (own_dwd t (nar .boolean r)))]))
          refine Gl.of (fun _ k => XS.icmpNo X36.here hx rfl (hb hby at_145) rfl (teq (own_f1 hd hc132_37 : (own_dwd t (nar .boolean r)) = (0 : Int32))).2 k) ?_
          show Gl p e below _ (T36.setTop (mkF m 148 #[.val (.int p1), .val (.int p2), .val (.int p3), .val (.int p4), .val (.int r), .val (.int (((p4.toUInt32 >>> ((1 : Int32) &&& 31).toUInt32).toInt32) &&& (3 : Int32))), .val (.int t), .val (.int d), .val (.ref b4), .val (.int (1 : Int32)), .val (.ref b16), .unset] []))
          refine Gl.of (fun _ k => XS.iconst X36.here hx rfl (hb hby at_148) k) ?_
          show Gl p e below _ (T36.setTop (mkF m 149 #[.val (.int p1), .val (.int p2), .val (.int p3), .val (.int p4), .val (.int r), .val (.int (((p4.toUInt32 >>> ((1 : Int32) &&& 31).toUInt32).toInt32) &&& (3 : Int32))), .val (.int t), .val (.int d), .val (.ref b4), .val (.int (1 : Int32)), .val (.ref b16), .unset] [(.int (1 : Int32))]))
          refine Gl.of (fun _ k => XS.goto X36.here hx rfl (pc0 := 149) (pc' := 153) rfl (hb hby at_149) (by decide) (by decide) k) ?_
          show Gl p e below _ (T36.setTop (mkF m 153 #[.val (.int p1), .val (.int p2), .val (.int p3), .val (.int p4), .val (.int r), .val (.int (((p4.toUInt32 >>> ((1 : Int32) &&& 31).toUInt32).toInt32) &&& (3 : Int32))), .val (.int t), .val (.int d), .val (.ref b4), .val (.int (1 : Int32)), .val (.ref b16), .unset] [(.int (1 : Int32))]))
          refine Gl.of (fun _ k => XS.istore X36.here hx rfl (hb hby at_153) rfl (l' := #[.val (.int p1), .val (.int p2), .val (.int p3), .val (.int p4), .val (.int r), .val (.int (((p4.toUInt32 >>> ((1 : Int32) &&& 31).toUInt32).toInt32) &&& (3 : Int32))), .val (.int t), .val (.int d), .val (.ref b4), .val (.int (1 : Int32)), .val (.ref b16), .val (.int (1 : Int32))]) rfl k) ?_
          show Gl p e below _ (T36.setTop (mkF m 155 #[.val (.int p1), .val (.int p2), .val (.int p3), .val (.int p4), .val (.int r), .val (.int (((p4.toUInt32 >>> ((1 : Int32) &&& 31).toUInt32).toInt32) &&& (3 : Int32))), .val (.int t), .val (.int d), .val (.ref b4), .val (.int (1 : Int32)), .val (.ref b16), .val (.int (1 : Int32))] []))
          refine Gl.of (fun _ k => XS.iload X36.here hx rfl (hb hby at_155) rfl k) ?_
          show Gl p e below _ (T36.setTop (mkF m 157 #[.val (.int p1), .val (.int p2), .val (.int p3), .val (.int p4), .val (.int r), .val (.int (((p4.toUInt32 >>> ((1 : Int32) &&& 31).toUInt32).toInt32) &&& (3 : Int32))), .val (.int t), .val (.int d), .val (.ref b4), .val (.int (1 : Int32)), .val (.ref b16), .val (.int (1 : Int32))] [(.int (1 : Int32))]))
          refine Gl.of (fun _ k => XS.ifNo X36.here hx rfl (hb hby at_157) rfl ((if0 _ _).trans (feq (by decide : ¬ ((1 : Int32) = (0 : Int32)))).1) k) ?_
          show Gl p e below _ (T36.setTop (mkF m 160 #[.val (.int p1), .val (.int p2), .val (.int p3), .val (.int p4), .val (.int r), .val (.int (((p4.toUInt32 >>> ((1 : Int32) &&& 31).toUInt32).toInt32) &&& (3 : Int32))), .val (.int t), .val (.int d), .val (.ref b4), .val (.int (1 : Int32)), .val (.ref b16), .val (.int (1 : Int32))] []))
          refine Gl.of (fun _ k => XS.iload X36.here hx rfl (hb hby at_160) rfl k) ?_
          show Gl p e below _ (T36.setTop (mkF m 162 #[.val (.int p1), .val (.int p2), .val (.int p3), .val (.int p4), .val (.int r), .val (.int (((p4.toUInt32 >>> ((1 : Int32) &&& 31).toUInt32).toInt32) &&& (3 : Int32))), .val (.int t), .val (.int d), .val (.ref b4), .val (.int (1 : Int32)), .val (.ref b16), .val (.int (1 : Int32))] [(.int (1 : Int32))]))
          refine Gl.of (fun _ k => XS.ifNo X36.here hx rfl (hb hby at_162) rfl ((if0 _ _).trans (feq (by decide : ¬ ((1 : Int32) = (0 : Int32)))).1) k) ?_
          show Gl p e below _ (T36.setTop (mkF m 165 #[.val (.int p1), .val (.int p2), .val (.int p3), .val (.int p4), .val (.int r), .val (.int (((p4.toUInt32 >>> ((1 : Int32) &&& 31).toUInt32).toInt32) &&& (3 : Int32))), .val (.int t), .val (.int d), .val (.ref b4), .val (.int (1 : Int32)), .val (.ref b16), .val (.int (1 : Int32))] []))
          refine Gl.of (fun _ k => XS.iconst X36.here hx rfl (hb hby at_165) k) ?_
          show Gl p e below _ (T36.setTop (mkF m 166 #[.val (.int p1), .val (.int p2), .val (.int p3), .val (.int p4), .val (.int r), .val (.int (((p4.toUInt32 >>> ((1 : Int32) &&& 31).toUInt32).toInt32) &&& (3 : Int32))), .val (.int t), .val (.int d), .val (.ref b4), .val (.int (1 : Int32)), .val (.ref b16), .val (.int (1 : Int32))] [(.int (1 : Int32))]))
          refine Gl.of (fun _ k => XS.goto X36.here hx rfl (pc0 := 166) (pc' := 170) rfl (hb hby at_166) (by decide) (by decide) k) ?_
          show Gl p e below _ (T36.setTop (mkF m 170 #[.val (.int p1), .val (.int p2), .val (.int p3), .val (.int p4), .val (.int r), .val (.int (((p4.toUInt32 >>> ((1 : Int32) &&& 31).toUInt32).toInt32) &&& (3 : Int32))), .val (.int t), .val (.int d), .val (.ref b4), .val (.int (1 : Int32)), .val (.ref b16), .val (.int (1 : Int32))] [(.int (1 : Int32))]))
          exact Gl.retNW X36 hx hlk hret (by simp) (hb hby at_170) e36 (⟨rfl, N31⟩) hS20 hk31 (by decide) (by decide)
        · refine Gl.of (fun _ k => XS.ifNo X36.here hx rfl (hb hby at_132) rfl ((if0 _ _).trans (feq hc132_37).1) k) ?_
          show Gl p e below _ (T36.setTop (mkF m 135 #[.val (.int p1), .val (.int p2), .val (.int p3), .val (.int p4), .val (.int r), .val (.int (((p4.toUInt32 >>> ((1 : Int32) &&& 31).toUInt32).toInt32) &&& (3 : Int32))), .val (.int t), .val (.int d), .val (.ref b4), .val (.int (1 : Int32)), .val (.ref b16), .unset] [(.int (own_dwd t (nar .boolean r)))]))
          refine Gl.of (fun _ k => XS.iload X36.here hx rfl (hb hby at_135) rfl k) ?_
          show Gl p e below _ (T36.setTop (mkF m 137 #[.val (.int p1), .val (.int p2), .val (.int p3), .val (.int p4), .val (.int r), .val (.int (((p4.toUInt32 >>> ((1 : Int32) &&& 31).toUInt32).toInt32) &&& (3 : Int32))), .val (.int t), .val (.int d), .val (.ref b4), .val (.int (1 : Int32)), .val (.ref b16), .unset] [(.int r), (.int (own_dwd t (nar .boolean r)))]))
          by_cases hc137_38 : r = (0 : Int32)
          · refine Gl.of (fun _ k => XS.ifYes X36.here hx rfl (pc0 := 137) (pc' := 144) rfl (hb hby at_137) rfl ((if0 _ _).trans (teq hc137_38).1) (by decide) (by decide) k) ?_
            show Gl p e below _ (T36.setTop (mkF m 144 #[.val (.int p1), .val (.int p2), .val (.int p3), .val (.int p4), .val (.int r), .val (.int (((p4.toUInt32 >>> ((1 : Int32) &&& 31).toUInt32).toInt32) &&& (3 : Int32))), .val (.int t), .val (.int d), .val (.ref b4), .val (.int (1 : Int32)), .val (.ref b16), .unset] [(.int (own_dwd t (nar .boolean r)))]))
            refine Gl.of (fun _ k => XS.iconst X36.here hx rfl (hb hby at_144) k) ?_
            show Gl p e below _ (T36.setTop (mkF m 145 #[.val (.int p1), .val (.int p2), .val (.int p3), .val (.int p4), .val (.int r), .val (.int (((p4.toUInt32 >>> ((1 : Int32) &&& 31).toUInt32).toInt32) &&& (3 : Int32))), .val (.int t), .val (.int d), .val (.ref b4), .val (.int (1 : Int32)), .val (.ref b16), .unset] [(.int (0 : Int32)), (.int (own_dwd t (nar .boolean r)))]))
            refine Gl.of (fun _ k => XS.icmpNo X36.here hx rfl (hb hby at_145) rfl (teq (own_f2 hc137_38 : (own_dwd t (nar .boolean r)) = (0 : Int32))).2 k) ?_
            show Gl p e below _ (T36.setTop (mkF m 148 #[.val (.int p1), .val (.int p2), .val (.int p3), .val (.int p4), .val (.int r), .val (.int (((p4.toUInt32 >>> ((1 : Int32) &&& 31).toUInt32).toInt32) &&& (3 : Int32))), .val (.int t), .val (.int d), .val (.ref b4), .val (.int (1 : Int32)), .val (.ref b16), .unset] []))
            refine Gl.of (fun _ k => XS.iconst X36.here hx rfl (hb hby at_148) k) ?_
            show Gl p e below _ (T36.setTop (mkF m 149 #[.val (.int p1), .val (.int p2), .val (.int p3), .val (.int p4), .val (.int r), .val (.int (((p4.toUInt32 >>> ((1 : Int32) &&& 31).toUInt32).toInt32) &&& (3 : Int32))), .val (.int t), .val (.int d), .val (.ref b4), .val (.int (1 : Int32)), .val (.ref b16), .unset] [(.int (1 : Int32))]))
            refine Gl.of (fun _ k => XS.goto X36.here hx rfl (pc0 := 149) (pc' := 153) rfl (hb hby at_149) (by decide) (by decide) k) ?_
            show Gl p e below _ (T36.setTop (mkF m 153 #[.val (.int p1), .val (.int p2), .val (.int p3), .val (.int p4), .val (.int r), .val (.int (((p4.toUInt32 >>> ((1 : Int32) &&& 31).toUInt32).toInt32) &&& (3 : Int32))), .val (.int t), .val (.int d), .val (.ref b4), .val (.int (1 : Int32)), .val (.ref b16), .unset] [(.int (1 : Int32))]))
            refine Gl.of (fun _ k => XS.istore X36.here hx rfl (hb hby at_153) rfl (l' := #[.val (.int p1), .val (.int p2), .val (.int p3), .val (.int p4), .val (.int r), .val (.int (((p4.toUInt32 >>> ((1 : Int32) &&& 31).toUInt32).toInt32) &&& (3 : Int32))), .val (.int t), .val (.int d), .val (.ref b4), .val (.int (1 : Int32)), .val (.ref b16), .val (.int (1 : Int32))]) rfl k) ?_
            show Gl p e below _ (T36.setTop (mkF m 155 #[.val (.int p1), .val (.int p2), .val (.int p3), .val (.int p4), .val (.int r), .val (.int (((p4.toUInt32 >>> ((1 : Int32) &&& 31).toUInt32).toInt32) &&& (3 : Int32))), .val (.int t), .val (.int d), .val (.ref b4), .val (.int (1 : Int32)), .val (.ref b16), .val (.int (1 : Int32))] []))
            refine Gl.of (fun _ k => XS.iload X36.here hx rfl (hb hby at_155) rfl k) ?_
            show Gl p e below _ (T36.setTop (mkF m 157 #[.val (.int p1), .val (.int p2), .val (.int p3), .val (.int p4), .val (.int r), .val (.int (((p4.toUInt32 >>> ((1 : Int32) &&& 31).toUInt32).toInt32) &&& (3 : Int32))), .val (.int t), .val (.int d), .val (.ref b4), .val (.int (1 : Int32)), .val (.ref b16), .val (.int (1 : Int32))] [(.int (1 : Int32))]))
            refine Gl.of (fun _ k => XS.ifNo X36.here hx rfl (hb hby at_157) rfl ((if0 _ _).trans (feq (by decide : ¬ ((1 : Int32) = (0 : Int32)))).1) k) ?_
            show Gl p e below _ (T36.setTop (mkF m 160 #[.val (.int p1), .val (.int p2), .val (.int p3), .val (.int p4), .val (.int r), .val (.int (((p4.toUInt32 >>> ((1 : Int32) &&& 31).toUInt32).toInt32) &&& (3 : Int32))), .val (.int t), .val (.int d), .val (.ref b4), .val (.int (1 : Int32)), .val (.ref b16), .val (.int (1 : Int32))] []))
            refine Gl.of (fun _ k => XS.iload X36.here hx rfl (hb hby at_160) rfl k) ?_
            show Gl p e below _ (T36.setTop (mkF m 162 #[.val (.int p1), .val (.int p2), .val (.int p3), .val (.int p4), .val (.int r), .val (.int (((p4.toUInt32 >>> ((1 : Int32) &&& 31).toUInt32).toInt32) &&& (3 : Int32))), .val (.int t), .val (.int d), .val (.ref b4), .val (.int (1 : Int32)), .val (.ref b16), .val (.int (1 : Int32))] [(.int (1 : Int32))]))
            refine Gl.of (fun _ k => XS.ifNo X36.here hx rfl (hb hby at_162) rfl ((if0 _ _).trans (feq (by decide : ¬ ((1 : Int32) = (0 : Int32)))).1) k) ?_
            show Gl p e below _ (T36.setTop (mkF m 165 #[.val (.int p1), .val (.int p2), .val (.int p3), .val (.int p4), .val (.int r), .val (.int (((p4.toUInt32 >>> ((1 : Int32) &&& 31).toUInt32).toInt32) &&& (3 : Int32))), .val (.int t), .val (.int d), .val (.ref b4), .val (.int (1 : Int32)), .val (.ref b16), .val (.int (1 : Int32))] []))
            refine Gl.of (fun _ k => XS.iconst X36.here hx rfl (hb hby at_165) k) ?_
            show Gl p e below _ (T36.setTop (mkF m 166 #[.val (.int p1), .val (.int p2), .val (.int p3), .val (.int p4), .val (.int r), .val (.int (((p4.toUInt32 >>> ((1 : Int32) &&& 31).toUInt32).toInt32) &&& (3 : Int32))), .val (.int t), .val (.int d), .val (.ref b4), .val (.int (1 : Int32)), .val (.ref b16), .val (.int (1 : Int32))] [(.int (1 : Int32))]))
            refine Gl.of (fun _ k => XS.goto X36.here hx rfl (pc0 := 166) (pc' := 170) rfl (hb hby at_166) (by decide) (by decide) k) ?_
            show Gl p e below _ (T36.setTop (mkF m 170 #[.val (.int p1), .val (.int p2), .val (.int p3), .val (.int p4), .val (.int r), .val (.int (((p4.toUInt32 >>> ((1 : Int32) &&& 31).toUInt32).toInt32) &&& (3 : Int32))), .val (.int t), .val (.int d), .val (.ref b4), .val (.int (1 : Int32)), .val (.ref b16), .val (.int (1 : Int32))] [(.int (1 : Int32))]))
            exact Gl.retNW X36 hx hlk hret (by simp) (hb hby at_170) e36 (⟨rfl, N31⟩) hS20 hk31 (by decide) (by decide)
          · refine Gl.of (fun _ k => XS.ifNo X36.here hx rfl (hb hby at_137) rfl ((if0 _ _).trans (feq hc137_38).1) k) ?_
            show Gl p e below _ (T36.setTop (mkF m 140 #[.val (.int p1), .val (.int p2), .val (.int p3), .val (.int p4), .val (.int r), .val (.int (((p4.toUInt32 >>> ((1 : Int32) &&& 31).toUInt32).toInt32) &&& (3 : Int32))), .val (.int t), .val (.int d), .val (.ref b4), .val (.int (1 : Int32)), .val (.ref b16), .unset] [(.int (own_dwd t (nar .boolean r)))]))
            refine Gl.of (fun _ k => XS.iconst X36.here hx rfl (hb hby at_140) k) ?_
            show Gl p e below _ (T36.setTop (mkF m 141 #[.val (.int p1), .val (.int p2), .val (.int p3), .val (.int p4), .val (.int r), .val (.int (((p4.toUInt32 >>> ((1 : Int32) &&& 31).toUInt32).toInt32) &&& (3 : Int32))), .val (.int t), .val (.int d), .val (.ref b4), .val (.int (1 : Int32)), .val (.ref b16), .unset] [(.int (1 : Int32)), (.int (own_dwd t (nar .boolean r)))]))
            refine Gl.of (fun _ k => XS.goto X36.here hx rfl (pc0 := 141) (pc' := 145) rfl (hb hby at_141) (by decide) (by decide) k) ?_
            show Gl p e below _ (T36.setTop (mkF m 145 #[.val (.int p1), .val (.int p2), .val (.int p3), .val (.int p4), .val (.int r), .val (.int (((p4.toUInt32 >>> ((1 : Int32) &&& 31).toUInt32).toInt32) &&& (3 : Int32))), .val (.int t), .val (.int d), .val (.ref b4), .val (.int (1 : Int32)), .val (.ref b16), .unset] [(.int (1 : Int32)), (.int (own_dwd t (nar .boolean r)))]))
            refine Gl.of (fun _ k => XS.icmpNo X36.here hx rfl (hb hby at_145) rfl (teq (own_f3 hr hd hc132_37 hc137_38 : (own_dwd t (nar .boolean r)) = (1 : Int32))).2 k) ?_
            show Gl p e below _ (T36.setTop (mkF m 148 #[.val (.int p1), .val (.int p2), .val (.int p3), .val (.int p4), .val (.int r), .val (.int (((p4.toUInt32 >>> ((1 : Int32) &&& 31).toUInt32).toInt32) &&& (3 : Int32))), .val (.int t), .val (.int d), .val (.ref b4), .val (.int (1 : Int32)), .val (.ref b16), .unset] []))
            refine Gl.of (fun _ k => XS.iconst X36.here hx rfl (hb hby at_148) k) ?_
            show Gl p e below _ (T36.setTop (mkF m 149 #[.val (.int p1), .val (.int p2), .val (.int p3), .val (.int p4), .val (.int r), .val (.int (((p4.toUInt32 >>> ((1 : Int32) &&& 31).toUInt32).toInt32) &&& (3 : Int32))), .val (.int t), .val (.int d), .val (.ref b4), .val (.int (1 : Int32)), .val (.ref b16), .unset] [(.int (1 : Int32))]))
            refine Gl.of (fun _ k => XS.goto X36.here hx rfl (pc0 := 149) (pc' := 153) rfl (hb hby at_149) (by decide) (by decide) k) ?_
            show Gl p e below _ (T36.setTop (mkF m 153 #[.val (.int p1), .val (.int p2), .val (.int p3), .val (.int p4), .val (.int r), .val (.int (((p4.toUInt32 >>> ((1 : Int32) &&& 31).toUInt32).toInt32) &&& (3 : Int32))), .val (.int t), .val (.int d), .val (.ref b4), .val (.int (1 : Int32)), .val (.ref b16), .unset] [(.int (1 : Int32))]))
            refine Gl.of (fun _ k => XS.istore X36.here hx rfl (hb hby at_153) rfl (l' := #[.val (.int p1), .val (.int p2), .val (.int p3), .val (.int p4), .val (.int r), .val (.int (((p4.toUInt32 >>> ((1 : Int32) &&& 31).toUInt32).toInt32) &&& (3 : Int32))), .val (.int t), .val (.int d), .val (.ref b4), .val (.int (1 : Int32)), .val (.ref b16), .val (.int (1 : Int32))]) rfl k) ?_
            show Gl p e below _ (T36.setTop (mkF m 155 #[.val (.int p1), .val (.int p2), .val (.int p3), .val (.int p4), .val (.int r), .val (.int (((p4.toUInt32 >>> ((1 : Int32) &&& 31).toUInt32).toInt32) &&& (3 : Int32))), .val (.int t), .val (.int d), .val (.ref b4), .val (.int (1 : Int32)), .val (.ref b16), .val (.int (1 : Int32))] []))
            refine Gl.of (fun _ k => XS.iload X36.here hx rfl (hb hby at_155) rfl k) ?_
            show Gl p e below _ (T36.setTop (mkF m 157 #[.val (.int p1), .val (.int p2), .val (.int p3), .val (.int p4), .val (.int r), .val (.int (((p4.toUInt32 >>> ((1 : Int32) &&& 31).toUInt32).toInt32) &&& (3 : Int32))), .val (.int t), .val (.int d), .val (.ref b4), .val (.int (1 : Int32)), .val (.ref b16), .val (.int (1 : Int32))] [(.int (1 : Int32))]))
            refine Gl.of (fun _ k => XS.ifNo X36.here hx rfl (hb hby at_157) rfl ((if0 _ _).trans (feq (by decide : ¬ ((1 : Int32) = (0 : Int32)))).1) k) ?_
            show Gl p e below _ (T36.setTop (mkF m 160 #[.val (.int p1), .val (.int p2), .val (.int p3), .val (.int p4), .val (.int r), .val (.int (((p4.toUInt32 >>> ((1 : Int32) &&& 31).toUInt32).toInt32) &&& (3 : Int32))), .val (.int t), .val (.int d), .val (.ref b4), .val (.int (1 : Int32)), .val (.ref b16), .val (.int (1 : Int32))] []))
            refine Gl.of (fun _ k => XS.iload X36.here hx rfl (hb hby at_160) rfl k) ?_
            show Gl p e below _ (T36.setTop (mkF m 162 #[.val (.int p1), .val (.int p2), .val (.int p3), .val (.int p4), .val (.int r), .val (.int (((p4.toUInt32 >>> ((1 : Int32) &&& 31).toUInt32).toInt32) &&& (3 : Int32))), .val (.int t), .val (.int d), .val (.ref b4), .val (.int (1 : Int32)), .val (.ref b16), .val (.int (1 : Int32))] [(.int (1 : Int32))]))
            refine Gl.of (fun _ k => XS.ifNo X36.here hx rfl (hb hby at_162) rfl ((if0 _ _).trans (feq (by decide : ¬ ((1 : Int32) = (0 : Int32)))).1) k) ?_
            show Gl p e below _ (T36.setTop (mkF m 165 #[.val (.int p1), .val (.int p2), .val (.int p3), .val (.int p4), .val (.int r), .val (.int (((p4.toUInt32 >>> ((1 : Int32) &&& 31).toUInt32).toInt32) &&& (3 : Int32))), .val (.int t), .val (.int d), .val (.ref b4), .val (.int (1 : Int32)), .val (.ref b16), .val (.int (1 : Int32))] []))
            refine Gl.of (fun _ k => XS.iconst X36.here hx rfl (hb hby at_165) k) ?_
            show Gl p e below _ (T36.setTop (mkF m 166 #[.val (.int p1), .val (.int p2), .val (.int p3), .val (.int p4), .val (.int r), .val (.int (((p4.toUInt32 >>> ((1 : Int32) &&& 31).toUInt32).toInt32) &&& (3 : Int32))), .val (.int t), .val (.int d), .val (.ref b4), .val (.int (1 : Int32)), .val (.ref b16), .val (.int (1 : Int32))] [(.int (1 : Int32))]))
            refine Gl.of (fun _ k => XS.goto X36.here hx rfl (pc0 := 166) (pc' := 170) rfl (hb hby at_166) (by decide) (by decide) k) ?_
            show Gl p e below _ (T36.setTop (mkF m 170 #[.val (.int p1), .val (.int p2), .val (.int p3), .val (.int p4), .val (.int r), .val (.int (((p4.toUInt32 >>> ((1 : Int32) &&& 31).toUInt32).toInt32) &&& (3 : Int32))), .val (.int t), .val (.int d), .val (.ref b4), .val (.int (1 : Int32)), .val (.ref b16), .val (.int (1 : Int32))] [(.int (1 : Int32))]))
            exact Gl.retNW X36 hx hlk hret (by simp) (hb hby at_170) e36 (⟨rfl, N31⟩) hS20 hk31 (by decide) (by decide)
      show Gl p e below _ (T2.setTop (mkF m 61 #[.val (.int p1), .val (.int p2), .val (.int p3), .val (.int p4), .val (.int r), .val (.int (((p4.toUInt32 >>> ((1 : Int32) &&& 31).toUInt32).toInt32) &&& (3 : Int32))), .val (.int t), .unset, .unset, .unset, .unset, .unset] []))
      refine Gl.of (fun _ k => XS.iload X2.here hx rfl (hb hby at_61) rfl k) ?_
      show Gl p e below _ (T2.setTop (mkF m 63 #[.val (.int p1), .val (.int p2), .val (.int p3), .val (.int p4), .val (.int r), .val (.int (((p4.toUInt32 >>> ((1 : Int32) &&& 31).toUInt32).toInt32) &&& (3 : Int32))), .val (.int t), .unset, .unset, .unset, .unset, .unset] [(.int t)]))
      refine Gl.of (fun _ k => XS.bipush X2.here hx rfl (hb hby at_63) k) ?_
      show Gl p e below _ (T2.setTop (mkF m 65 #[.val (.int p1), .val (.int p2), .val (.int p3), .val (.int p4), .val (.int r), .val (.int (((p4.toUInt32 >>> ((1 : Int32) &&& 31).toUInt32).toInt32) &&& (3 : Int32))), .val (.int t), .unset, .unset, .unset, .unset, .unset] [(.int (8 : Int32)), (.int t)]))
      by_cases hc65_39 : t = (8 : Int32)
      · refine Gl.of (fun _ k => XS.icmpNo X2.here hx rfl (hb hby at_65) rfl (teq hc65_39).2 k) ?_
        show Gl p e below _ (T2.setTop (mkF m 68 #[.val (.int p1), .val (.int p2), .val (.int p3), .val (.int p4), .val (.int r), .val (.int (((p4.toUInt32 >>> ((1 : Int32) &&& 31).toUInt32).toInt32) &&& (3 : Int32))), .val (.int t), .unset, .unset, .unset, .unset, .unset] []))
        refine Gl.of (fun _ k => XS.iconst X2.here hx rfl (hb hby at_68) k) ?_
        show Gl p e below _ (T2.setTop (mkF m 69 #[.val (.int p1), .val (.int p2), .val (.int p3), .val (.int p4), .val (.int r), .val (.int (((p4.toUInt32 >>> ((1 : Int32) &&& 31).toUInt32).toInt32) &&& (3 : Int32))), .val (.int t), .unset, .unset, .unset, .unset, .unset] [(.int (1 : Int32))]))
        refine Gl.of (fun _ k => XS.goto X2.here hx rfl (pc0 := 69) (pc' := 73) rfl (hb hby at_69) (by decide) (by decide) k) ?_
        show Gl p e below _ (T2.setTop (mkF m 73 #[.val (.int p1), .val (.int p2), .val (.int p3), .val (.int p4), .val (.int r), .val (.int (((p4.toUInt32 >>> ((1 : Int32) &&& 31).toUInt32).toInt32) &&& (3 : Int32))), .val (.int t), .unset, .unset, .unset, .unset, .unset] [(.int (1 : Int32))]))
        refine Gl.of (fun _ k => XS.istore X2.here hx rfl (hb hby at_73) rfl (l' := #[.val (.int p1), .val (.int p2), .val (.int p3), .val (.int p4), .val (.int r), .val (.int (((p4.toUInt32 >>> ((1 : Int32) &&& 31).toUInt32).toInt32) &&& (3 : Int32))), .val (.int t), .val (.int (1 : Int32)), .unset, .unset, .unset, .unset]) rfl k) ?_
        show Gl p e below _ (T2.setTop (mkF m 75 #[.val (.int p1), .val (.int p2), .val (.int p3), .val (.int p4), .val (.int r), .val (.int (((p4.toUInt32 >>> ((1 : Int32) &&& 31).toUInt32).toInt32) &&& (3 : Int32))), .val (.int t), .val (.int (1 : Int32)), .unset, .unset, .unset, .unset] []))
        exact J75 _ X2 e2 _ (by simp [own_d, hc65_39])
      · refine Gl.of (fun _ k => XS.icmpYes X2.here hx rfl (pc0 := 65) (pc' := 72) rfl (hb hby at_65) rfl (feq hc65_39).2 (by decide) (by decide) k) ?_
        show Gl p e below _ (T2.setTop (mkF m 72 #[.val (.int p1), .val (.int p2), .val (.int p3), .val (.int p4), .val (.int r), .val (.int (((p4.toUInt32 >>> ((1 : Int32) &&& 31).toUInt32).toInt32) &&& (3 : Int32))), .val (.int t), .unset, .unset, .unset, .unset, .unset] []))
        refine Gl.of (fun _ k => XS.iconst X2.here hx rfl (hb hby at_72) k) ?_
        show Gl p e below _ (T2.setTop (mkF m 73 #[.val (.int p1), .val (.int p2), .val (.int p3), .val (.int p4), .val (.int r), .val (.int (((p4.toUInt32 >>> ((1 : Int32) &&& 31).toUInt32).toInt32) &&& (3 : Int32))), .val (.int t), .unset, .unset, .unset, .unset, .unset] [(.int (0 : Int32))]))
        refine Gl.of (fun _ k => XS.istore X2.here hx rfl (hb hby at_73) rfl (l' := #[.val (.int p1), .val (.int p2), .val (.int p3), .val (.int p4), .val (.int r), .val (.int (((p4.toUInt32 >>> ((1 : Int32) &&& 31).toUInt32).toInt32) &&& (3 : Int32))), .val (.int t), .val (.int (0 : Int32)), .unset, .unset, .unset, .unset]) rfl k) ?_
        show Gl p e below _ (T2.setTop (mkF m 75 #[.val (.int p1), .val (.int p2), .val (.int p3), .val (.int p4), .val (.int r), .val (.int (((p4.toUInt32 >>> ((1 : Int32) &&& 31).toUInt32).toInt32) &&& (3 : Int32))), .val (.int t), .val (.int (0 : Int32)), .unset, .unset, .unset, .unset] []))
        exact J75 _ X2 e2 _ (by simp [own_d, hc65_39])
    show Gl p e below _ (T1.setTop (mkF m 13 #[.val (.int p1), .val (.int p2), .val (.int p3), .val (.int p4), .val (.int r), .unset, .unset, .unset, .unset, .unset, .unset, .unset] []))
    refine Gl.of (fun _ k => XS.iloadN X1.here hx rfl (hb hby at_13) rfl k) ?_
    show Gl p e below _ (T1.setTop (mkF m 14 #[.val (.int p1), .val (.int p2), .val (.int p3), .val (.int p4), .val (.int r), .unset, .unset, .unset, .unset, .unset, .unset, .unset] [(.int p4)]))
    refine Gl.of (fun _ k => XS.iconst X1.here hx rfl (hb hby at_14) k) ?_
    show Gl p e below _ (T1.setTop (mkF m 15 #[.val (.int p1), .val (.int p2), .val (.int p3), .val (.int p4), .val (.int r), .unset, .unset, .unset, .unset, .unset, .unset, .unset] [(.int (1 : Int32)), (.int p4)]))
    refine Gl.of (fun _ k => XS.iushr X1.here hx rfl (hb hby at_15) rfl k) ?_
    show Gl p e below _ (T1.setTop (mkF m 16 #[.val (.int p1), .val (.int p2), .val (.int p3), .val (.int p4), .val (.int r), .unset, .unset, .unset, .unset, .unset, .unset, .unset] [(.int ((p4.toUInt32 >>> ((1 : Int32) &&& 31).toUInt32).toInt32))]))
    refine Gl.of (fun _ k => XS.iconst X1.here hx rfl (hb hby at_16) k) ?_
    show Gl p e below _ (T1.setTop (mkF m 17 #[.val (.int p1), .val (.int p2), .val (.int p3), .val (.int p4), .val (.int r), .unset, .unset, .unset, .unset, .unset, .unset, .unset] [(.int (3 : Int32)), (.int ((p4.toUInt32 >>> ((1 : Int32) &&& 31).toUInt32).toInt32))]))
    refine Gl.of (fun _ k => XS.iand X1.here hx rfl (hb hby at_17) rfl k) ?_
    show Gl p e below _ (T1.setTop (mkF m 18 #[.val (.int p1), .val (.int p2), .val (.int p3), .val (.int p4), .val (.int r), .unset, .unset, .unset, .unset, .unset, .unset, .unset] [(.int (((p4.toUInt32 >>> ((1 : Int32) &&& 31).toUInt32).toInt32) &&& (3 : Int32)))]))
    refine Gl.of (fun _ k => XS.istore X1.here hx rfl (hb hby at_18) rfl (l' := #[.val (.int p1), .val (.int p2), .val (.int p3), .val (.int p4), .val (.int r), .val (.int (((p4.toUInt32 >>> ((1 : Int32) &&& 31).toUInt32).toInt32) &&& (3 : Int32))), .unset, .unset, .unset, .unset, .unset, .unset]) rfl k) ?_
    show Gl p e below _ (T1.setTop (mkF m 20 #[.val (.int p1), .val (.int p2), .val (.int p3), .val (.int p4), .val (.int r), .val (.int (((p4.toUInt32 >>> ((1 : Int32) &&& 31).toUInt32).toInt32) &&& (3 : Int32))), .unset, .unset, .unset, .unset, .unset, .unset] []))
    refine Gl.of (fun _ k => XS.iload X1.here hx rfl (hb hby at_20) rfl k) ?_
    show Gl p e below _ (T1.setTop (mkF m 22 #[.val (.int p1), .val (.int p2), .val (.int p3), .val (.int p4), .val (.int r), .val (.int (((p4.toUInt32 >>> ((1 : Int32) &&& 31).toUInt32).toInt32) &&& (3 : Int32))), .unset, .unset, .unset, .unset, .unset, .unset] [(.int (((p4.toUInt32 >>> ((1 : Int32) &&& 31).toUInt32).toInt32) &&& (3 : Int32)))]))
    by_cases hc22_40 : (((p4.toUInt32 >>> ((1 : Int32) &&& 31).toUInt32).toInt32) &&& (3 : Int32)) = (0 : Int32)
    · refine Gl.of (fun _ k => XS.ifNo X1.here hx rfl (hb hby at_22) rfl ((if0 _ _).trans (teq hc22_40).2) k) ?_
      show Gl p e below _ (T1.setTop (mkF m 25 #[.val (.int p1), .val (.int p2), .val (.int p3), .val (.int p4), .val (.int r), .val (.int (((p4.toUInt32 >>> ((1 : Int32) &&& 31).toUInt32).toInt32) &&& (3 : Int32))), .unset, .unset, .unset, .unset, .unset, .unset] []))
      refine Gl.of (fun _ k => XS.iloadN X1.here hx rfl (hb hby at_25) rfl k) ?_
      show Gl p e below _ (T1.setTop (mkF m 26 #[.val (.int p1), .val (.int p2), .val (.int p3), .val (.int p4), .val (.int r), .val (.int (((p4.toUInt32 >>> ((1 : Int32) &&& 31).toUInt32).toInt32) &&& (3 : Int32))), .unset, .unset, .unset, .unset, .unset, .unset] [(.int p1)]))
      refine Gl.of (fun _ k => XS.istore X1.here hx rfl (hb hby at_26) rfl (l' := #[.val (.int p1), .val (.int p2), .val (.int p3), .val (.int p4), .val (.int r), .val (.int (((p4.toUInt32 >>> ((1 : Int32) &&& 31).toUInt32).toInt32) &&& (3 : Int32))), .val (.int p1), .unset, .unset, .unset, .unset, .unset]) rfl k) ?_
      show Gl p e below _ (T1.setTop (mkF m 28 #[.val (.int p1), .val (.int p2), .val (.int p3), .val (.int p4), .val (.int r), .val (.int (((p4.toUInt32 >>> ((1 : Int32) &&& 31).toUInt32).toInt32) &&& (3 : Int32))), .val (.int p1), .unset, .unset, .unset, .unset, .unset] []))
      refine Gl.of (fun _ k => XS.goto X1.here hx rfl (pc0 := 28) (pc' := 61) rfl (hb hby at_28) (by decide) (by decide) k) ?_
      show Gl p e below _ (T1.setTop (mkF m 61 #[.val (.int p1), .val (.int p2), .val (.int p3), .val (.int p4), .val (.int r), .val (.int (((p4.toUInt32 >>> ((1 : Int32) &&& 31).toUInt32).toInt32) &&& (3 : Int32))), .val (.int p1), .unset, .unset, .unset, .unset, .unset] []))
      exact J61 _ X1 e1 _
    · refine Gl.of (fun _ k => XS.ifYes X1.here hx rfl (pc0 := 22) (pc' := 31) rfl (hb hby at_22) rfl ((if0 _ _).trans (feq hc22_40).2) (by decide) (by decide) k) ?_
      show Gl p e below _ (T1.setTop (mkF m 31 #[.val (.int p1), .val (.int p2), .val (.int p3), .val (.int p4), .val (.int r), .val (.int (((p4.toUInt32 >>> ((1 : Int32) &&& 31).toUInt32).toInt32) &&& (3 : Int32))), .unset, .unset, .unset, .unset, .unset, .unset] []))
      refine Gl.of (fun _ k => XS.iload X1.here hx rfl (hb hby at_31) rfl k) ?_
      show Gl p e below _ (T1.setTop (mkF m 33 #[.val (.int p1), .val (.int p2), .val (.int p3), .val (.int p4), .val (.int r), .val (.int (((p4.toUInt32 >>> ((1 : Int32) &&& 31).toUInt32).toInt32) &&& (3 : Int32))), .unset, .unset, .unset, .unset, .unset, .unset] [(.int (((p4.toUInt32 >>> ((1 : Int32) &&& 31).toUInt32).toInt32) &&& (3 : Int32)))]))
      refine Gl.of (fun _ k => XS.iconst X1.here hx rfl (hb hby at_33) k) ?_
      show Gl p e below _ (T1.setTop (mkF m 34 #[.val (.int p1), .val (.int p2), .val (.int p3), .val (.int p4), .val (.int r), .val (.int (((p4.toUInt32 >>> ((1 : Int32) &&& 31).toUInt32).toInt32) &&& (3 : Int32))), .unset, .unset, .unset, .unset, .unset, .unset] [(.int (1 : Int32)), (.int (((p4.toUInt32 >>> ((1 : Int32) &&& 31).toUInt32).toInt32) &&& (3 : Int32)))]))
      by_cases hc34_41 : (((p4.toUInt32 >>> ((1 : Int32) &&& 31).toUInt32).toInt32) &&& (3 : Int32)) = (1 : Int32)
      · refine Gl.of (fun _ k => XS.icmpNo X1.here hx rfl (hb hby at_34) rfl (teq hc34_41).2 k) ?_
        show Gl p e below _ (T1.setTop (mkF m 37 #[.val (.int p1), .val (.int p2), .val (.int p3), .val (.int p4), .val (.int r), .val (.int (((p4.toUInt32 >>> ((1 : Int32) &&& 31).toUInt32).toInt32) &&& (3 : Int32))), .unset, .unset, .unset, .unset, .unset, .unset] []))
        refine Gl.of (fun _ k => XS.bipush X1.here hx rfl (hb hby at_37) k) ?_
        show Gl p e below _ (T1.setTop (mkF m 39 #[.val (.int p1), .val (.int p2), .val (.int p3), .val (.int p4), .val (.int r), .val (.int (((p4.toUInt32 >>> ((1 : Int32) &&& 31).toUInt32).toInt32) &&& (3 : Int32))), .unset, .unset, .unset, .unset, .unset, .unset] [(.int (8 : Int32))]))
        refine Gl.of (fun _ k => XS.istore X1.here hx rfl (hb hby at_39) rfl (l' := #[.val (.int p1), .val (.int p2), .val (.int p3), .val (.int p4), .val (.int r), .val (.int (((p4.toUInt32 >>> ((1 : Int32) &&& 31).toUInt32).toInt32) &&& (3 : Int32))), .val (.int (8 : Int32)), .unset, .unset, .unset, .unset, .unset]) rfl k) ?_
        show Gl p e below _ (T1.setTop (mkF m 41 #[.val (.int p1), .val (.int p2), .val (.int p3), .val (.int p4), .val (.int r), .val (.int (((p4.toUInt32 >>> ((1 : Int32) &&& 31).toUInt32).toInt32) &&& (3 : Int32))), .val (.int (8 : Int32)), .unset, .unset, .unset, .unset, .unset] []))
        refine Gl.of (fun _ k => XS.goto X1.here hx rfl (pc0 := 41) (pc' := 61) rfl (hb hby at_41) (by decide) (by decide) k) ?_
        show Gl p e below _ (T1.setTop (mkF m 61 #[.val (.int p1), .val (.int p2), .val (.int p3), .val (.int p4), .val (.int r), .val (.int (((p4.toUInt32 >>> ((1 : Int32) &&& 31).toUInt32).toInt32) &&& (3 : Int32))), .val (.int (8 : Int32)), .unset, .unset, .unset, .unset, .unset] []))
        exact J61 _ X1 e1 _
      · refine Gl.of (fun _ k => XS.icmpYes X1.here hx rfl (pc0 := 34) (pc' := 44) rfl (hb hby at_34) rfl (feq hc34_41).2 (by decide) (by decide) k) ?_
        show Gl p e below _ (T1.setTop (mkF m 44 #[.val (.int p1), .val (.int p2), .val (.int p3), .val (.int p4), .val (.int r), .val (.int (((p4.toUInt32 >>> ((1 : Int32) &&& 31).toUInt32).toInt32) &&& (3 : Int32))), .unset, .unset, .unset, .unset, .unset, .unset] []))
        refine Gl.of (fun _ k => XS.iload X1.here hx rfl (hb hby at_44) rfl k) ?_
        show Gl p e below _ (T1.setTop (mkF m 46 #[.val (.int p1), .val (.int p2), .val (.int p3), .val (.int p4), .val (.int r), .val (.int (((p4.toUInt32 >>> ((1 : Int32) &&& 31).toUInt32).toInt32) &&& (3 : Int32))), .unset, .unset, .unset, .unset, .unset, .unset] [(.int (((p4.toUInt32 >>> ((1 : Int32) &&& 31).toUInt32).toInt32) &&& (3 : Int32)))]))
        refine Gl.of (fun _ k => XS.iconst X1.here hx rfl (hb hby at_46) k) ?_
        show Gl p e below _ (T1.setTop (mkF m 47 #[.val (.int p1), .val (.int p2), .val (.int p3), .val (.int p4), .val (.int r), .val (.int (((p4.toUInt32 >>> ((1 : Int32) &&& 31).toUInt32).toInt32) &&& (3 : Int32))), .unset, .unset, .unset, .unset, .unset, .unset] [(.int (2 : Int32)), (.int (((p4.toUInt32 >>> ((1 : Int32) &&& 31).toUInt32).toInt32) &&& (3 : Int32)))]))
        by_cases hc47_42 : (((p4.toUInt32 >>> ((1 : Int32) &&& 31).toUInt32).toInt32) &&& (3 : Int32)) = (2 : Int32)
        · refine Gl.of (fun _ k => XS.icmpNo X1.here hx rfl (hb hby at_47) rfl (teq hc47_42).2 k) ?_
          show Gl p e below _ (T1.setTop (mkF m 50 #[.val (.int p1), .val (.int p2), .val (.int p3), .val (.int p4), .val (.int r), .val (.int (((p4.toUInt32 >>> ((1 : Int32) &&& 31).toUInt32).toInt32) &&& (3 : Int32))), .unset, .unset, .unset, .unset, .unset, .unset] []))
          refine Gl.of (fun _ k => XS.bipush X1.here hx rfl (hb hby at_50) k) ?_
          show Gl p e below _ (T1.setTop (mkF m 52 #[.val (.int p1), .val (.int p2), .val (.int p3), .val (.int p4), .val (.int r), .val (.int (((p4.toUInt32 >>> ((1 : Int32) &&& 31).toUInt32).toInt32) &&& (3 : Int32))), .unset, .unset, .unset, .unset, .unset, .unset] [(.int (7 : Int32))]))
          refine Gl.of (fun _ k => XS.istore X1.here hx rfl (hb hby at_52) rfl (l' := #[.val (.int p1), .val (.int p2), .val (.int p3), .val (.int p4), .val (.int r), .val (.int (((p4.toUInt32 >>> ((1 : Int32) &&& 31).toUInt32).toInt32) &&& (3 : Int32))), .val (.int (7 : Int32)), .unset, .unset, .unset, .unset, .unset]) rfl k) ?_
          show Gl p e below _ (T1.setTop (mkF m 54 #[.val (.int p1), .val (.int p2), .val (.int p3), .val (.int p4), .val (.int r), .val (.int (((p4.toUInt32 >>> ((1 : Int32) &&& 31).toUInt32).toInt32) &&& (3 : Int32))), .val (.int (7 : Int32)), .unset, .unset, .unset, .unset, .unset] []))
          refine Gl.of (fun _ k => XS.goto X1.here hx rfl (pc0 := 54) (pc' := 61) rfl (hb hby at_54) (by decide) (by decide) k) ?_
          show Gl p e below _ (T1.setTop (mkF m 61 #[.val (.int p1), .val (.int p2), .val (.int p3), .val (.int p4), .val (.int r), .val (.int (((p4.toUInt32 >>> ((1 : Int32) &&& 31).toUInt32).toInt32) &&& (3 : Int32))), .val (.int (7 : Int32)), .unset, .unset, .unset, .unset, .unset] []))
          exact J61 _ X1 e1 _
        · refine Gl.of (fun _ k => XS.icmpYes X1.here hx rfl (pc0 := 47) (pc' := 57) rfl (hb hby at_47) rfl (feq hc47_42).2 (by decide) (by decide) k) ?_
          show Gl p e below _ (T1.setTop (mkF m 57 #[.val (.int p1), .val (.int p2), .val (.int p3), .val (.int p4), .val (.int r), .val (.int (((p4.toUInt32 >>> ((1 : Int32) &&& 31).toUInt32).toInt32) &&& (3 : Int32))), .unset, .unset, .unset, .unset, .unset, .unset] []))
          refine Gl.of (fun _ k => XS.bipush X1.here hx rfl (hb hby at_57) k) ?_
          show Gl p e below _ (T1.setTop (mkF m 59 #[.val (.int p1), .val (.int p2), .val (.int p3), .val (.int p4), .val (.int r), .val (.int (((p4.toUInt32 >>> ((1 : Int32) &&& 31).toUInt32).toInt32) &&& (3 : Int32))), .unset, .unset, .unset, .unset, .unset, .unset] [(.int (6 : Int32))]))
          refine Gl.of (fun _ k => XS.istore X1.here hx rfl (hb hby at_59) rfl (l' := #[.val (.int p1), .val (.int p2), .val (.int p3), .val (.int p4), .val (.int r), .val (.int (((p4.toUInt32 >>> ((1 : Int32) &&& 31).toUInt32).toInt32) &&& (3 : Int32))), .val (.int (6 : Int32)), .unset, .unset, .unset, .unset, .unset]) rfl k) ?_
          show Gl p e below _ (T1.setTop (mkF m 61 #[.val (.int p1), .val (.int p2), .val (.int p3), .val (.int p4), .val (.int r), .val (.int (((p4.toUInt32 >>> ((1 : Int32) &&& 31).toUInt32).toInt32) &&& (3 : Int32))), .val (.int (6 : Int32)), .unset, .unset, .unset, .unset, .unset] []))
          exact J61 _ X1 e1 _
  show Gl p e below _ (s₁.setTop (mkF m 0 #[.val (.int p1), .val (.int p2), .val (.int p3), .val (.int p4), .unset, .unset, .unset, .unset, .unset, .unset, .unset, .unset] []))
  refine Gl.of (fun _ k => XS.iloadN X0.here hx rfl (hb hby at_0) rfl k) ?_
  show Gl p e below _ (s₁.setTop (mkF m 1 #[.val (.int p1), .val (.int p2), .val (.int p3), .val (.int p4), .unset, .unset, .unset, .unset, .unset, .unset, .unset, .unset] [(.int p4)]))
  refine Gl.of (fun _ k => XS.iconst X0.here hx rfl (hb hby at_1) k) ?_
  show Gl p e below _ (s₁.setTop (mkF m 2 #[.val (.int p1), .val (.int p2), .val (.int p3), .val (.int p4), .unset, .unset, .unset, .unset, .unset, .unset, .unset, .unset] [(.int (1 : Int32)), (.int p4)]))
  refine Gl.of (fun _ k => XS.iand X0.here hx rfl (hb hby at_2) rfl k) ?_
  show Gl p e below _ (s₁.setTop (mkF m 3 #[.val (.int p1), .val (.int p2), .val (.int p3), .val (.int p4), .unset, .unset, .unset, .unset, .unset, .unset, .unset, .unset] [(.int (p4 &&& (1 : Int32)))]))
  by_cases hc3_43 : (p4 &&& (1 : Int32)) = (0 : Int32)
  · refine Gl.of (fun _ k => XS.ifYes X0.here hx rfl (pc0 := 3) (pc' := 10) rfl (hb hby at_3) rfl ((if0 _ _).trans (teq hc3_43).1) (by decide) (by decide) k) ?_
    show Gl p e below _ (s₁.setTop (mkF m 10 #[.val (.int p1), .val (.int p2), .val (.int p3), .val (.int p4), .unset, .unset, .unset, .unset, .unset, .unset, .unset, .unset] []))
    refine Gl.of (fun _ k => XS.iconst X0.here hx rfl (hb hby at_10) k) ?_
    show Gl p e below _ (s₁.setTop (mkF m 11 #[.val (.int p1), .val (.int p2), .val (.int p3), .val (.int p4), .unset, .unset, .unset, .unset, .unset, .unset, .unset, .unset] [(.int (0 : Int32))]))
    refine Gl.of (fun _ k => XS.istore X0.here hx rfl (hb hby at_11) rfl (l' := #[.val (.int p1), .val (.int p2), .val (.int p3), .val (.int p4), .val (.int (0 : Int32)), .unset, .unset, .unset, .unset, .unset, .unset, .unset]) rfl k) ?_
    show Gl p e below _ (s₁.setTop (mkF m 13 #[.val (.int p1), .val (.int p2), .val (.int p3), .val (.int p4), .val (.int (0 : Int32)), .unset, .unset, .unset, .unset, .unset, .unset, .unset] []))
    exact J13 _ X0 e0 _ (by simp)
  · refine Gl.of (fun _ k => XS.ifNo X0.here hx rfl (hb hby at_3) rfl ((if0 _ _).trans (feq hc3_43).1) k) ?_
    show Gl p e below _ (s₁.setTop (mkF m 6 #[.val (.int p1), .val (.int p2), .val (.int p3), .val (.int p4), .unset, .unset, .unset, .unset, .unset, .unset, .unset, .unset] []))
    refine Gl.of (fun _ k => XS.iconst X0.here hx rfl (hb hby at_6) k) ?_
    show Gl p e below _ (s₁.setTop (mkF m 7 #[.val (.int p1), .val (.int p2), .val (.int p3), .val (.int p4), .unset, .unset, .unset, .unset, .unset, .unset, .unset, .unset] [(.int (1 : Int32))]))
    refine Gl.of (fun _ k => XS.goto X0.here hx rfl (pc0 := 7) (pc' := 11) rfl (hb hby at_7) (by decide) (by decide) k) ?_
    show Gl p e below _ (s₁.setTop (mkF m 11 #[.val (.int p1), .val (.int p2), .val (.int p3), .val (.int p4), .unset, .unset, .unset, .unset, .unset, .unset, .unset, .unset] [(.int (1 : Int32))]))
    refine Gl.of (fun _ k => XS.istore X0.here hx rfl (hb hby at_11) rfl (l' := #[.val (.int p1), .val (.int p2), .val (.int p3), .val (.int p4), .val (.int (1 : Int32)), .unset, .unset, .unset, .unset, .unset, .unset, .unset]) rfl k) ?_
    show Gl p e below _ (s₁.setTop (mkF m 13 #[.val (.int p1), .val (.int p2), .val (.int p3), .val (.int p4), .val (.int (1 : Int32)), .unset, .unset, .unset, .unset, .unset, .unset, .unset] []))
    exact J13 _ X0 e0 _ (by simp)
theorem w16 {Z : State} {a0 : Array Value} (hw : ∀ d ∈ tables_1, d.before a0 Z = true) : (Jvm.Cond.laysStatic "keystrata/CharacterSet" "ANY" "Lkeystrata/CharacterSet;").before a0 Z = true := hw _ (List.mem_of_getElem? (i := 16) rfl)
theorem w15 {Z : State} {a0 : Array Value} (hw : ∀ d ∈ tables_1, d.before a0 Z = true) : (Jvm.Cond.initialized "keystrata/CharacterSet").before a0 Z = true := hw _ (List.mem_of_getElem? (i := 15) rfl)
set_option maxRecDepth 65536 in
set_option maxHeartbeats 40000000 in
theorem comes_1 {Post : Tables → Env → Array Value → State → Outcome → State → Prop} (hpost : ∀ tb e args s v u, (limb_1_1.after args s (.returned v) u = true ∧ limb_1_2.after args s (.returned v) u = true ∧ True) → ReturnedEndW s (.returned v) u (Jvm.fieldLocs frame_1_writes args s ++ Jvm.arrayLocs frame_1_arrays args s ++ Jvm.staticLocs frame_1_statics s) 16 1152 → Post tb e args s (.returned v) u) :
    ArmFor flags0 classFile x code maxLocals ret World_1 tables_1 room_1 Calls_1 rest_1 Pre_1 Post := by
  intro l hfl _ _ p e ha hc hk s m args below hf hA hF happ hP
  obtain ⟨hcalls, hrest, hpre⟩ := hP
  obtain ⟨-, -, -, hnamed, -, -, -, hat⟩ := (Spec.applies_iff hf).mp happ
  obtain ⟨hg, hn⟩ := and_e (Cond.before_iff.mp (show (Jvm.Cond.and given_1 narrow_1).before args s = true from hpre))
  obtain ⟨g_c, q_g_c⟩ := and_e hg
  obtain ⟨g_0, q_g_0⟩ := and_e q_g_c
  obtain ⟨g_1, q_g_1⟩ := and_e q_g_0
  obtain ⟨g_2, q_g_2⟩ := and_e q_g_1
  have g_3 := q_g_2
  obtain ⟨w_0, w_1, w_2, w_3, rfl⟩ : ∃ w_0 w_1 w_2 w_3 : Value, args = #[w_0, w_1, w_2, w_3] := by
    have hs : args.size = 4 := by simpa [Cond.value, given_1] using g_c
    obtain ⟨L⟩ := args
    match L, hs with
    | [w_0, w_1, w_2, w_3], _ => exact ⟨w_0, w_1, w_2, w_3, rfl⟩
  have hw := fun d (hd : d ∈ tables_1) => atoms_spec (ws := Jvm.Cond.code x code maxLocals ret :: tables_1) hat d (List.mem_cons_of_mem _ hd)
  have hfit : Fit s := fun {y c} hc i hi => by
    obtain ⟨ha, rfl⟩ := Array.getElem?_eq_some_iff.mp hc
    have q := List.all_eq_true.mp ((Array.all_eq_true_iff_forall_mem.mp hF) _ (Array.getElem_mem ha)) i (List.mem_range.mpr hi)
    simpa [Array.getElem?_eq_getElem hi] using q
  obtain ⟨p1, ei0⟩ := is_v g_0
  obtain rfl : w_0 = (.int p1) := Option.some.inj ei0
  obtain ⟨p2, ei1⟩ := is_v g_1
  obtain rfl : w_1 = (.int p2) := Option.some.inj ei1
  obtain ⟨p3, ei2⟩ := is_v g_2
  obtain rfl : w_2 = (.int p3) := Option.some.inj ei2
  obtain ⟨p4, ei3⟩ := is_v g_3
  obtain rfl : w_3 = (.int p4) := Option.some.inj ei3
  obtain ⟨r6, er, fr⟩ := static_fit hfit (w16 hw) (ty := (.object "keystrata/CharacterSet")) (by decide)
  have S0 := Sta.start er (Or.inr ⟨(w15 hw), (w16 hw)⟩)
  obtain ⟨n, o, h1, h2, h3, _, L, rfl, hQ, hq⟩ := rm0 l s _ hw tables_1 s.heap p1 p2 p3 p4 r6 s.heap.size (fit_R fr rfl) S0 (Old.start s) p e ha hc hk s m _ below hf ((Spec.applies_iff_loose hf).mp happ).1 ⟨rfl, State.Warmed39.refl s, rfl⟩ trivial
  obtain ⟨rfl, N⟩ := hQ
  exact ⟨n, _, h1, h2, h3, hpost _ _ _ _ _ _ ⟨Cond.after_iff.mpr rfl, Cond.after_iff.mpr (eq_i res_at (Term.int_eval (1)) rfl), trivial⟩ ⟨hq.1, hq.2.1, hq.2.2.1, (hq.2.2.2.sift fun y hy => Or.inr (N y hy)).mono (by decide) (by decide)⟩⟩
theorem main_1_1 : Claimed_1_1 := comes_1 fun _ _ _ _ _ _ h hF => ⟨h.1, hF⟩
theorem main_1_2 : Claimed_1_2 := comes_1 fun _ _ _ _ _ _ h hF => ⟨h.2.1, hF⟩
end Jvm.Pilot.@@N@@
namespace Jvm.Pilot.@@N@@
open Jvm Jvm.ClassFile Sem Op Lib Jvm.Free Jvm.Stand Jvm.Pilot.@@N@@.Jvm.D
/-! MADE BY PROGRAM (witnessworld.py) out of the Statement's table words and the real class files: 16 classes; the members and pool entries that the words name. The judged class is class 1, her method 1. -/
namespace start1
open Jvm.ClassFile
def u (s : String) : CpInfo := .utf8 (stringToUtf16 s)
/-- a pool by its gaps: so many unusable entries, then the entry; so many at the end -/
def gap : Nat → List CpInfo → List CpInfo
  | 0, r => r
  | n + 1, r => .unusable :: gap n r
def poolList (es : List (Nat × CpInfo)) (last : Nat) : List CpInfo := es.foldr (fun e r => gap e.1 (e.2 :: r)) (gap last [])
def pool (es : List (Nat × CpInfo)) (last : Nat) : Array CpInfo := ⟨poolList es last⟩
def fileOf (pool : Array CpInfo) (this : Nat) (attrs : Array Attribute := #[]) (ms : Array MethodInfo := #[]) (fl : Nat := 33) (sup : Nat := 0) (ifs : Array Nat := #[]) (fds : Array FieldInfo := #[]) : ClassFile where
  minorVersion := 0
  majorVersion := 65
  constantPool := pool
  accessFlags := fl
  thisClass := this
  superClass := sup
  interfaces := ifs
  fields := fds
  methods := ms
  attributes := attrs
def plain (name : String) (sup : Option ClassId) : Class where
  name := name
  kind := .ordinary
  loader := none
  accessFlags := 33
  super := sup
  interfaces := #[]
  cf := none
  fields := #[]
  methods := #[]
  instanceTypes := #[]
  staticTypes := #[]
  resolved := #[]
  callSites := []
  init := .initialized
  statics := none
  mirror := none

def pool0 : Array CpInfo := pool [(5, u "<init>"), (0, u "()V"), (1, .class_ 10), (1, u "java/lang/Object")] 113

def k0c0 : Code := { maxStack := 0, maxLocals := 1, code := object_method_1_code, exceptionTable := #[], attributes := #[] }
def k0m0 : Method := { name := "<init>", desc := "()V", sig := { parameters := [], returnType := none }, accessFlags := 1, code := some k0c0 }
/-- java/lang/Object -/
def k0 : Class := { plain "java/lang/Object" none with
  accessFlags := 33
  interfaces := #[]
  cf := some (fileOf pool0 8 #[] #[{ accessFlags := 1, nameIndex := 5, descriptorIndex := 6, attributes := #[] }] 33 0 #[] #[])
  fields := #[]
  methods := #[k0m0]
  instanceTypes := #[]
  staticTypes := #[]
  resolved := Array.replicate 124 none
  statics := none }

def pool1 : Array CpInfo := pool [(2, .class_ 4), (1, u "java/lang/Object"), (0, u "<init>"), (0, u "()V"), (0, .class_ 8), (0, u "keystrata/DeclaredTypeDoubleWithDigitsPinLaw"), (0, .class_ 10), (0, u "keystrata/Dialect$DeclaredType"), (0, .string 12), (0, u "DOUBLE"), (0, .methodref 9 14), (0, .nameAndType 5 15), (0, u "(ILjava/lang/String;II)V"), (0, .methodref 9 17), (0, .nameAndType 18 19), (0, u "doubleWithDigits"), (0, u "()Z"), (0, .methodref 9 21), (0, .nameAndType 5 22), (0, u "(ILjava/lang/String;IIZLkeystrata/CharacterSet;)V"), (0, u "I"), (2, u "REAL"), (1, u "FLOAT"), (3, u "law"), (0, u "(IIII)Z")] 7

def k1m0 : Method := { name := "<init>", desc := "()V", sig := { parameters := [], returnType := none }, accessFlags := 2, code := none }
def k1c1 : Code := { maxStack := 8, maxLocals := 12, code := code, exceptionTable := #[], attributes := #[] }
def k1m1 : Method := { name := "law", desc := "(IIII)Z", sig := { parameters := [.int, .int, .int, .int], returnType := some .boolean }, accessFlags := 9, code := some k1c1 }
/-- keystrata/DeclaredTypeDoubleWithDigitsPinLaw -/
def k1 : Class := { plain "keystrata/DeclaredTypeDoubleWithDigitsPinLaw" (some 0) with
  accessFlags := 49
  interfaces := #[]
  cf := some (fileOf pool1 7 #[] #[{ accessFlags := 2, nameIndex := 5, descriptorIndex := 6, attributes := #[] }, { accessFlags := 9, nameIndex := 32, descriptorIndex := 33, attributes := #[] }] 49 2 #[] #[{ accessFlags := 26, nameIndex := 12, descriptorIndex := 23, attributes := #[] }, { accessFlags := 26, nameIndex := 26, descriptorIndex := 23, attributes := #[] }, { accessFlags := 26, nameIndex := 28, descriptorIndex := 23, attributes := #[] }])
  fields := #[{ name := "DOUBLE", type := .int, accessFlags := 26, slot := 0, constantValue := 0 }, { name := "REAL", type := .int, accessFlags := 26, slot := 1, constantValue := 0 }, { name := "FLOAT", type := .int, accessFlags := 26, slot := 2, constantValue := 0 }]
  methods := #[k1m0, k1m1]
  instanceTypes := #[]
  staticTypes := #[.int, .int, .int]
  resolved := Array.replicate 41 none
  statics := none }

def pool2 : Array CpInfo := pool [(1, .methodref 2 3), (0, .class_ 4), (0, .nameAndType 5 6), (0, u "java/lang/Object"), (0, u "<init>"), (0, u "()V"), (0, .class_ 8), (0, u "java/lang/Record")] 13

def k2c0 : Code := { maxStack := 1, maxLocals := 1, code := jdk_30_method_1_code, exceptionTable := #[], attributes := #[] }
def k2m0 : Method := { name := "<init>", desc := "()V", sig := { parameters := [], returnType := none }, accessFlags := 4, code := some k2c0 }
/-- java/lang/Record -/
def k2 : Class := { plain "java/lang/Record" (some 0) with
  accessFlags := 1057
  interfaces := #[]
  cf := some (fileOf pool2 7 #[] #[{ accessFlags := 4, nameIndex := 5, descriptorIndex := 6, attributes := #[] }] 1057 2 #[] #[])
  fields := #[]
  methods := #[k2m0]
  instanceTypes := #[]
  staticTypes := #[]
  resolved := Array.replicate 22 none
  statics := none }

def pool3 : Array CpInfo := pool [(1, .methodref 2 3), (0, .class_ 4), (0, .nameAndType 5 6), (0, u "java/lang/Record"), (0, u "<init>"), (0, u "()V"), (0, .fieldref 8 9), (0, .class_ 10), (0, .nameAndType 11 12), (0, u "keystrata/Dialect$DeclaredType"), (0, u "jdbcType"), (0, u "I"), (0, .fieldref 8 14), (0, .nameAndType 15 16), (0, u "name"), (0, u "Ljava/lang/String;"), (0, .fieldref 8 18), (0, .nameAndType 19 12), (0, u "size"), (0, .fieldref 8 21), (0, .nameAndType 22 12), (0, u "digits"), (0, .fieldref 8 24), (0, .nameAndType 25 26), (0, u "digitsReported"), (0, u "Z"), (0, .fieldref 8 28), (0, .nameAndType 29 30), (0, u "characterSet"), (0, u "Lkeystrata/CharacterSet;"), (0, .fieldref 32 33), (0, .class_ 34), (0, .nameAndType 35 30), (0, u "keystrata/CharacterSet"), (0, u "ANY"), (0, .methodref 8 37), (0, .nameAndType 5 38), (0, u "(ILjava/lang/String;IIZLkeystrata/CharacterSet;)V"), (11, u "()Z"), (63, u "TIMES"), (0, u "Ljava/util/Set;"), (17, u "doubleWithDigits"), (65, u "WHOLE_NUMBER_BITS"), (0, u "Ljava/util/Map;"), (182, u "(ILjava/lang/String;II)V"), (33, .class_ 418), (0, u "keystrata/Dialect")] 53

def k3c0 : Code := { maxStack := 7, maxLocals := 5, code := prog_16_method_1_code, exceptionTable := #[], attributes := #[] }
def k3m0 : Method := { name := "<init>", desc := "(ILjava/lang/String;II)V", sig := { parameters := [.int, (.object "java/lang/String"), .int, .int], returnType := none }, accessFlags := 0, code := some k3c0 }
def k3c1 : Code := { maxStack := 2, maxLocals := 7, code := prog_16_method_2_code, exceptionTable := #[], attributes := #[] }
def k3m1 : Method := { name := "<init>", desc := "(ILjava/lang/String;IIZLkeystrata/CharacterSet;)V", sig := { parameters := [.int, (.object "java/lang/String"), .int, .int, .boolean, (.object "keystrata/CharacterSet")], returnType := none }, accessFlags := 0, code := some k3c1 }
def k3c2 : Code := { maxStack := 2, maxLocals := 1, code := prog_16_method_25_code, exceptionTable := #[], attributes := #[] }
def k3m2 : Method := { name := "doubleWithDigits", desc := "()Z", sig := { parameters := [], returnType := some .boolean }, accessFlags := 0, code := some k3c2 }
/-- keystrata/Dialect$DeclaredType -/
def k3 : Class := { plain "keystrata/Dialect$DeclaredType" (some 2) with
  accessFlags := 48
  interfaces := #[]
  cf := some (fileOf pool3 8 #[.nestHost 417] #[{ accessFlags := 0, nameIndex := 5, descriptorIndex := 383, attributes := #[] }, { accessFlags := 0, nameIndex := 5, descriptorIndex := 38, attributes := #[] }, { accessFlags := 0, nameIndex := 133, descriptorIndex := 50, attributes := #[] }] 48 2 #[] #[{ accessFlags := 18, nameIndex := 11, descriptorIndex := 12, attributes := #[] }, { accessFlags := 18, nameIndex := 15, descriptorIndex := 16, attributes := #[] }, { accessFlags := 18, nameIndex := 19, descriptorIndex := 12, attributes := #[] }, { accessFlags := 18, nameIndex := 22, descriptorIndex := 12, attributes := #[] }, { accessFlags := 18, nameIndex := 25, descriptorIndex := 26, attributes := #[] }, { accessFlags := 18, nameIndex := 29, descriptorIndex := 30, attributes := #[] }, { accessFlags := 26, nameIndex := 199, descriptorIndex := 200, attributes := #[] }, { accessFlags := 26, nameIndex := 114, descriptorIndex := 115, attributes := #[] }])
  fields := #[{ name := "jdbcType", type := .int, accessFlags := 18, slot := 0, constantValue := 0 }, { name := "name", type := (.object "java/lang/String"), accessFlags := 18, slot := 1, constantValue := 0 }, { name := "size", type := .int, accessFlags := 18, slot := 2, constantValue := 0 }, { name := "digits", type := .int, accessFlags := 18, slot := 3, constantValue := 0 }, { name := "digitsReported", type := .boolean, accessFlags := 18, slot := 4, constantValue := 0 }, { name := "characterSet", type := (.object "keystrata/CharacterSet"), accessFlags := 18, slot := 5, constantValue := 0 }, { name := "WHOLE_NUMBER_BITS", type := (.object "java/util/Map"), accessFlags := 26, slot := 0, constantValue := 0 }, { name := "TIMES", type := (.object "java/util/Set"), accessFlags := 26, slot := 1, constantValue := 0 }]
  methods := #[k3m0, k3m1, k3m2]
  instanceTypes := #[.int, (.object "java/lang/String"), .int, .int, .boolean, (.object "keystrata/CharacterSet")]
  staticTypes := #[(.object "java/util/Map"), (.object "java/util/Set")]
  resolved := Array.replicate 472 none
  statics := none }

def pool4 : Array CpInfo := pool [(1, .class_ 2), (0, u "java/io/Serializable"), (0, .class_ 4), (0, u "java/lang/Object")] 2

/-- java/io/Serializable -/
def k4 : Class := { plain "java/io/Serializable" (some 0) with
  accessFlags := 1537
  interfaces := #[]
  cf := some (fileOf pool4 1 #[] #[] 1537 3 #[] #[])
  fields := #[]
  methods := #[]
  instanceTypes := #[]
  staticTypes := #[]
  resolved := Array.replicate 7 none
  statics := none }

def pool5 : Array CpInfo := pool [(1, .class_ 2), (0, u "java/lang/Comparable"), (0, .class_ 4), (0, u "java/lang/Object")] 7

/-- java/lang/Comparable -/
def k5 : Class := { plain "java/lang/Comparable" (some 0) with
  accessFlags := 1537
  interfaces := #[]
  cf := some (fileOf pool5 1 #[] #[] 1537 3 #[] #[])
  fields := #[]
  methods := #[]
  instanceTypes := #[]
  staticTypes := #[]
  resolved := Array.replicate 12 none
  statics := none }

def pool6 : Array CpInfo := pool [(2, .class_ 4), (1, u "java/lang/CharSequence"), (42, .class_ 48), (0, u "java/lang/CharSequence$1CodePointIterator"), (10, .class_ 60), (0, u "java/lang/CharSequence$1CharIterator"), (5, .class_ 67), (0, u "java/lang/Object")] 63

/-- java/lang/CharSequence -/
def k6 : Class := { plain "java/lang/CharSequence" (some 0) with
  accessFlags := 1537
  interfaces := #[]
  cf := some (fileOf pool6 2 #[.nestMembers #[47, 59]] #[] 1537 66 #[] #[])
  fields := #[]
  methods := #[]
  instanceTypes := #[]
  staticTypes := #[]
  resolved := Array.replicate 131 none
  statics := none }

def pool7 : Array CpInfo := pool [(1, .class_ 2), (0, u "java/lang/constant/Constable"), (0, .class_ 4), (0, u "java/lang/Object")] 6

/-- java/lang/constant/Constable -/
def k7 : Class := { plain "java/lang/constant/Constable" (some 0) with
  accessFlags := 1537
  interfaces := #[]
  cf := some (fileOf pool7 1 #[] #[] 1537 3 #[] #[])
  fields := #[]
  methods := #[]
  instanceTypes := #[]
  staticTypes := #[]
  resolved := Array.replicate 11 none
  statics := none }

def pool8 : Array CpInfo := pool [(1, .class_ 2), (0, u "java/lang/constant/ConstantDesc"), (0, .class_ 4), (0, u "java/lang/Object")] 32

/-- java/lang/constant/ConstantDesc -/
def k8 : Class := { plain "java/lang/constant/ConstantDesc" (some 0) with
  accessFlags := 1537
  interfaces := #[]
  cf := some (fileOf pool8 1 #[] #[] 1537 3 #[] #[])
  fields := #[]
  methods := #[]
  instanceTypes := #[]
  staticTypes := #[]
  resolved := Array.replicate 37 none
  statics := none }

def pool9 : Array CpInfo := pool [(2, .class_ 4), (1, u "java/lang/Object"), (0, u "<init>"), (0, u "()V"), (3, .class_ 12), (1, u "java/lang/String"), (0, u "value"), (0, u "[B"), (2, u "coder"), (0, u "B"), (2, u "hash"), (0, u "I"), (2, u "hashIsZero"), (0, u "Z"), (13, u "COMPACT_STRINGS"), (534, .class_ 576), (0, u "java/lang/CharSequence"), (22, u "CASE_INSENSITIVE_ORDER"), (0, u "Ljava/util/Comparator;"), (500, u "serialPersistentFields"), (0, u "[Ljava/io/ObjectStreamField;"), (0, .class_ 1104), (0, u "java/lang/String$CaseInsensitiveComparator"), (1, .class_ 1107), (0, u "java/io/Serializable"), (0, .class_ 1109), (0, u "java/lang/Comparable"), (0, .class_ 1111), (0, u "java/lang/constant/Constable"), (0, .class_ 1113), (0, u "java/lang/constant/ConstantDesc"), (2, u "serialVersionUID"), (0, u "J"), (3, u "REPL"), (0, u "C"), (2, u "LATIN1"), (1, u "UTF16")] 323

def k9m0 : Method := { name := "<init>", desc := "()V", sig := { parameters := [], returnType := none }, accessFlags := 1, code := none }
/-- java/lang/String -/
def k9 : Class := { plain "java/lang/String" (some 0) with
  accessFlags := 49
  interfaces := #[4, 5, 6, 7, 8]
  cf := some (fileOf pool9 10 #[.nestMembers #[1103]] #[{ accessFlags := 1, nameIndex := 5, descriptorIndex := 6, attributes := #[] }] 49 2 #[1106, 1108, 575, 1110, 1112] #[{ accessFlags := 18, nameIndex := 13, descriptorIndex := 14, attributes := #[] }, { accessFlags := 18, nameIndex := 17, descriptorIndex := 18, attributes := #[] }, { accessFlags := 2, nameIndex := 21, descriptorIndex := 22, attributes := #[] }, { accessFlags := 2, nameIndex := 25, descriptorIndex := 26, attributes := #[] }, { accessFlags := 26, nameIndex := 1116, descriptorIndex := 1117, attributes := #[] }, { accessFlags := 24, nameIndex := 40, descriptorIndex := 26, attributes := #[] }, { accessFlags := 26, nameIndex := 1101, descriptorIndex := 1102, attributes := #[] }, { accessFlags := 26, nameIndex := 1121, descriptorIndex := 1122, attributes := #[] }, { accessFlags := 25, nameIndex := 599, descriptorIndex := 600, attributes := #[] }, { accessFlags := 24, nameIndex := 1125, descriptorIndex := 18, attributes := #[] }, { accessFlags := 24, nameIndex := 1127, descriptorIndex := 18, attributes := #[] }])
  fields := #[{ name := "value", type := (.array .byte), accessFlags := 18, slot := 0, constantValue := 0 }, { name := "coder", type := .byte, accessFlags := 18, slot := 1, constantValue := 0 }, { name := "hash", type := .int, accessFlags := 2, slot := 2, constantValue := 0 }, { name := "hashIsZero", type := .boolean, accessFlags := 2, slot := 3, constantValue := 0 }, { name := "serialVersionUID", type := .long, accessFlags := 26, slot := 0, constantValue := 0 }, { name := "COMPACT_STRINGS", type := .boolean, accessFlags := 24, slot := 1, constantValue := 0 }, { name := "serialPersistentFields", type := (.array (.object "java/io/ObjectStreamField")), accessFlags := 26, slot := 2, constantValue := 0 }, { name := "REPL", type := .char, accessFlags := 26, slot := 3, constantValue := 0 }, { name := "CASE_INSENSITIVE_ORDER", type := (.object "java/util/Comparator"), accessFlags := 25, slot := 4, constantValue := 0 }, { name := "LATIN1", type := .byte, accessFlags := 24, slot := 5, constantValue := 0 }, { name := "UTF16", type := .byte, accessFlags := 24, slot := 6, constantValue := 0 }]
  methods := #[k9m0]
  instanceTypes := #[(.array .byte), .byte, .int, .boolean]
  staticTypes := #[.long, .boolean, (.array (.object "java/io/ObjectStreamField")), .char, (.object "java/util/Comparator"), .byte, .byte]
  resolved := Array.replicate 1451 none
  statics := none }

def pool10 : Array CpInfo := pool [(4, .class_ 6), (1, u "java/lang/Object"), (3, .class_ 12), (1, u "keystrata/CharacterSet"), (0, u "charset"), (0, u "Ljava/lang/String;"), (2, u "extra"), (2, u "lacking"), (2, u "beyondTheBasicPlane"), (0, u "Z"), (2, u "marks"), (0, u "Ljava/util/Map;"), (46, u "units"), (55, u "Ljava/util/BitSet;"), (35, u "ANY"), (0, u "Lkeystrata/CharacterSet;"), (16, u "BASIC_PLANE"), (0, u "UNITS"), (0, u "I")] 51

/-- keystrata/CharacterSet -/
def k10 : Class := { plain "keystrata/CharacterSet" (some 0) with
  accessFlags := 48
  interfaces := #[]
  cf := some (fileOf pool10 10 #[] #[] 48 4 #[] #[{ accessFlags := 24, nameIndex := 167, descriptorIndex := 168, attributes := #[] }, { accessFlags := 24, nameIndex := 185, descriptorIndex := 168, attributes := #[] }, { accessFlags := 26, nameIndex := 186, descriptorIndex := 187, attributes := #[] }, { accessFlags := 18, nameIndex := 13, descriptorIndex := 14, attributes := #[] }, { accessFlags := 18, nameIndex := 17, descriptorIndex := 14, attributes := #[] }, { accessFlags := 18, nameIndex := 20, descriptorIndex := 14, attributes := #[] }, { accessFlags := 18, nameIndex := 23, descriptorIndex := 24, attributes := #[] }, { accessFlags := 18, nameIndex := 27, descriptorIndex := 28, attributes := #[] }, { accessFlags := 66, nameIndex := 75, descriptorIndex := 131, attributes := #[] }])
  fields := #[{ name := "ANY", type := (.object "keystrata/CharacterSet"), accessFlags := 24, slot := 0, constantValue := 0 }, { name := "BASIC_PLANE", type := (.object "keystrata/CharacterSet"), accessFlags := 24, slot := 1, constantValue := 0 }, { name := "UNITS", type := .int, accessFlags := 26, slot := 2, constantValue := 0 }, { name := "charset", type := (.object "java/lang/String"), accessFlags := 18, slot := 0, constantValue := 0 }, { name := "extra", type := (.object "java/lang/String"), accessFlags := 18, slot := 1, constantValue := 0 }, { name := "lacking", type := (.object "java/lang/String"), accessFlags := 18, slot := 2, constantValue := 0 }, { name := "beyondTheBasicPlane", type := .boolean, accessFlags := 18, slot := 3, constantValue := 0 }, { name := "marks", type := (.object "java/util/Map"), accessFlags := 18, slot := 4, constantValue := 0 }, { name := "units", type := (.object "java/util/BitSet"), accessFlags := 66, slot := 5, constantValue := 0 }]
  methods := #[]
  instanceTypes := #[(.object "java/lang/String"), (.object "java/lang/String"), (.object "java/lang/String"), .boolean, (.object "java/util/Map"), (.object "java/util/BitSet")]
  staticTypes := #[(.object "keystrata/CharacterSet"), (.object "keystrata/CharacterSet"), .int]
  resolved := Array.replicate 239 none
  statics := some 0 }

def pool11 : Array CpInfo := pool [(1, u "java/lang/Cloneable"), (0, .class_ 1), (0, u "java/lang/Object"), (0, .class_ 3)] 3

/-- java/lang/Cloneable -/
def k11 : Class := { plain "java/lang/Cloneable" (some 0) with
  accessFlags := 1537
  interfaces := #[]
  cf := some (fileOf pool11 2 #[] #[] 1537 4 #[] #[])
  fields := #[]
  methods := #[]
  instanceTypes := #[]
  staticTypes := #[]
  resolved := Array.replicate 8 none
  statics := none }

/-- the primitive byte -/
def k12 : Class := { plain "byte" none with kind := .primitive 'B', accessFlags := 0x411 }
/-- [B -/
def k13 : Class := { plain "[B" (some 0) with kind := .array 12 .byte, interfaces := #[11, 4], accessFlags := 1041 }

/-- the primitive int -/
def k14 : Class := { plain "int" none with kind := .primitive 'I', accessFlags := 0x411 }
/-- [I -/
def k15 : Class := { plain "[I" (some 0) with kind := .array 14 .int, interfaces := #[11, 4], accessFlags := 1041 }

def heap : Heap := #[{ cls := 10, slots := #[.ref 1, .null, .int 0], vm := .statics 10 },
  { cls := 10, slots := #[.null, .null, .null, .int 0, .null, .null], vm := .none }]
def classes : Array Class := #[k0, k1, k2, k3, k4, k5, k6, k7, k8, k9, k10, k11, k12, k13, k14, k15]
def interned : List (Array UInt16 × Addr) := []
def slotsUsed : Nat := 9
def theMethod : MethodId := ⟨1, 1⟩
def args0 : Array Value := #[.int 8, .int 5, .int 2, .int 3]
def aboutOver (below : List Frame) : State where
  vm := { classes := classes, interned := interned.toArray }
  heap := heap
  slotsUsed := slotsUsed
  threads := #[{ frames := .invoking theMethod args0 :: below }]
def below0 : List Frame := [.native { method := ⟨0, 0⟩, args := #[] }]
def about1 : State := aboutOver below0
def p0 : Program := .bare "" "" ""
def e0 : Env := launch0.env 0 0 0
theorem w_frames : about1.frames = Frame.invoking theMethod args0 :: below0 := rfl
set_option maxRecDepth 65536 in
theorem w_args : argsFit about1.vm theMethod args0 = true := by decide +kernel
set_option maxRecDepth 65536 in
theorem w_heap : heapFits about1 = true := by decide +kernel
set_option maxRecDepth 65536 in
theorem w_runnable : about1.curStatus? = some .runnable := by decide +kernel
set_option maxRecDepth 65536 in
theorem w_alone : about1.alone = true := by decide +kernel
set_option maxRecDepth 65536 in
theorem w_named : about1.methodNamed? x = some theMethod := by decide +kernel
set_option maxRecDepth 65536 in
theorem w_hears : about1.hears theMethod below0 = true := by decide +kernel
set_option maxRecDepth 65536 in
theorem w_ripe : about1.ripe theMethod args0 below0 = true := by decide +kernel
theorem w_running : about1.status = .running := rfl
set_option maxRecDepth 65536 in
theorem w_room : about1.hasRoom e0.platform room_1 = true :=
  launch0.hasRoom_least _ room_1 (by decide +kernel) (by decide +kernel) (by decide +kernel) (by decide +kernel) (by decide +kernel) (by decide +kernel)
theorem allAtoms_all (ts : List Jvm.Cond) (a : Array Jvm.Value) (st : Jvm.State) : (allAtoms ts).before a st = ts.all (fun c => c.before a st) := by
  induction ts with
  | nil => rfl
  | cons c t ih =>
    show (Jvm.Cond.and c (allAtoms t)).before a st = _
    rw [Jvm.Cond.before_and, ih, List.all_cons]
def words1 : List Jvm.Cond := Jvm.Cond.code x code maxLocals ret :: tables_1
/-- a 'code' word, met by the world's own term for the bytes: nothing is compared byte by byte -/
theorem code_word {y : MethodName} {bytes : ByteArray} {mx : Nat} {rt : Option FieldType} {a : Array Value} {s : State} {m : MethodId} {meth : Method} {c : Code} (h1 : s.methodNamed? y = some m) (h2 : s.vm.method? m = some meth) (h3 : meth.code = some c) (h4 : c.code = bytes)
    (h5 : (c.maxLocals == mx && c.exceptionTable.isEmpty && decide (c.maxStack ≤ mostOperands) && decide (meth.sig.returnType = rt) && !meth.locks && decide (parseMethodDescriptor y.desc = some meth.sig)) = true) : (Jvm.Cond.code y bytes mx rt).before a s = true := by
  simp only [Bool.and_eq_true, beq_iff_eq, Bool.not_eq_true', decide_eq_true_eq] at h5
  obtain ⟨⟨⟨⟨⟨g1, g2⟩, g3⟩, g4⟩, g5⟩, g6⟩ := h5
  simp [Cond.before, Cond.holds, Cond.value, h1, h2, h3, h4, g1, g2, g3, g4, g5, g6]
def isCode : Jvm.Cond → Bool
  | .code _ _ _ _ => true
  | _ => false
theorem all_split {L : List Jvm.Cond} {P : Jvm.Cond → Bool} (h1 : L.all (fun c => isCode c || P c) = true) (h2 : ∀ c ∈ L.filter isCode, P c = true) : L.all P = true := by
  refine List.all_eq_true.mpr fun c hc => ?_
  have h := List.all_eq_true.mp h1 c hc
  rcases Bool.eq_false_or_eq_true (isCode c) with hi | hi
  · exact h2 c (List.mem_filter.mpr ⟨hc, hi⟩)
  · simpa [hi] using h
set_option maxRecDepth 65536 in
theorem w_c0 : (Jvm.Cond.code x code maxLocals ret).before args0 about1 = true := code_word (m := ⟨1, 1⟩) (meth := k1m1) (c := k1c1) (by decide +kernel) rfl rfl rfl (by decide +kernel)
set_option maxRecDepth 65536 in
theorem w_c1 : (Jvm.Cond.code ({ cls := "keystrata/Dialect$DeclaredType", name := "<init>", desc := "(ILjava/lang/String;II)V" } : Jvm.MethodName) prog_16_method_1_code (5 : Nat) (Option.none : Option Jvm.ClassFile.FieldType)).before args0 about1 = true := code_word (m := ⟨3, 0⟩) (meth := k3m0) (c := k3c0) (by decide +kernel) rfl rfl rfl (by decide +kernel)
set_option maxRecDepth 65536 in
theorem w_c2 : (Jvm.Cond.code ({ cls := "keystrata/Dialect$DeclaredType", name := "<init>", desc := "(ILjava/lang/String;IIZLkeystrata/CharacterSet;)V" } : Jvm.MethodName) prog_16_method_2_code (7 : Nat) (Option.none : Option Jvm.ClassFile.FieldType)).before args0 about1 = true := code_word (m := ⟨3, 1⟩) (meth := k3m1) (c := k3c1) (by decide +kernel) rfl rfl rfl (by decide +kernel)
set_option maxRecDepth 65536 in
theorem w_c3 : (Jvm.Cond.code ({ cls := "java/lang/Record", name := "<init>", desc := "()V" } : Jvm.MethodName) jdk_30_method_1_code (1 : Nat) (Option.none : Option Jvm.ClassFile.FieldType)).before args0 about1 = true := code_word (m := ⟨2, 0⟩) (meth := k2m0) (c := k2c0) (by decide +kernel) rfl rfl rfl (by decide +kernel)
set_option maxRecDepth 65536 in
theorem w_c4 : (Jvm.Cond.code ({ cls := "java/lang/Object", name := "<init>", desc := "()V" } : Jvm.MethodName) object_method_1_code (1 : Nat) (Option.none : Option Jvm.ClassFile.FieldType)).before args0 about1 = true := code_word (m := ⟨0, 0⟩) (meth := k0m0) (c := k0c0) (by decide +kernel) rfl rfl rfl (by decide +kernel)
set_option maxRecDepth 65536 in
theorem w_c5 : (Jvm.Cond.code ({ cls := "keystrata/Dialect$DeclaredType", name := "doubleWithDigits", desc := "()Z" } : Jvm.MethodName) prog_16_method_25_code (1 : Nat) (Option.some Jvm.ClassFile.FieldType.boolean)).before args0 about1 = true := code_word (m := ⟨3, 2⟩) (meth := k3m2) (c := k3c2) (by decide +kernel) rfl rfl rfl (by decide +kernel)
def codes1 : List Jvm.Cond := [Jvm.Cond.code x code maxLocals ret, Jvm.Cond.code ({ cls := "keystrata/Dialect$DeclaredType", name := "<init>", desc := "(ILjava/lang/String;II)V" } : Jvm.MethodName) prog_16_method_1_code (5 : Nat) (Option.none : Option Jvm.ClassFile.FieldType), Jvm.Cond.code ({ cls := "keystrata/Dialect$DeclaredType", name := "<init>", desc := "(ILjava/lang/String;IIZLkeystrata/CharacterSet;)V" } : Jvm.MethodName) prog_16_method_2_code (7 : Nat) (Option.none : Option Jvm.ClassFile.FieldType), Jvm.Cond.code ({ cls := "java/lang/Record", name := "<init>", desc := "()V" } : Jvm.MethodName) jdk_30_method_1_code (1 : Nat) (Option.none : Option Jvm.ClassFile.FieldType), Jvm.Cond.code ({ cls := "java/lang/Object", name := "<init>", desc := "()V" } : Jvm.MethodName) object_method_1_code (1 : Nat) (Option.none : Option Jvm.ClassFile.FieldType), Jvm.Cond.code ({ cls := "keystrata/Dialect$DeclaredType", name := "doubleWithDigits", desc := "()Z" } : Jvm.MethodName) prog_16_method_25_code (1 : Nat) (Option.some Jvm.ClassFile.FieldType.boolean)]
set_option maxRecDepth 65536 in
theorem codes_eq : words1.filter isCode = codes1 := rfl
theorem w_codes : ∀ c ∈ words1.filter isCode, c.before args0 about1 = true := by
  rw [codes_eq]
  intro c hc
  simp only [codes1, List.mem_cons, List.not_mem_nil, or_false] at hc
  rcases hc with rfl | rfl | rfl | rfl | rfl | rfl
  · exact w_c0
  · exact w_c1
  · exact w_c2
  · exact w_c3
  · exact w_c4
  · exact w_c5
set_option maxRecDepth 65536 in
theorem w_t1 : (words1.take 24).all (fun c => isCode c || c.before args0 about1) = true := by decide +kernel
set_option maxRecDepth 65536 in
theorem w_t2 : (words1.drop 24).all (fun c => isCode c || c.before args0 about1) = true := by decide +kernel
theorem w_tables : (allAtoms (Jvm.Cond.code x code maxLocals ret :: tables_1)).before args0 about1 = true := by
  rw [allAtoms_all]
  show words1.all (fun c => c.before args0 about1) = true
  refine all_split ?_ w_codes
  rw [← List.take_append_drop 24 words1, List.all_append, w_t1, w_t2]
  rfl
set_option maxRecDepth 65536 in
theorem w_case : (Jvm.Cond.and given_1 narrow_1).before args0 about1 = true := by decide +kernel
theorem w_applies : (headSpec (Jvm.Cond.code x code maxLocals ret :: tables_1) room_1).applies x e0.platform about1 = true :=
  (Spec.applies_iff w_frames).mpr ⟨w_running, w_runnable, w_alone, w_named, w_hears, w_ripe, w_room, w_tables⟩
theorem atStart : AtStart classFile x code maxLocals ret World_1 tables_1 room_1 Calls_1 rest_1 Pre_1 launch0 p0 e0 about1 theMethod args0 below0 :=
  ⟨lists_1, trivial, launch0.admits_env _ _ _, launch0.least_env, fairChoices_fair.cas, fairChoices_fair.clock, w_frames, w_args, w_heap, w_applies, trivial, trivial, w_case⟩
end start1
theorem witness_1 : WitnessClaimed_1 := ⟨start1.p0, start1.e0, start1.about1, start1.theMethod, start1.args0, start1.below0, start1.atStart⟩
end Jvm.Pilot.@@N@@
