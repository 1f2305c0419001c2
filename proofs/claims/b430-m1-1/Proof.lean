import JvmDerived
import JvmDerived.Pilot.@@N@@Statement
import JvmDerived.Pilot.@@N@@Code
set_option linter.unusedVariables false
set_option linter.unusedSimpArgs false
namespace Jvm.Pilot.@@N@@
open Jvm Jvm.ClassFile Sem Op Lib Jvm.Free Jvm.Stand Jvm.LawKit Jvm.RoadKit Bundle Jvm.Pilot.@@N@@.Jvm.D
section Own
variable {p : Program} {l : Launch} {e : Env} {R : Room} {s : State} {m : MethodId} {args : Array Value} {below : List Frame} {meth : Method} {c : Code} {T : State} {locs : List Loc} {cells slots : Nat} {Z : State} {a0 : Array Value} {h : Heap}
/-- from S the invocation ends, and G holds of the end -/
def Gl (p : Program) (e : Env) (below : List Frame) (G : State → Outcome → Prop) (S : State) : Prop :=
  ∃ s₂ o, Steps p.tables e below S s₂ ∧ s₂.status = .running ∧ Ended s₂ below o ∧ G s₂ o
theorem Gl.of {G : State → Outcome → Prop} {S S' : State} (h : ∀ t, Steps p.tables e below S' t → Steps p.tables e below S t) (g : Gl p e below G S') : Gl p e below G S := by
  obtain ⟨s2, o, a, b⟩ := g
  exact ⟨s2, o, h _ a, b⟩
def Gd (s : State) (Q : Option Value → Heap → List Loc → Prop) (C N : Nat) (t : State) (o : Outcome) : Prop := ∃ v L, o = .returned v ∧ Q v t.heap L ∧ FrameEnd s o t L C N
def Con (l : Launch) (Z : State) (y : MethodName) (bytes : ByteArray) (maxL : Nat) (rt : Option FieldType) (ws : List Jvm.Cond) (rm : Room) (C N : Nat) (as : Array Value) (h : Heap) (Q : Option Value → Heap → List Loc → Prop) : Prop :=
  MetFree l y (head1 (Jvm.Cond.code y bytes maxL rt :: ws) rm) (fun a U => a = as ∧ Z.Warmed39 U.vm ∧ U.heap = h) (fun _ _ _ _ _ => True) (fun _ U o U' => ∃ v L, o = .returned v ∧ Q v U'.heap L ∧ FrameEnd U o U' L C N)
theorem Con.intro {y : MethodName} {bytes : ByteArray} {maxL : Nat} {rt : Option FieldType} {ws : List Jvm.Cond} {rm : Room} {C N : Nat} {as : Array Value} {Q : Option Value → Heap → List Loc → Prop} (hp : plainFor y = true)
    (body : ∀ p e s m below meth c s₁, Stand p l e rm s m as below meth c s₁ [] 0 0 → p.tables.exec = Jvm.exec → c.code = bytes → c.maxLocals = maxL → Z.Warmed39 s.vm → s.vm.findClass y.cls = some m.cls → meth.name = y.name → meth.sig.returnType = rt → meth.locks = false → s₁.heap = h → s.heap = h →
      Gl p e below (Gd s Q C N) (s₁.setTop (entryFrame m as maxL))) : Con l Z y bytes maxL rt ws rm C N as h Q := by
  refine MetFree.of_bodySF hp hisR ?_
  intro p e s m args below meth c s₁ Bd hml0 hP hK
  obtain ⟨rfl, hZ, hh⟩ := hP
  exact body p e s m below meth c s₁ (Stand.of_body Bd) Bd.exec Bd.bytes hml0 hZ (findClass_of_methodNamed Bd.named) (name_of_methodNamed Bd.named Bd.method).1 Bd.returns (BodyLoose.notSynchronized Bd) (by rw [← hh, Bd.state]; rfl) hh
theorem Gl.leaf {Q : Option Value → Heap → List Loc → Prop} {C N : Nat} (X : Stand p l e R s m args below meth c T locs cells slots) (hlk : meth.locks = false) {v : Option Value} (hv : meth.sig.returnType = none → v = none) {S : State}
    (st : ∀ fs, (∀ (f : JFrame) (acts : List Action), f.method = m → f.locked = none → f.entered = [] → (doReturn e (T.setTop f) acts v).1 = T.setFrames fs) → Steps p.tables e below S (T.setFrames fs)) (eT : T.heap = h) (hQ : Q v h locs) (hC : cells ≤ C) (hN : slots ≤ N) : Gl p e below (Gd s Q C N) S := by
  obtain ⟨fs, hr, hrun, hended, hW, hsame⟩ := X.leave (v := v) hv hlk
  exact ⟨_, _, st fs hr, hrun, hended, v, locs, rfl, by show Q v T.heap locs; rw [eT]; exact hQ, ⟨_, rfl⟩, hW, hsame.mono hC hN⟩
/-- ireturn of an int -/
theorem Gl.retI {Q : Option Value → Heap → List Loc → Prop} {C N : Nat} (X : Stand p l e R s m args below meth c T locs cells slots) (hx : p.tables.exec = Jvm.exec) (hlk : meth.locks = false) (hret : meth.sig.returnType = some .int) {pc : Nat} {Ls : Array Slot} {z : Int32} {rest : List Value} (hd : decode c.code pc = .ok (.ireturn, 1))
    (eT : T.heap = h) (hQ : Q (some (.int z)) h locs) (hC : cells ≤ C) (hN : slots ≤ N) : Gl p e below (Gd s Q C N) (T.setTop (mkF m pc Ls (.int z :: rest))) :=
  Gl.leaf X hlk (fun q => by rw [hret] at q; cases q) (fun fs hr => retOut X hx hret rfl (Or.inl ⟨rfl, Or.inl rfl, z, rfl⟩) hd hr) eT hQ hC hN
/-- ireturn of a boolean, byte, char, short -/
theorem Gl.retN {Q : Option Value → Heap → List Loc → Prop} {C N : Nat} (X : Stand p l e R s m args below meth c T locs cells slots) (hx : p.tables.exec = Jvm.exec) (hlk : meth.locks = false) {t : FieldType} (hret : meth.sig.returnType = some t) (ht : t = .boolean ∨ t = .byte ∨ t = .char ∨ t = .short) {pc : Nat} {Ls : Array Slot} {z : Int32} {rest : List Value} (hd : decode c.code pc = .ok (.ireturn, 1))
    (eT : T.heap = h) (hQ : Q (some (.int (nar t z))) h locs) (hC : cells ≤ C) (hN : slots ≤ N) : Gl p e below (Gd s Q C N) (T.setTop (mkF m pc Ls (.int z :: rest))) :=
  Gl.leaf X hlk (fun q => by rw [hret] at q; cases q) (fun fs hr => Jvm.RoadKit.retN X hx hret ht hd hr) eT hQ hC hN
/-- areturn -/
theorem Gl.retR {Q : Option Value → Heap → List Loc → Prop} {C N : Nat} (X : Stand p l e R s m args below meth c T locs cells slots) (hx : p.tables.exec = Jvm.exec) (hlk : meth.locks = false) {t : FieldType} (hret : meth.sig.returnType = some t) (ht : t.isReference = true) {pc : Nat} {Ls : Array Slot} {w : Value} (hw : w.isRef = true) {rest : List Value} (hd : decode c.code pc = .ok (.areturn, 1))
    (eT : T.heap = h) (hQ : Q (some w) h locs) (hC : cells ≤ C) (hN : slots ≤ N) : Gl p e below (Gd s Q C N) (T.setTop (mkF m pc Ls (w :: rest))) :=
  Gl.leaf X hlk (fun q => by rw [hret] at q; cases q) (fun fs hr => retOut X hx hret (by cases t <;> first | (cases ht; done) | (rcases ref_cases hw with rfl | ⟨_, rfl⟩ <;> rfl)) (Or.inr (Or.inr (Or.inr (Or.inr ⟨rfl, ht, hw⟩)))) hd hr) eT hQ hC hN
/-- dreturn -/
theorem Gl.retD {Q : Option Value → Heap → List Loc → Prop} {C N : Nat} (X : Stand p l e R s m args below meth c T locs cells slots) (hx : p.tables.exec = Jvm.exec) (hlk : meth.locks = false) (hret : meth.sig.returnType = some .double) {pc : Nat} {Ls : Array Slot} {z : UInt64} {rest : List Value} (hd : decode c.code pc = .ok (.dreturn, 1))
    (eT : T.heap = h) (hQ : Q (some (.double z)) h locs) (hC : cells ≤ C) (hN : slots ≤ N) : Gl p e below (Gd s Q C N) (T.setTop (mkF m pc Ls (.double z :: rest))) :=
  Gl.leaf X hlk (fun q => by rw [hret] at q; cases q) (fun fs hr => retOut X hx hret rfl (Or.inr (Or.inr (Or.inl ⟨rfl, rfl, z, rfl⟩))) hd hr) eT hQ hC hN
/-- return -/
theorem Gl.ret0 {Q : Option Value → Heap → List Loc → Prop} {C N : Nat} (X : Stand p l e R s m args below meth c T locs cells slots) (hx : p.tables.exec = Jvm.exec) (hlk : meth.locks = false) (hret : meth.sig.returnType = none) {pc : Nat} {Ls : Array Slot} (hd : decode c.code pc = .ok (.return_, 1))
    (eT : T.heap = h) (hQ : Q none h locs) (hC : cells ≤ C) (hN : slots ≤ N) : Gl p e below (Gd s Q C N) (T.setTop (mkF m pc Ls [])) :=
  Gl.leaf X hlk (fun _ => rfl) (fun fs hr => X.returnOut hx hret hd hr) eT hQ hC hN
/-- the end of a walk that may have interned -/
def GdW (s : State) (Q : Option Value → Heap → List Loc → Prop) (C N : Nat) (t : State) (o : Outcome) : Prop := ∃ v L, o = .returned v ∧ Q v t.heap L ∧ ReturnedEndW s o t L C N
def ConW (l : Launch) (Z : State) (y : MethodName) (bytes : ByteArray) (maxL : Nat) (rt : Option FieldType) (ws : List Jvm.Cond) (rm : Room) (C N : Nat) (as : Array Value) (h : Heap) (Q : Option Value → Heap → List Loc → Prop) : Prop :=
  MetFree l y (head1 (Jvm.Cond.code y bytes maxL rt :: ws) rm) (fun a U => a = as ∧ Z.Warmed39 U.vm ∧ U.heap = h) (fun _ _ _ _ _ => True) (fun _ U o U' => ∃ v L, o = .returned v ∧ Q v U'.heap L ∧ ReturnedEndW U o U' L C N)
theorem ConW.intro {y : MethodName} {bytes : ByteArray} {maxL : Nat} {rt : Option FieldType} {ws : List Jvm.Cond} {rm : Room} {C N : Nat} {as : Array Value} {Q : Option Value → Heap → List Loc → Prop} (hp : plainFor y = true)
    (body : ∀ p e s m below meth c s₁, Stand p l e rm s m as below meth c s₁ [] 0 0 → p.tables.exec = Jvm.exec → c.code = bytes → c.maxLocals = maxL → Z.Warmed39 s.vm → s.vm.findClass y.cls = some m.cls → meth.name = y.name → meth.sig.returnType = rt → meth.locks = false → s₁.heap = h → s.heap = h →
      Gl p e below (GdW s Q C N) (s₁.setTop (entryFrame m as maxL))) : ConW l Z y bytes maxL rt ws rm C N as h Q := by
  refine MetFree.of_bodySF hp hisR ?_
  intro p e s m args below meth c s₁ Bd hml0 hP hK
  obtain ⟨rfl, hZ, hh⟩ := hP
  exact body p e s m below meth c s₁ (Stand.of_body Bd) Bd.exec Bd.bytes hml0 hZ (findClass_of_methodNamed Bd.named) (name_of_methodNamed Bd.named Bd.method).1 Bd.returns (BodyLoose.notSynchronized Bd) (by rw [← hh, Bd.state]; rfl) hh
theorem Gl.leafW {Q : Option Value → Heap → List Loc → Prop} {C N n : Nat} {vm₁ : Vm} (X : Stand p l e R (s.setVm vm₁) m args below meth c T locs cells slots) (hlk : meth.locks = false) {v : Option Value} (hv : meth.sig.returnType = none → v = none) {S : State}
    (st : ∀ fs, (∀ (f : JFrame) (acts : List Action), f.method = m → f.locked = none → f.entered = [] → (doReturn e (T.setTop f) acts v).1 = T.setFrames fs) → Steps p.tables e below S (T.setFrames fs)) (eT : T.heap = h) (hQ : Q v h locs) (hS : s.Since vm₁ n) (hn : n ≤ h.size) (hC : cells ≤ C) (hN : slots ≤ N) : Gl p e below (GdW s Q C N) S := by
  obtain ⟨fs, hr, hrun, hended, hW⟩ := X.leaveW hS (by rw [eT]; exact hn) (v := v) hv hlk
  exact ⟨_, _, st fs hr, hrun, hended, v, locs, rfl, by show Q v T.heap locs; rw [eT]; exact hQ, hW.1, hW.2.1, hW.2.2.1, hW.2.2.2.mono hC hN⟩
theorem Gl.retNW {Q : Option Value → Heap → List Loc → Prop} {C N n : Nat} {vm₁ : Vm} (X : Stand p l e R (s.setVm vm₁) m args below meth c T locs cells slots) (hx : p.tables.exec = Jvm.exec) (hlk : meth.locks = false) {t : FieldType} (hret : meth.sig.returnType = some t) (ht : t = .boolean ∨ t = .byte ∨ t = .char ∨ t = .short) {pc : Nat} {Ls : Array Slot} {z : Int32} {rest : List Value} (hd : decode c.code pc = .ok (.ireturn, 1))
    (eT : T.heap = h) (hQ : Q (some (.int (nar t z))) h locs) (hS : s.Since vm₁ n) (hn : n ≤ h.size) (hC : cells ≤ C) (hN : slots ≤ N) : Gl p e below (GdW s Q C N) (T.setTop (mkF m pc Ls (.int z :: rest))) :=
  Gl.leafW X hlk (fun q => by rw [hret] at q; cases q) (fun fs hr => Jvm.RoadKit.retN X hx hret ht hd hr) eT hQ hS hn hC hN
theorem Gl.retRW {Q : Option Value → Heap → List Loc → Prop} {C N n : Nat} {vm₁ : Vm} (X : Stand p l e R (s.setVm vm₁) m args below meth c T locs cells slots) (hx : p.tables.exec = Jvm.exec) (hlk : meth.locks = false) {t : FieldType} (hret : meth.sig.returnType = some t) (ht : t.isReference = true) {pc : Nat} {Ls : Array Slot} {w : Value} (hw : w.isRef = true) {rest : List Value} (hd : decode c.code pc = .ok (.areturn, 1))
    (eT : T.heap = h) (hQ : Q (some w) h locs) (hS : s.Since vm₁ n) (hn : n ≤ h.size) (hC : cells ≤ C) (hN : slots ≤ N) : Gl p e below (GdW s Q C N) (T.setTop (mkF m pc Ls (w :: rest))) :=
  Gl.leafW X hlk (fun q => by rw [hret] at q; cases q) (fun fs hr => retOut X hx hret (by cases t <;> first | (cases ht; done) | (rcases ref_cases hw with rfl | ⟨_, rfl⟩ <;> rfl)) (Or.inr (Or.inr (Or.inr (Or.inr ⟨rfl, ht, hw⟩)))) hd hr) eT hQ hS hn hC hN
theorem ref_nar {r : Value} {C : String} (h : r.isRef = true) : narrow (.object C) r = r := by rcases ref_cases h with rfl | ⟨_, rfl⟩ <;> rfl
theorem ref_fit {r : Value} {C : String} (h : r.isRef = true) : fits (.object C) r = true := by rcases ref_cases h with rfl | ⟨_, rfl⟩ <;> rfl
theorem cat_ref {r : Value} (h : r.isRef = true) : r.category = 1 := by rcases ref_cases h with rfl | ⟨_, rfl⟩ <;> rfl
/-- what a callee that writes and makes nothing leaves -/
def Pur (F : Option Value → Prop) (h0 : Heap) (v : Option Value) (h : Heap) (L : List Loc) : Prop := F v ∧ h = h0 ∧ L = []
theorem desc_ne {n : String} (h : (n == "java/lang/invoke/MethodHandle" || n == "java/lang/invoke/VarHandle") = false) : n ≠ "java/lang/invoke/MethodHandle" ∧ n ≠ "java/lang/invoke/VarHandle" := by
  simp only [Bool.or_eq_false_iff, beq_eq_false_iff_ne, ne_eq] at h
  exact h
/-- a static call by its contract -/
theorem Gl.callS {G : State → Outcome → Prop} (X : Stand p l e R s m args below meth c T locs cells slots) (hx : p.tables.exec = Jvm.exec) (hZ : Z.Warmed39 s.vm) {own : String} {index : Nat} {y : MethodName} {bytes : ByteArray} {maxL : Nat} {rt : Option FieldType} (hown : s.vm.findClass own = some m.cls)
    (w1 : (Jvm.Cond.methodLink own index y).before a0 Z = true) (w2 : (Jvm.Cond.static y).before a0 Z = true) (w3 : (Jvm.Cond.initialized y.cls).before a0 Z = true) (w4 : (Jvm.Cond.code y bytes maxL rt).before a0 Z = true) (hy : y.cls ≠ "java/lang/invoke/MethodHandle" ∧ y.cls ≠ "java/lang/invoke/VarHandle")
    {rm : Room} {Q : Option Value → Heap → List Loc → Prop} {argsL rest : List Value} (hM : Con l Z y bytes maxL rt [] rm rm.cells rm.slots argsL.toArray h Q) (W : Nat) (hf : rm.frames + 1 ≤ R.frames) (hl : W + (maxL + 11) + rm.locals ≤ R.locals) (hcl : cells + rm.cells ≤ R.cells) (hsl : slots + rm.slots ≤ R.slots) (eT : T.heap = h)
    {pc : Nat} {Ls : Array Slot} {st : List Value} (hsz : Ls.size = c.maxLocals) {ps : List FieldType} {r' : Option FieldType} (hds : parseMethodDescriptor y.desc = some ⟨ps, r'⟩) (hlen : argsL.length = ps.length) (hst : st = argsL.reverse ++ rest) (hW : 2 * 0 + (rest.map fun v => v.category).sum ≤ W) (hd : decode c.code pc = .ok (.invokestatic index, 3))
    (k : ∀ (v : Option Value) (T' : State) (L : List Loc), Stand p l e R s m args below meth c T' (locs ++ L) (cells + rm.cells) (slots + rm.slots) → Q v T'.heap L → Gl p e below G (T'.setTop (mkF m (pc + 3) Ls (v.toList ++ rest)))) : Gl p e below G (T.setTop (mkF m pc Ls st)) := by
  obtain ⟨v, _, ⟨T', L', k', n'⟩, -, X', ⟨Lc, hQ, l1, y1, z1⟩, stp⟩ := Jvm.LawKit.callS X hx (y := y) hown (mvT hZ w1) (mvT hZ w2) (mvT hZ w3) (mvT hZ w4) hy (backOf (W := W) hM hZ w4 w3 hf hl) (g := mkF m pc Ls st) rfl hsz (argsL := argsL) (rest := rest) (lenOf hds hlen) hst hW hd (fun _ _ => ⟨rfl, eT, hcl, hsl⟩)
  dsimp only [Pt.U, Pt.locs, Pt.cells, Pt.slots] at X' l1 y1 z1 stp hQ
  subst l1 y1 z1
  exact Gl.of stp (k v T' Lc X' hQ)
theorem Gl.callS0 {G : State → Outcome → Prop} (X : Stand p l e R s m args below meth c T locs cells slots) (hx : p.tables.exec = Jvm.exec) (hZ : Z.Warmed39 s.vm) {own : String} {index : Nat} {y : MethodName} {bytes : ByteArray} {maxL : Nat} {rt : Option FieldType} (hown : s.vm.findClass own = some m.cls)
    (w1 : (Jvm.Cond.methodLink own index y).before a0 Z = true) (w2 : (Jvm.Cond.static y).before a0 Z = true) (w3 : (Jvm.Cond.initialized y.cls).before a0 Z = true) (w4 : (Jvm.Cond.code y bytes maxL rt).before a0 Z = true) (hy : y.cls ≠ "java/lang/invoke/MethodHandle" ∧ y.cls ≠ "java/lang/invoke/VarHandle")
    {fr lo : Nat} {F : Option Value → Prop} {argsL rest : List Value} (hM : Con l Z y bytes maxL rt [] ({ frames := fr, cells := 0, slots := 0, locals := lo } : Room) 0 0 argsL.toArray h (Pur F h)) (W : Nat) (hf : fr + 1 ≤ R.frames) (hl : W + (maxL + 11) + lo ≤ R.locals) (eT : T.heap = h)
    {pc : Nat} {Ls : Array Slot} {st : List Value} (hsz : Ls.size = c.maxLocals) {ps : List FieldType} {r' : Option FieldType} (hds : parseMethodDescriptor y.desc = some ⟨ps, r'⟩) (hlen : argsL.length = ps.length) (hst : st = argsL.reverse ++ rest) (hW : 2 * 0 + (rest.map fun v => v.category).sum ≤ W) (hd : decode c.code pc = .ok (.invokestatic index, 3)) (hcl : cells ≤ R.cells) (hsl : slots ≤ R.slots)
    (k : ∀ (v : Option Value) (T' : State), Stand p l e R s m args below meth c T' locs cells slots → T'.heap = h → F v → Gl p e below G (T'.setTop (mkF m (pc + 3) Ls (v.toList ++ rest)))) : Gl p e below G (T.setTop (mkF m pc Ls st)) := by
  refine Gl.callS X hx hZ hown w1 w2 w3 w4 hy hM W hf hl hcl hsl eT hsz hds hlen hst hW hd ?_
  intro v T' L X' hQ
  obtain ⟨q1, q2, rfl⟩ := hQ
  rw [List.append_nil] at X'
  exact k v T' X' q2 q1
/-- an instance method that the receiver's class selects, by its contract -/
theorem Gl.callV {G : State → Outcome → Prop} (X : Stand p l e R s m args below meth c T locs cells slots) (hx : p.tables.exec = Jvm.exec) (hZ : Z.Warmed39 s.vm) {own C : String} {index : Nat} {y z : MethodName} {bytes : ByteArray} {maxL : Nat} {rt : Option FieldType} (hown : s.vm.findClass own = some m.cls)
    (w1 : (Jvm.Cond.methodLink own index y).before a0 Z = true) (w2 : (Jvm.Cond.declares y).before a0 Z = true) (nf : NotFace s y) (w3 : (Jvm.Cond.selects C y z).before a0 Z = true) (w4 : (Jvm.Cond.instanceMethod z).before a0 Z = true) (w5 : (Jvm.Cond.code z bytes maxL rt).before a0 Z = true) (w6 : (Jvm.Cond.initialized z.cls).before a0 Z = true) (hy : y.cls ≠ "java/lang/invoke/MethodHandle" ∧ y.cls ≠ "java/lang/invoke/VarHandle")
    {rm : Room} {Q : Option Value → Heap → List Loc → Prop} {b : Addr} {argsL rest : List Value} (hE : Exa Z h b C) (hM : Con l Z z bytes maxL rt [] rm rm.cells rm.slots (.ref b :: argsL).toArray h Q) (W : Nat) (hf : rm.frames + 1 ≤ R.frames) (hl : W + (maxL + 11) + rm.locals ≤ R.locals) (hcl : cells + rm.cells ≤ R.cells) (hsl : slots + rm.slots ≤ R.slots) (eT : T.heap = h)
    {pc : Nat} {Ls : Array Slot} {st : List Value} (hsz : Ls.size = c.maxLocals) {ps : List FieldType} {r' : Option FieldType} (hds : parseMethodDescriptor y.desc = some ⟨ps, r'⟩) (hlen : argsL.length = ps.length) (hst : st = argsL.reverse ++ .ref b :: rest) (hW : 2 * 0 + (rest.map fun v => v.category).sum ≤ W) (hd : decode c.code pc = .ok (.invokevirtual index, 3))
    (k : ∀ (v : Option Value) (T' : State) (L : List Loc), Stand p l e R s m args below meth c T' (locs ++ L) (cells + rm.cells) (slots + rm.slots) → Q v T'.heap L → Gl p e below G (T'.setTop (mkF m (pc + 3) Ls (v.toList ++ rest)))) : Gl p e below G (T.setTop (mkF m pc Ls st)) := by
  obtain ⟨cq, kq, qa, qb, qc⟩ := isOf hZ eT hE
  obtain ⟨v, _, ⟨T', L', k', n'⟩, -, X', ⟨Lc, hQ, l1, y1, z1⟩, stp⟩ := X.virtualBack hx (y := y) (z := z) hown (mvT hZ w1) (mvT hZ w2) nf (mvT hZ w3) (mvT hZ w4) hy (backOf (W := W) hM hZ w5 w6 hf hl) qa qc (g := mkF m pc Ls st) rfl hsz (Steps.refl _) (argsL := argsL) (rest := rest) (lenOf hds hlen) hst hW hd (fun _ _ => ⟨rfl, eT, hcl, hsl⟩)
  dsimp only [Pt.U, Pt.locs, Pt.cells, Pt.slots] at X' l1 y1 z1 stp hQ
  subst l1 y1 z1
  exact Gl.of (fun t q => stp.trans q) (k v T' Lc X' hQ)
theorem Gl.callV0 {G : State → Outcome → Prop} (X : Stand p l e R s m args below meth c T locs cells slots) (hx : p.tables.exec = Jvm.exec) (hZ : Z.Warmed39 s.vm) {own C : String} {index : Nat} {y z : MethodName} {bytes : ByteArray} {maxL : Nat} {rt : Option FieldType} (hown : s.vm.findClass own = some m.cls)
    (w1 : (Jvm.Cond.methodLink own index y).before a0 Z = true) (w2 : (Jvm.Cond.declares y).before a0 Z = true) (nf : NotFace s y) (w3 : (Jvm.Cond.selects C y z).before a0 Z = true) (w4 : (Jvm.Cond.instanceMethod z).before a0 Z = true) (w5 : (Jvm.Cond.code z bytes maxL rt).before a0 Z = true) (w6 : (Jvm.Cond.initialized z.cls).before a0 Z = true) (hy : y.cls ≠ "java/lang/invoke/MethodHandle" ∧ y.cls ≠ "java/lang/invoke/VarHandle")
    {fr lo : Nat} {F : Option Value → Prop} {b : Addr} {argsL rest : List Value} (hE : Exa Z h b C) (hM : Con l Z z bytes maxL rt [] ({ frames := fr, cells := 0, slots := 0, locals := lo } : Room) 0 0 (.ref b :: argsL).toArray h (Pur F h)) (W : Nat) (hf : fr + 1 ≤ R.frames) (hl : W + (maxL + 11) + lo ≤ R.locals) (eT : T.heap = h)
    {pc : Nat} {Ls : Array Slot} {st : List Value} (hsz : Ls.size = c.maxLocals) {ps : List FieldType} {r' : Option FieldType} (hds : parseMethodDescriptor y.desc = some ⟨ps, r'⟩) (hlen : argsL.length = ps.length) (hst : st = argsL.reverse ++ .ref b :: rest) (hW : 2 * 0 + (rest.map fun v => v.category).sum ≤ W) (hd : decode c.code pc = .ok (.invokevirtual index, 3)) (hcl : cells ≤ R.cells) (hsl : slots ≤ R.slots)
    (k : ∀ (v : Option Value) (T' : State), Stand p l e R s m args below meth c T' locs cells slots → T'.heap = h → F v → Gl p e below G (T'.setTop (mkF m (pc + 3) Ls (v.toList ++ rest)))) : Gl p e below G (T.setTop (mkF m pc Ls st)) := by
  refine Gl.callV X hx hZ hown w1 w2 nf w3 w4 w5 w6 hy hE hM W hf hl hcl hsl eT hsz hds hlen hst hW hd ?_
  intro v T' L X' hQ
  obtain ⟨q1, q2, rfl⟩ := hQ
  rw [List.append_nil] at X'
  exact k v T' X' q2 q1
/-- a private instance method by its contract -/
theorem Gl.callP {G : State → Outcome → Prop} (X : Stand p l e R s m args below meth c T locs cells slots) (hx : p.tables.exec = Jvm.exec) (hZ : Z.Warmed39 s.vm) {own C : String} {index : Nat} {y : MethodName} {bytes : ByteArray} {maxL : Nat} {rt : Option FieldType} (hown : s.vm.findClass own = some m.cls)
    (w1 : (Jvm.Cond.methodLink own index y).before a0 Z = true) (nf : NotFace s y) (w3 : (Jvm.Cond.privateMethod y).before a0 Z = true) (w4 : (Jvm.Cond.instanceMethod y).before a0 Z = true) (w5 : (Jvm.Cond.code y bytes maxL rt).before a0 Z = true) (w6 : (Jvm.Cond.initialized y.cls).before a0 Z = true) (hy : y.cls ≠ "java/lang/invoke/MethodHandle" ∧ y.cls ≠ "java/lang/invoke/VarHandle")
    {rm : Room} {Q : Option Value → Heap → List Loc → Prop} {b : Addr} {argsL rest : List Value} (hE : Exa Z h b C) (hM : Con l Z y bytes maxL rt [] rm rm.cells rm.slots (.ref b :: argsL).toArray h Q) (W : Nat) (hf : rm.frames + 1 ≤ R.frames) (hl : W + (maxL + 11) + rm.locals ≤ R.locals) (hcl : cells + rm.cells ≤ R.cells) (hsl : slots + rm.slots ≤ R.slots) (eT : T.heap = h)
    {pc : Nat} {Ls : Array Slot} {st : List Value} (hsz : Ls.size = c.maxLocals) {ps : List FieldType} {r' : Option FieldType} (hds : parseMethodDescriptor y.desc = some ⟨ps, r'⟩) (hlen : argsL.length = ps.length) (hst : st = argsL.reverse ++ .ref b :: rest) (hW : 2 * 0 + (rest.map fun v => v.category).sum ≤ W) (hd : decode c.code pc = .ok (.invokevirtual index, 3))
    (k : ∀ (v : Option Value) (T' : State) (L : List Loc), Stand p l e R s m args below meth c T' (locs ++ L) (cells + rm.cells) (slots + rm.slots) → Q v T'.heap L → Gl p e below G (T'.setTop (mkF m (pc + 3) Ls (v.toList ++ rest)))) : Gl p e below G (T.setTop (mkF m pc Ls st)) := by
  obtain ⟨cq, q, q'⟩ := hE.cell
  have hpv := Cond.privateMethod_at (mvP hZ w3 (args := #[]))
  have hin : (Jvm.Cond.instanceMethod y).before args s = true := mvT hZ w4
  obtain ⟨mk, methM, hnamed, hmethM, -, -⟩ := Cond.instanceMethod_spec hin
  obtain ⟨kc, hkc, hkni⟩ := nf mk hnamed
  have hsel : (Jvm.Cond.selects y.cls y y).before args s = true := selects_self_of_private (findClass_of_methodNamed hnamed) hkc hkni hpv hin hy
  obtain ⟨v, _, ⟨T', L', k', n'⟩, -, X', ⟨Lc, hQ, l1, y1, z1⟩, stp⟩ := X.privateBack hx (y := y) hown (mvT hZ w1) hin hsel hpv (mvT hZ w5) hy (backOf (W := W) hM hZ w5 w6 hf hl) (g := mkF m pc Ls st) rfl hsz (Steps.refl _) (a := b) (by rw [eT]; exact q) q' (argsL := argsL) (rest := rest) (lenOf hds hlen) hst hW hd (fun _ _ => ⟨rfl, eT, hcl, hsl⟩)
  dsimp only [Pt.U, Pt.locs, Pt.cells, Pt.slots] at X' l1 y1 z1 stp hQ
  subst l1 y1 z1
  exact Gl.of (fun t q => stp.trans q) (k v T' Lc X' hQ)
theorem Gl.callP0 {G : State → Outcome → Prop} (X : Stand p l e R s m args below meth c T locs cells slots) (hx : p.tables.exec = Jvm.exec) (hZ : Z.Warmed39 s.vm) {own C : String} {index : Nat} {y : MethodName} {bytes : ByteArray} {maxL : Nat} {rt : Option FieldType} (hown : s.vm.findClass own = some m.cls)
    (w1 : (Jvm.Cond.methodLink own index y).before a0 Z = true) (nf : NotFace s y) (w3 : (Jvm.Cond.privateMethod y).before a0 Z = true) (w4 : (Jvm.Cond.instanceMethod y).before a0 Z = true) (w5 : (Jvm.Cond.code y bytes maxL rt).before a0 Z = true) (w6 : (Jvm.Cond.initialized y.cls).before a0 Z = true) (hy : y.cls ≠ "java/lang/invoke/MethodHandle" ∧ y.cls ≠ "java/lang/invoke/VarHandle")
    {fr lo : Nat} {F : Option Value → Prop} {b : Addr} {argsL rest : List Value} (hE : Exa Z h b C) (hM : Con l Z y bytes maxL rt [] ({ frames := fr, cells := 0, slots := 0, locals := lo } : Room) 0 0 (.ref b :: argsL).toArray h (Pur F h)) (W : Nat) (hf : fr + 1 ≤ R.frames) (hl : W + (maxL + 11) + lo ≤ R.locals) (eT : T.heap = h)
    {pc : Nat} {Ls : Array Slot} {st : List Value} (hsz : Ls.size = c.maxLocals) {ps : List FieldType} {r' : Option FieldType} (hds : parseMethodDescriptor y.desc = some ⟨ps, r'⟩) (hlen : argsL.length = ps.length) (hst : st = argsL.reverse ++ .ref b :: rest) (hW : 2 * 0 + (rest.map fun v => v.category).sum ≤ W) (hd : decode c.code pc = .ok (.invokevirtual index, 3)) (hcl : cells ≤ R.cells) (hsl : slots ≤ R.slots)
    (k : ∀ (v : Option Value) (T' : State), Stand p l e R s m args below meth c T' locs cells slots → T'.heap = h → F v → Gl p e below G (T'.setTop (mkF m (pc + 3) Ls (v.toList ++ rest)))) : Gl p e below G (T.setTop (mkF m pc Ls st)) := by
  refine Gl.callP X hx hZ hown w1 nf w3 w4 w5 w6 hy hE hM W hf hl hcl hsl eT hsz hds hlen hst hW hd ?_
  intro v T' L X' hQ
  obtain ⟨q1, q2, rfl⟩ := hQ
  rw [List.append_nil] at X'
  exact k v T' X' q2 q1
/-- a constructor by its contract -/
theorem Gl.callI {G : State → Outcome → Prop} (X : Stand p l e R s m args below meth c T locs cells slots) (hx : p.tables.exec = Jvm.exec) (hZ : Z.Warmed39 s.vm) {own : String} {index : Nat} {y : MethodName} {bytes : ByteArray} {maxL : Nat} (hy1 : y.name = "<init>") (hown : s.vm.findClass own = some m.cls)
    (w1 : (Jvm.Cond.methodLink own index y).before a0 Z = true) (w2 : (Jvm.Cond.instanceMethod y).before a0 Z = true) (w3 : (Jvm.Cond.initialized y.cls).before a0 Z = true) (w4 : (Jvm.Cond.code y bytes maxL none).before a0 Z = true) (hy : y.cls ≠ "java/lang/invoke/MethodHandle" ∧ y.cls ≠ "java/lang/invoke/VarHandle")
    {rm : Room} {Q : Option Value → Heap → List Loc → Prop} {b : Addr} {argsL rest : List Value} (hM : Con l Z y bytes maxL none [] rm rm.cells rm.slots (.ref b :: argsL).toArray h Q) (W : Nat) (hf : rm.frames + 1 ≤ R.frames) (hl : W + (maxL + 11) + rm.locals ≤ R.locals) (hcl : cells + rm.cells ≤ R.cells) (hsl : slots + rm.slots ≤ R.slots) (eT : T.heap = h)
    {pc : Nat} {Ls : Array Slot} {st : List Value} (hsz : Ls.size = c.maxLocals) {ps : List FieldType} {r' : Option FieldType} (hds : parseMethodDescriptor y.desc = some ⟨ps, r'⟩) (hlen : argsL.length = ps.length) (hst : st = argsL.reverse ++ .ref b :: rest) (hW : 2 * 0 + (rest.map fun v => v.category).sum ≤ W) (hd : decode c.code pc = .ok (.invokespecial index, 3))
    (k : ∀ (v : Option Value) (T' : State) (L : List Loc), Stand p l e R s m args below meth c T' (locs ++ L) (cells + rm.cells) (slots + rm.slots) → Q v T'.heap L → Gl p e below G (T'.setTop (mkF m (pc + 3) Ls (v.toList ++ rest)))) : Gl p e below G (T.setTop (mkF m pc Ls st)) := by
  obtain ⟨v, _, ⟨T', L', k', n'⟩, -, X', ⟨Lc, hQ, l1, y1, z1⟩, stp⟩ := X.specialBack hx (y := y) hy1 hown (mvT hZ w1) (mvT hZ w2) (mvT hZ w4) hy (backOf (W := W) hM hZ w4 w3 hf hl) (g := mkF m pc Ls st) rfl hsz (Steps.refl _) (a := b) (argsL := argsL) (rest := rest) (lenOf hds hlen) hst hW hd (fun _ _ => ⟨rfl, eT, hcl, hsl⟩)
  dsimp only [Pt.U, Pt.locs, Pt.cells, Pt.slots] at X' l1 y1 z1 stp hQ
  subst l1 y1 z1
  exact Gl.of (fun t q => stp.trans q) (k v T' Lc X' hQ)
theorem Gl.callI0 {G : State → Outcome → Prop} (X : Stand p l e R s m args below meth c T locs cells slots) (hx : p.tables.exec = Jvm.exec) (hZ : Z.Warmed39 s.vm) {own : String} {index : Nat} {y : MethodName} {bytes : ByteArray} {maxL : Nat} (hy1 : y.name = "<init>") (hown : s.vm.findClass own = some m.cls)
    (w1 : (Jvm.Cond.methodLink own index y).before a0 Z = true) (w2 : (Jvm.Cond.instanceMethod y).before a0 Z = true) (w3 : (Jvm.Cond.initialized y.cls).before a0 Z = true) (w4 : (Jvm.Cond.code y bytes maxL none).before a0 Z = true) (hy : y.cls ≠ "java/lang/invoke/MethodHandle" ∧ y.cls ≠ "java/lang/invoke/VarHandle")
    {fr lo : Nat} {F : Option Value → Prop} {b : Addr} {argsL rest : List Value} (hM : Con l Z y bytes maxL none [] ({ frames := fr, cells := 0, slots := 0, locals := lo } : Room) 0 0 (.ref b :: argsL).toArray h (Pur F h)) (W : Nat) (hf : fr + 1 ≤ R.frames) (hl : W + (maxL + 11) + lo ≤ R.locals) (eT : T.heap = h)
    {pc : Nat} {Ls : Array Slot} {st : List Value} (hsz : Ls.size = c.maxLocals) {ps : List FieldType} {r' : Option FieldType} (hds : parseMethodDescriptor y.desc = some ⟨ps, r'⟩) (hlen : argsL.length = ps.length) (hst : st = argsL.reverse ++ .ref b :: rest) (hW : 2 * 0 + (rest.map fun v => v.category).sum ≤ W) (hd : decode c.code pc = .ok (.invokespecial index, 3)) (hcl : cells ≤ R.cells) (hsl : slots ≤ R.slots)
    (k : ∀ (v : Option Value) (T' : State), Stand p l e R s m args below meth c T' locs cells slots → T'.heap = h → F v → Gl p e below G (T'.setTop (mkF m (pc + 3) Ls (v.toList ++ rest)))) : Gl p e below G (T.setTop (mkF m pc Ls st)) := by
  refine Gl.callI X hx hZ hy1 hown w1 w2 w3 w4 hy hM W hf hl hcl hsl eT hsz hds hlen hst hW hd ?_
  intro v T' L X' hQ
  obtain ⟨q1, q2, rfl⟩ := hQ
  rw [List.append_nil] at X'
  exact k v T' X' q2 q1
/-- a constructor, by a Back -/
theorem Gl.callIB {G : State → Outcome → Prop} (X : Stand p l e R s m args below meth c T locs cells slots) (hx : p.tables.exec = Jvm.exec) (hZ : Z.Warmed39 s.vm) {own : String} {index : Nat} {y : MethodName} {bytes : ByteArray} {maxL : Nat} (hy1 : y.name = "<init>") (hown : s.vm.findClass own = some m.cls)
    (w1 : (Jvm.Cond.methodLink own index y).before a0 Z = true) (w2 : (Jvm.Cond.instanceMethod y).before a0 Z = true) (w4 : (Jvm.Cond.code y bytes maxL none).before a0 Z = true) (hy : y.cls ≠ "java/lang/invoke/MethodHandle" ∧ y.cls ≠ "java/lang/invoke/VarHandle")
    {C N W : Nat} (Q : Option Value → Heap → List Loc → Prop) {b : Addr} {argsL rest : List Value} (hK : Back l R p e below s args y 3 W (fun A a => a = (Value.ref b :: argsL).toArray ∧ A.U.heap = h ∧ A.cells + C ≤ R.cells ∧ A.slots + N ≤ R.slots) (fun A _ v B => ∃ L, Q v B.U.heap L ∧ B.locs = A.locs ++ L ∧ B.cells = A.cells + C ∧ B.slots = A.slots + N)) (hcl : cells + C ≤ R.cells) (hsl : slots + N ≤ R.slots) (eT : T.heap = h)
    {pc : Nat} {Ls : Array Slot} {st : List Value} (hsz : Ls.size = c.maxLocals) {ps : List FieldType} {r' : Option FieldType} (hds : parseMethodDescriptor y.desc = some ⟨ps, r'⟩) (hlen : argsL.length = ps.length) (hst : st = argsL.reverse ++ .ref b :: rest) (hW : 2 * 0 + (rest.map fun v => v.category).sum ≤ W) (hd : decode c.code pc = .ok (.invokespecial index, 3))
    (k : ∀ (v : Option Value) (T' : State) (L : List Loc), Stand p l e R s m args below meth c T' (locs ++ L) (cells + C) (slots + N) → Q v T'.heap L → Gl p e below G (T'.setTop (mkF m (pc + 3) Ls (v.toList ++ rest)))) : Gl p e below G (T.setTop (mkF m pc Ls st)) := by
  obtain ⟨v, _, ⟨T', L', k', n'⟩, -, X', ⟨Lc, hQ, l1, y1, z1⟩, stp⟩ := X.specialBack hx (y := y) hy1 hown (mvT hZ w1) (mvT hZ w2) (mvT hZ w4) hy hK (g := mkF m pc Ls st) rfl hsz (Steps.refl _) (a := b) (argsL := argsL) (rest := rest) (lenOf hds hlen) hst hW hd (fun _ _ => ⟨rfl, eT, hcl, hsl⟩)
  dsimp only [Pt.U, Pt.locs, Pt.cells, Pt.slots] at X' l1 y1 z1 stp hQ
  subst l1 y1 z1
  exact Gl.of (fun t q => stp.trans q) (k v T' Lc X' hQ)
/-- an instance method that writes and makes nothing, by a Back -/
theorem Gl.callVB {G : State → Outcome → Prop} (X : Stand p l e R s m args below meth c T locs cells slots) (hx : p.tables.exec = Jvm.exec) (hZ : Z.Warmed39 s.vm) {own C : String} {index : Nat} {y z : MethodName} (hown : s.vm.findClass own = some m.cls)
    (w1 : (Jvm.Cond.methodLink own index y).before a0 Z = true) (w2 : (Jvm.Cond.declares y).before a0 Z = true) (nf : NotFace s y) (w3 : (Jvm.Cond.selects C y z).before a0 Z = true) (w4 : (Jvm.Cond.instanceMethod z).before a0 Z = true) (hy : y.cls ≠ "java/lang/invoke/MethodHandle" ∧ y.cls ≠ "java/lang/invoke/VarHandle")
    {W : Nat} (F : Option Value → Prop) {b : Addr} {argsL rest : List Value} (hE : Exa Z h b C) (hK : Back l R p e below s args z 3 W (fun A a => a = (Value.ref b :: argsL).toArray ∧ A.U.heap = h ∧ A.cells + 0 ≤ R.cells ∧ A.slots + 0 ≤ R.slots) (fun A _ v B => ∃ L, (F v ∧ L = [] ∧ B.U.heap = h) ∧ B.locs = A.locs ++ L ∧ B.cells = A.cells + 0 ∧ B.slots = A.slots + 0)) (hcl : cells ≤ R.cells) (hsl : slots ≤ R.slots) (eT : T.heap = h)
    {pc : Nat} {Ls : Array Slot} {st : List Value} (hsz : Ls.size = c.maxLocals) {ps : List FieldType} {r' : Option FieldType} (hds : parseMethodDescriptor y.desc = some ⟨ps, r'⟩) (hlen : argsL.length = ps.length) (hst : st = argsL.reverse ++ .ref b :: rest) (hW : 2 * 0 + (rest.map fun v => v.category).sum ≤ W) (hd : decode c.code pc = .ok (.invokevirtual index, 3))
    (k : ∀ (v : Option Value) (T' : State), Stand p l e R s m args below meth c T' locs cells slots → T'.heap = h → F v → Gl p e below G (T'.setTop (mkF m (pc + 3) Ls (v.toList ++ rest)))) : Gl p e below G (T.setTop (mkF m pc Ls st)) := by
  obtain ⟨cq, kq, qa, qb, qc⟩ := isOf hZ eT hE
  obtain ⟨v, _, ⟨T', L', k', n'⟩, -, X', ⟨Lc, ⟨hF, hL, hH⟩, l1, y1, z1⟩, stp⟩ := X.virtualBack hx (y := y) (z := z) hown (mvT hZ w1) (mvT hZ w2) nf (mvT hZ w3) (mvT hZ w4) hy hK qa qc (g := mkF m pc Ls st) rfl hsz (Steps.refl _) (argsL := argsL) (rest := rest) (lenOf hds hlen) hst hW hd (fun _ _ => ⟨rfl, eT, hcl, hsl⟩)
  dsimp only [Pt.U, Pt.locs, Pt.cells, Pt.slots] at X' l1 y1 z1 stp hH
  subst l1 y1 z1 hL
  rw [List.append_nil] at X'
  exact Gl.of (fun t q => stp.trans q) (k v T' X' hH hF)
theorem nf_same {y y' : MethodName} {C : String} (hc : y'.cls = y.cls) (w : (Jvm.Cond.selects C y y).before args s = true) : NotFace s y' := fun r0 h0 => by
  obtain ⟨c2, r2, m2, q1, q2, q3, q4, kP, hkP, hkPi⟩ := Cond.selects_spec w
  have a := findClass_of_methodNamed h0
  rw [hc] at a
  have b := Option.some.inj (a.symm.trans (findClass_of_methodNamed q3))
  exact ⟨kP, by rw [b]; exact hkP, hkPi⟩
theorem fld_ne {a b : Addr} {C n d : String} {v w : Value} (F : Fld Z h a C n d v) (G : Fld Z h b C n d w) (hn : v ≠ w) : ¬ a = b := fun e => by
  subst e
  obtain ⟨c1, cf, k, i, f, h1, h2, -, -, -, -, h7⟩ := F
  obtain ⟨c2, cf', k', i', f', g1, g2, -, -, -, -, g7⟩ := G
  cases h1.symm.trans g1
  cases h2.symm.trans g2
  exact hn (Option.some.inj (h7.symm.trans g7))
theorem own_nb1 : nar .boolean 1 = 1 := rfl
theorem own_nb0 : nar .boolean 0 = 0 := rfl
/-- the words of a case: an equation with an int -/
theorem eq_at {args : Array Value} {s : State} {t : Term} {idx : List Nat} {z : Int32} (h : (Jvm.Cond.eq t (.int z)).value args s none s idx = some true) : t.eval args s none idx s = some (.int z) := by
  obtain ⟨x, y', e1, e2, k1, k2⟩ := cmp_v (Or.inl h)
  cases (Term.int_eval z).symm.trans e2
  obtain ⟨z', rfl⟩ : ∃ z', x = .int z' := k2
  exact e1.trans (congrArg (fun z => some (Value.int z)) (gotT (Cond.eq_ints e1 (Term.int_eval z)) h))
theorem eqR_at {args : Array Value} {s : State} {t u : Term} {idx : List Nat} {a : Addr} (h : (Jvm.Cond.eq t u).value args s none s idx = some true) (hu : u.eval args s none idx s = some (.ref a)) : t.eval args s none idx s = some (.ref a) := by
  obtain ⟨x, y', e1, e2, k1, k2⟩ := cmp_v (Or.inl h)
  cases hu.symm.trans e2
  have hx : x.isRef = true := k2.2
  have q := gotT (eq_R e1 hu hx rfl) h
  rw [q] at e1
  exact e1
theorem len_at {args : Array Value} {s : State} {t : Term} {z : Int32} {a : Addr} {cl : Cell} (h : (Term.length t).eval args s none [] s = some (.int z)) (ht : t.eval args s none [] s = some (.ref a)) (ha : s.arrayAt? a = some cl) : cl.slots.size.toInt32 = z ∧ cl.slots.size < 2 ^ 31 := by
  by_cases q : cl.slots.size < 2 ^ 31
  · rw [len_f ht ha q] at h
    cases h
    exact ⟨rfl, q⟩
  · simp [Term.eval, ht, ha, q] at h
theorem len_sz {n : Nat} {z : Int32} (h : n.toInt32 = z) (q : n < 2 ^ 31) : n = z.toNatClampNeg := by
  rw [← h]; simp only [Int32.toNatClampNeg, len_toInt q]; rfl
end Own
theorem own_n1 : Jvm.Free.Fl.NoNaN64 (4607182418800017408 : UInt64) := by unfold Jvm.Free.Fl.NoNaN64; decide
theorem own_nd (x : Int32) : Jvm.Free.Fl.NoNaN64 (FP.i2d x) := nn_w (i2d_w x)
theorem ef_1 (m : MethodId) (x0 : Int32) (x1 : Int32) (x2 : UInt64) : entryFrame m #[(.int x0), (.int x1), (.double x2)] 4 = mkF m 0 #[.val (.int x0), .val (.int x1), .val (.double x2), .second] [] := by first | (simp [entryFrame, mkF, argsToLocals, Value.category, maxLocals]; done) | rfl
theorem pn_0 : plainName "com/example/pathstone/pathstone/SubstitutionModelKappaExchangeabilitiesPinLaw" = true := by first | (simp [plainName, overriddenIn]; done) | decide +kernel
theorem d3_0 : decode method_4_code 0 = .ok (.iload_n 0, 1) := by decide +kernel
theorem d3_1 : decode method_4_code 1 = .ok (.iconst 1, 1) := by decide +kernel
theorem d3_2 : decode method_4_code 2 = .ok (.iand, 1) := by decide +kernel
theorem d3_3 : decode method_4_code 3 = .ok (.iload_n 1, 1) := by decide +kernel
theorem d3_4 : decode method_4_code 4 = .ok (.iconst 1, 1) := by decide +kernel
theorem d3_5 : decode method_4_code 5 = .ok (.iand, 1) := by decide +kernel
theorem d3_6 : decode method_4_code 6 = .ok (.if_icmp .ne 7, 3) := by decide +kernel
theorem d3_9 : decode method_4_code 9 = .ok (.dload_n 2, 1) := by decide +kernel
theorem d3_10 : decode method_4_code 10 = .ok (.goto 4, 3) := by decide +kernel
theorem d3_14 : decode method_4_code 14 = .ok (.dreturn, 1) := by decide +kernel
set_option maxRecDepth 65536 in
set_option maxHeartbeats 40000000 in
theorem rmE1 (l : Launch) (Z : State) (a0 : Array Value) (hw : ∀ d ∈ tables_1, d.before a0 Z = true) (h0 : Heap) (p1 p2 : Int32) (d1 : UInt64) (hc : (p1 &&& (1 : Int32)) = (p2 &&& (1 : Int32))) : Con l Z (⟨"com/example/pathstone/pathstone/SubstitutionModelKappaExchangeabilitiesPinLaw", "expected", "(IID)D"⟩ : MethodName) method_4_code 4 (some .double) [] ({ frames := 0, cells := 0, slots := 0, locals := 0 } : Room) 0 0 #[(.int p1), (.int p2), (.double d1)] h0 (Pur (fun v => v = some (.double d1)) h0) := by
  refine Con.intro (plainFor_of_name pn_0) ?_
  intro p e s m below meth c s₁ X0 hx hby hml hZ hown hnm hret hlk e0 hs0
  refine Gl.of (fun _ kq_ => castTop (ef_1 m p1 p2 d1) kq_) ?_
  show Gl p e below _ (s₁.setTop (mkF m 0 #[.val (.int p1), .val (.int p2), .val (.double d1), .second] []))
  refine Gl.of (fun _ kq_ => XS.iloadN X0.here hx rfl (hb hby d3_0) rfl kq_) ?_
  show Gl p e below _ (s₁.setTop (mkF m 1 #[.val (.int p1), .val (.int p2), .val (.double d1), .second] [(.int p1)]))
  refine Gl.of (fun _ kq_ => XS.iconst X0.here hx rfl (hb hby d3_1) kq_) ?_
  show Gl p e below _ (s₁.setTop (mkF m 2 #[.val (.int p1), .val (.int p2), .val (.double d1), .second] [(.int (1 : Int32)), (.int p1)]))
  refine Gl.of (fun _ kq_ => XS.iand X0.here hx rfl (hb hby d3_2) rfl kq_) ?_
  show Gl p e below _ (s₁.setTop (mkF m 3 #[.val (.int p1), .val (.int p2), .val (.double d1), .second] [(.int (p1 &&& (1 : Int32)))]))
  refine Gl.of (fun _ kq_ => XS.iloadN X0.here hx rfl (hb hby d3_3) rfl kq_) ?_
  show Gl p e below _ (s₁.setTop (mkF m 4 #[.val (.int p1), .val (.int p2), .val (.double d1), .second] [(.int p2), (.int (p1 &&& (1 : Int32)))]))
  refine Gl.of (fun _ kq_ => XS.iconst X0.here hx rfl (hb hby d3_4) kq_) ?_
  show Gl p e below _ (s₁.setTop (mkF m 5 #[.val (.int p1), .val (.int p2), .val (.double d1), .second] [(.int (1 : Int32)), (.int p2), (.int (p1 &&& (1 : Int32)))]))
  refine Gl.of (fun _ kq_ => XS.iand X0.here hx rfl (hb hby d3_5) rfl kq_) ?_
  show Gl p e below _ (s₁.setTop (mkF m 6 #[.val (.int p1), .val (.int p2), .val (.double d1), .second] [(.int (p2 &&& (1 : Int32))), (.int (p1 &&& (1 : Int32)))]))
  refine Gl.of (fun _ kq_ => XS.icmpNo X0.here hx rfl (hb hby d3_6) rfl (teq hc).2 kq_) ?_
  show Gl p e below _ (s₁.setTop (mkF m 9 #[.val (.int p1), .val (.int p2), .val (.double d1), .second] []))
  refine Gl.of (fun _ kq_ => XS.dloadN X0.here hx rfl (hb hby d3_9) rfl kq_) ?_
  show Gl p e below _ (s₁.setTop (mkF m 10 #[.val (.int p1), .val (.int p2), .val (.double d1), .second] [(.double d1)]))
  refine Gl.of (fun _ kq_ => XS.goto X0.here hx rfl (pc0 := 10) (pc' := 14) rfl (hb hby d3_10) (by decide) (by decide) kq_) ?_
  show Gl p e below _ (s₁.setTop (mkF m 14 #[.val (.int p1), .val (.int p2), .val (.double d1), .second] [(.double d1)]))
  exact Gl.retD X0 hx hlk hret (hb hby d3_14) e0 (⟨rfl, rfl, rfl⟩) (by decide) (by decide)
theorem ef_2 (m : MethodId) (x0 : Int32) (x1 : Int32) (x2 : UInt64) : entryFrame m #[(.int x0), (.int x1), (.double x2)] 4 = mkF m 0 #[.val (.int x0), .val (.int x1), .val (.double x2), .second] [] := by first | (simp [entryFrame, mkF, argsToLocals, Value.category, maxLocals]; done) | rfl
theorem d3_13 : decode method_4_code 13 = .ok (.dconst 1, 1) := by decide +kernel
set_option maxRecDepth 65536 in
set_option maxHeartbeats 40000000 in
theorem rmE0 (l : Launch) (Z : State) (a0 : Array Value) (hw : ∀ d ∈ tables_1, d.before a0 Z = true) (h0 : Heap) (p1 p2 : Int32) (d1 : UInt64) (hc : ¬ (p1 &&& (1 : Int32)) = (p2 &&& (1 : Int32))) : Con l Z (⟨"com/example/pathstone/pathstone/SubstitutionModelKappaExchangeabilitiesPinLaw", "expected", "(IID)D"⟩ : MethodName) method_4_code 4 (some .double) [] ({ frames := 0, cells := 0, slots := 0, locals := 0 } : Room) 0 0 #[(.int p1), (.int p2), (.double d1)] h0 (Pur (fun v => v = some (.double (4607182418800017408 : UInt64))) h0) := by
  refine Con.intro (plainFor_of_name pn_0) ?_
  intro p e s m below meth c s₁ X0 hx hby hml hZ hown hnm hret hlk e0 hs0
  refine Gl.of (fun _ kq_ => castTop (ef_2 m p1 p2 d1) kq_) ?_
  show Gl p e below _ (s₁.setTop (mkF m 0 #[.val (.int p1), .val (.int p2), .val (.double d1), .second] []))
  refine Gl.of (fun _ kq_ => XS.iloadN X0.here hx rfl (hb hby d3_0) rfl kq_) ?_
  show Gl p e below _ (s₁.setTop (mkF m 1 #[.val (.int p1), .val (.int p2), .val (.double d1), .second] [(.int p1)]))
  refine Gl.of (fun _ kq_ => XS.iconst X0.here hx rfl (hb hby d3_1) kq_) ?_
  show Gl p e below _ (s₁.setTop (mkF m 2 #[.val (.int p1), .val (.int p2), .val (.double d1), .second] [(.int (1 : Int32)), (.int p1)]))
  refine Gl.of (fun _ kq_ => XS.iand X0.here hx rfl (hb hby d3_2) rfl kq_) ?_
  show Gl p e below _ (s₁.setTop (mkF m 3 #[.val (.int p1), .val (.int p2), .val (.double d1), .second] [(.int (p1 &&& (1 : Int32)))]))
  refine Gl.of (fun _ kq_ => XS.iloadN X0.here hx rfl (hb hby d3_3) rfl kq_) ?_
  show Gl p e below _ (s₁.setTop (mkF m 4 #[.val (.int p1), .val (.int p2), .val (.double d1), .second] [(.int p2), (.int (p1 &&& (1 : Int32)))]))
  refine Gl.of (fun _ kq_ => XS.iconst X0.here hx rfl (hb hby d3_4) kq_) ?_
  show Gl p e below _ (s₁.setTop (mkF m 5 #[.val (.int p1), .val (.int p2), .val (.double d1), .second] [(.int (1 : Int32)), (.int p2), (.int (p1 &&& (1 : Int32)))]))
  refine Gl.of (fun _ kq_ => XS.iand X0.here hx rfl (hb hby d3_5) rfl kq_) ?_
  show Gl p e below _ (s₁.setTop (mkF m 6 #[.val (.int p1), .val (.int p2), .val (.double d1), .second] [(.int (p2 &&& (1 : Int32))), (.int (p1 &&& (1 : Int32)))]))
  refine Gl.of (fun _ kq_ => XS.icmpYes X0.here hx rfl (pc0 := 6) (pc' := 13) rfl (hb hby d3_6) rfl (feq hc).2 (by decide) (by decide) kq_) ?_
  show Gl p e below _ (s₁.setTop (mkF m 13 #[.val (.int p1), .val (.int p2), .val (.double d1), .second] []))
  refine Gl.of (fun _ kq_ => XS.dconst1 X0.here hx rfl (v := (4607182418800017408 : UInt64)) (hb hby d3_13) (by decide +kernel) kq_) ?_
  show Gl p e below _ (s₁.setTop (mkF m 14 #[.val (.int p1), .val (.int p2), .val (.double d1), .second] [(.double (4607182418800017408 : UInt64))]))
  exact Gl.retD X0 hx hlk hret (hb hby d3_14) e0 (⟨rfl, rfl, rfl⟩) (by decide) (by decide)
theorem ef_3 (m : MethodId) (x0 : UInt64) : entryFrame m #[(.double x0)] 2 = mkF m 0 #[.val (.double x0), .second] [] := by first | (simp [entryFrame, mkF, argsToLocals, Value.category, maxLocals]; done) | rfl
theorem pn_1 : plainName "com/example/pathstone/pathstone/SubstitutionModel" = true := by first | (simp [plainName, overriddenIn]; done) | decide +kernel
theorem d1_0 : decode prog_25_method_2_code 0 = .ok (.bipush 6, 2) := by decide +kernel
theorem d1_2 : decode prog_25_method_2_code 2 = .ok (.newarray .double, 2) := by decide +kernel
theorem w4 {Z : State} {a0 : Array Value} (hw : ∀ d ∈ tables_1, d.before a0 Z = true) : (Jvm.Cond.arrayClass Jvm.ClassFile.FieldType.double).before a0 Z = true := hw _ (List.mem_of_getElem? (i := 4) rfl)
theorem d1_4 : decode prog_25_method_2_code 4 = .ok (.dup, 1) := by decide +kernel
theorem d1_5 : decode prog_25_method_2_code 5 = .ok (.iconst 0, 1) := by decide +kernel
theorem d1_6 : decode prog_25_method_2_code 6 = .ok (.dconst 1, 1) := by decide +kernel
theorem d1_7 : decode prog_25_method_2_code 7 = .ok (.dastore, 1) := by decide +kernel
theorem d1_8 : decode prog_25_method_2_code 8 = .ok (.dup, 1) := by decide +kernel
theorem d1_9 : decode prog_25_method_2_code 9 = .ok (.iconst 1, 1) := by decide +kernel
theorem d1_10 : decode prog_25_method_2_code 10 = .ok (.dload_n 0, 1) := by decide +kernel
theorem d1_11 : decode prog_25_method_2_code 11 = .ok (.dastore, 1) := by decide +kernel
theorem d1_12 : decode prog_25_method_2_code 12 = .ok (.dup, 1) := by decide +kernel
theorem d1_13 : decode prog_25_method_2_code 13 = .ok (.iconst 2, 1) := by decide +kernel
theorem d1_14 : decode prog_25_method_2_code 14 = .ok (.dconst 1, 1) := by decide +kernel
theorem d1_15 : decode prog_25_method_2_code 15 = .ok (.dastore, 1) := by decide +kernel
theorem d1_16 : decode prog_25_method_2_code 16 = .ok (.dup, 1) := by decide +kernel
theorem d1_17 : decode prog_25_method_2_code 17 = .ok (.iconst 3, 1) := by decide +kernel
theorem d1_18 : decode prog_25_method_2_code 18 = .ok (.dconst 1, 1) := by decide +kernel
theorem d1_19 : decode prog_25_method_2_code 19 = .ok (.dastore, 1) := by decide +kernel
theorem d1_20 : decode prog_25_method_2_code 20 = .ok (.dup, 1) := by decide +kernel
theorem d1_21 : decode prog_25_method_2_code 21 = .ok (.iconst 4, 1) := by decide +kernel
theorem d1_22 : decode prog_25_method_2_code 22 = .ok (.dload_n 0, 1) := by decide +kernel
theorem d1_23 : decode prog_25_method_2_code 23 = .ok (.dastore, 1) := by decide +kernel
theorem d1_24 : decode prog_25_method_2_code 24 = .ok (.dup, 1) := by decide +kernel
theorem d1_25 : decode prog_25_method_2_code 25 = .ok (.iconst 5, 1) := by decide +kernel
theorem d1_26 : decode prog_25_method_2_code 26 = .ok (.dconst 1, 1) := by decide +kernel
theorem d1_27 : decode prog_25_method_2_code 27 = .ok (.dastore, 1) := by decide +kernel
theorem d1_28 : decode prog_25_method_2_code 28 = .ok (.areturn, 1) := by decide +kernel
set_option maxRecDepth 65536 in
set_option maxHeartbeats 40000000 in
theorem rm1 (l : Launch) (Z : State) (a0 : Array Value) (hw : ∀ d ∈ tables_1, d.before a0 Z = true) (h0 : Heap) (d1 : UInt64) (n0 : Nat) (Z0 : n0 ≤ h0.size) : Con l Z (⟨"com/example/pathstone/pathstone/SubstitutionModel", "kappaExchangeabilities", "(D)[D"⟩ : MethodName) prog_25_method_2_code 2 (some (.array .double)) [] ({ frames := 0, cells := 1, slots := 6, locals := 0 } : Room) 1 6 #[(.double d1)] h0 (fun v h L => ∃ b k, v = some (.ref b) ∧ Arv Z h b k .double (6 : Int32) [(.double (4607182418800017408 : UInt64)), (.double d1), (.double (4607182418800017408 : UInt64)), (.double (4607182418800017408 : UInt64)), (.double d1), (.double (4607182418800017408 : UInt64))] (.double (0 : UInt64)) ∧ Keep h0 h [] ∧ Fr n0 L ∧ n0 ≤ b ∧ h0.size ≤ b) := by
  refine Con.intro (plainFor_of_name pn_1) ?_
  intro p e s m below meth c s₁ X0 hx hby hml hZ hown hnm hret hlk e0 hs0
  refine Gl.of (fun _ kq_ => castTop (ef_3 m d1) kq_) ?_
  have K0 := Keep.refl h0 []
  show Gl p e below _ (s₁.setTop (mkF m 0 #[.val (.double d1), .second] []))
  refine Gl.of (fun _ kq_ => XS.bipush X0.here hx rfl (hb hby d1_0) kq_) ?_
  show Gl p e below _ (s₁.setTop (mkF m 2 #[.val (.double d1), .second] [(.int (6 : Int32))]))
  obtain ⟨T1, h1, k1, X1, e1, E1, A1, st1⟩ := newP (aty := .double) X0 hx hZ (w4 hw) e0 (g := (mkF m 2 #[.val (.double d1), .second] [(.int (6 : Int32))])) rfl (hb hby d1_2) rfl (by decide) (cap := 6) (by decide) (by decide) (by decide) (by decide)
  obtain ⟨b1, g1⟩ : ∃ z, z = h0.size := ⟨_, rfl⟩
  rw [← g1] at A1 st1
  refine Gl.of st1 ?_
  have Gb1 : n0 ≤ b1 := Nat.le_trans Z0 (Nat.le_of_eq g1.symm)
  have Jb1 : h0.size ≤ b1 := Nat.le_trans K0.1 (Nat.le_of_eq g1.symm)
  have Z1 := Nat.le_trans Z0 E1.1
  have K1 := K0.ext E1
  have V1 : Arv Z h1 b1 k1 .double (6 : Int32) [(.double (0 : UInt64)), (.double (0 : UInt64)), (.double (0 : UInt64)), (.double (0 : UInt64)), (.double (0 : UInt64)), (.double (0 : UInt64))] (.double (0 : UInt64)) := (Arv.new A1 (by decide)).pad (pad_rep [] (.double (0 : UInt64)) 6)
  show Gl p e below _ (T1.setTop (mkF m 4 #[.val (.double d1), .second] [(.ref b1)]))
  refine Gl.of (fun _ kq_ => XS.dup X1.here hx rfl (hb hby d1_4) rfl rfl kq_) ?_
  show Gl p e below _ (T1.setTop (mkF m 5 #[.val (.double d1), .second] [(.ref b1), (.ref b1)]))
  refine Gl.of (fun _ kq_ => XS.iconst X1.here hx rfl (hb hby d1_5) kq_) ?_
  show Gl p e below _ (T1.setTop (mkF m 6 #[.val (.double d1), .second] [(.int (0 : Int32)), (.ref b1), (.ref b1)]))
  refine Gl.of (fun _ kq_ => XS.dconst1 X1.here hx rfl (v := (4607182418800017408 : UInt64)) (hb hby d1_6) (by decide +kernel) kq_) ?_
  show Gl p e below _ (T1.setTop (mkF m 7 #[.val (.double d1), .second] [(.double (4607182418800017408 : UInt64)), (.int (0 : Int32)), (.ref b1), (.ref b1)]))
  obtain ⟨zcl2, zAr2, zq2, zS2, zM2, zH2, zG2⟩ := id V1
  obtain ⟨T3, h3, X3, e3, W3, st3⟩ := stD X1 hx hZ e1 zAr2 (j := (0 : Int32)) (inb_of zS2 ⟨by decide, by decide⟩) (g := (mkF m 7 #[.val (.double d1), .second] [(.double (4607182418800017408 : UInt64)), (.int (0 : Int32)), (.ref b1), (.ref b1)])) rfl rfl (hb hby d1_7)
  refine Gl.of st3 ?_
  have V3 : Arv Z h3 b1 k1 .double (6 : Int32) [(.double (4607182418800017408 : UInt64)), (.double (0 : UInt64)), (.double (0 : UInt64)), (.double (0 : UInt64)), (.double (0 : UInt64)), (.double (0 : UInt64))] (.double (0 : UInt64)) := Arv.set zAr2 zq2 zS2 zM2 zH2 zG2 rfl W3 0 rfl (Nat.le_of_ble_eq_true rfl)
  have N3 := Fr.snoc X3 (Fr.nil n0) Gb1
  have Z3 := Nat.le_trans Z1 (Keep.of_wr W3).1
  have K3 := K1.wr W3 (Or.inr Jb1)
  show Gl p e below _ (T3.setTop (mkF m 8 #[.val (.double d1), .second] [(.ref b1)]))
  refine Gl.of (fun _ kq_ => XS.dup X3.here hx rfl (hb hby d1_8) rfl rfl kq_) ?_
  show Gl p e below _ (T3.setTop (mkF m 9 #[.val (.double d1), .second] [(.ref b1), (.ref b1)]))
  refine Gl.of (fun _ kq_ => XS.iconst X3.here hx rfl (hb hby d1_9) kq_) ?_
  show Gl p e below _ (T3.setTop (mkF m 10 #[.val (.double d1), .second] [(.int (1 : Int32)), (.ref b1), (.ref b1)]))
  refine Gl.of (fun _ kq_ => XS.dloadN X3.here hx rfl (hb hby d1_10) rfl kq_) ?_
  show Gl p e below _ (T3.setTop (mkF m 11 #[.val (.double d1), .second] [(.double d1), (.int (1 : Int32)), (.ref b1), (.ref b1)]))
  obtain ⟨zcl4, zAr4, zq4, zS4, zM4, zH4, zG4⟩ := id V3
  obtain ⟨T5, h5, X5, e5, W5, st5⟩ := stD X3 hx hZ e3 zAr4 (j := (1 : Int32)) (inb_of zS4 ⟨by decide, by decide⟩) (g := (mkF m 11 #[.val (.double d1), .second] [(.double d1), (.int (1 : Int32)), (.ref b1), (.ref b1)])) rfl rfl (hb hby d1_11)
  refine Gl.of st5 ?_
  have V5 : Arv Z h5 b1 k1 .double (6 : Int32) [(.double (4607182418800017408 : UInt64)), (.double d1), (.double (0 : UInt64)), (.double (0 : UInt64)), (.double (0 : UInt64)), (.double (0 : UInt64))] (.double (0 : UInt64)) := Arv.set zAr4 zq4 zS4 zM4 zH4 zG4 rfl W5 1 rfl (Nat.le_of_ble_eq_true rfl)
  have N5 := Fr.snoc X5 N3 Gb1
  have Z5 := Nat.le_trans Z3 (Keep.of_wr W5).1
  have K5 := K3.wr W5 (Or.inr Jb1)
  show Gl p e below _ (T5.setTop (mkF m 12 #[.val (.double d1), .second] [(.ref b1)]))
  refine Gl.of (fun _ kq_ => XS.dup X5.here hx rfl (hb hby d1_12) rfl rfl kq_) ?_
  show Gl p e below _ (T5.setTop (mkF m 13 #[.val (.double d1), .second] [(.ref b1), (.ref b1)]))
  refine Gl.of (fun _ kq_ => XS.iconst X5.here hx rfl (hb hby d1_13) kq_) ?_
  show Gl p e below _ (T5.setTop (mkF m 14 #[.val (.double d1), .second] [(.int (2 : Int32)), (.ref b1), (.ref b1)]))
  refine Gl.of (fun _ kq_ => XS.dconst1 X5.here hx rfl (v := (4607182418800017408 : UInt64)) (hb hby d1_14) (by decide +kernel) kq_) ?_
  show Gl p e below _ (T5.setTop (mkF m 15 #[.val (.double d1), .second] [(.double (4607182418800017408 : UInt64)), (.int (2 : Int32)), (.ref b1), (.ref b1)]))
  obtain ⟨zcl6, zAr6, zq6, zS6, zM6, zH6, zG6⟩ := id V5
  obtain ⟨T7, h7, X7, e7, W7, st7⟩ := stD X5 hx hZ e5 zAr6 (j := (2 : Int32)) (inb_of zS6 ⟨by decide, by decide⟩) (g := (mkF m 15 #[.val (.double d1), .second] [(.double (4607182418800017408 : UInt64)), (.int (2 : Int32)), (.ref b1), (.ref b1)])) rfl rfl (hb hby d1_15)
  refine Gl.of st7 ?_
  have V7 : Arv Z h7 b1 k1 .double (6 : Int32) [(.double (4607182418800017408 : UInt64)), (.double d1), (.double (4607182418800017408 : UInt64)), (.double (0 : UInt64)), (.double (0 : UInt64)), (.double (0 : UInt64))] (.double (0 : UInt64)) := Arv.set zAr6 zq6 zS6 zM6 zH6 zG6 rfl W7 2 rfl (Nat.le_of_ble_eq_true rfl)
  have N7 := Fr.snoc X7 N5 Gb1
  have Z7 := Nat.le_trans Z5 (Keep.of_wr W7).1
  have K7 := K5.wr W7 (Or.inr Jb1)
  show Gl p e below _ (T7.setTop (mkF m 16 #[.val (.double d1), .second] [(.ref b1)]))
  refine Gl.of (fun _ kq_ => XS.dup X7.here hx rfl (hb hby d1_16) rfl rfl kq_) ?_
  show Gl p e below _ (T7.setTop (mkF m 17 #[.val (.double d1), .second] [(.ref b1), (.ref b1)]))
  refine Gl.of (fun _ kq_ => XS.iconst X7.here hx rfl (hb hby d1_17) kq_) ?_
  show Gl p e below _ (T7.setTop (mkF m 18 #[.val (.double d1), .second] [(.int (3 : Int32)), (.ref b1), (.ref b1)]))
  refine Gl.of (fun _ kq_ => XS.dconst1 X7.here hx rfl (v := (4607182418800017408 : UInt64)) (hb hby d1_18) (by decide +kernel) kq_) ?_
  show Gl p e below _ (T7.setTop (mkF m 19 #[.val (.double d1), .second] [(.double (4607182418800017408 : UInt64)), (.int (3 : Int32)), (.ref b1), (.ref b1)]))
  obtain ⟨zcl8, zAr8, zq8, zS8, zM8, zH8, zG8⟩ := id V7
  obtain ⟨T9, h9, X9, e9, W9, st9⟩ := stD X7 hx hZ e7 zAr8 (j := (3 : Int32)) (inb_of zS8 ⟨by decide, by decide⟩) (g := (mkF m 19 #[.val (.double d1), .second] [(.double (4607182418800017408 : UInt64)), (.int (3 : Int32)), (.ref b1), (.ref b1)])) rfl rfl (hb hby d1_19)
  refine Gl.of st9 ?_
  have V9 : Arv Z h9 b1 k1 .double (6 : Int32) [(.double (4607182418800017408 : UInt64)), (.double d1), (.double (4607182418800017408 : UInt64)), (.double (4607182418800017408 : UInt64)), (.double (0 : UInt64)), (.double (0 : UInt64))] (.double (0 : UInt64)) := Arv.set zAr8 zq8 zS8 zM8 zH8 zG8 rfl W9 3 rfl (Nat.le_of_ble_eq_true rfl)
  have N9 := Fr.snoc X9 N7 Gb1
  have Z9 := Nat.le_trans Z7 (Keep.of_wr W9).1
  have K9 := K7.wr W9 (Or.inr Jb1)
  show Gl p e below _ (T9.setTop (mkF m 20 #[.val (.double d1), .second] [(.ref b1)]))
  refine Gl.of (fun _ kq_ => XS.dup X9.here hx rfl (hb hby d1_20) rfl rfl kq_) ?_
  show Gl p e below _ (T9.setTop (mkF m 21 #[.val (.double d1), .second] [(.ref b1), (.ref b1)]))
  refine Gl.of (fun _ kq_ => XS.iconst X9.here hx rfl (hb hby d1_21) kq_) ?_
  show Gl p e below _ (T9.setTop (mkF m 22 #[.val (.double d1), .second] [(.int (4 : Int32)), (.ref b1), (.ref b1)]))
  refine Gl.of (fun _ kq_ => XS.dloadN X9.here hx rfl (hb hby d1_22) rfl kq_) ?_
  show Gl p e below _ (T9.setTop (mkF m 23 #[.val (.double d1), .second] [(.double d1), (.int (4 : Int32)), (.ref b1), (.ref b1)]))
  obtain ⟨zcl10, zAr10, zq10, zS10, zM10, zH10, zG10⟩ := id V9
  obtain ⟨T11, h11, X11, e11, W11, st11⟩ := stD X9 hx hZ e9 zAr10 (j := (4 : Int32)) (inb_of zS10 ⟨by decide, by decide⟩) (g := (mkF m 23 #[.val (.double d1), .second] [(.double d1), (.int (4 : Int32)), (.ref b1), (.ref b1)])) rfl rfl (hb hby d1_23)
  refine Gl.of st11 ?_
  have V11 : Arv Z h11 b1 k1 .double (6 : Int32) [(.double (4607182418800017408 : UInt64)), (.double d1), (.double (4607182418800017408 : UInt64)), (.double (4607182418800017408 : UInt64)), (.double d1), (.double (0 : UInt64))] (.double (0 : UInt64)) := Arv.set zAr10 zq10 zS10 zM10 zH10 zG10 rfl W11 4 rfl (Nat.le_of_ble_eq_true rfl)
  have N11 := Fr.snoc X11 N9 Gb1
  have Z11 := Nat.le_trans Z9 (Keep.of_wr W11).1
  have K11 := K9.wr W11 (Or.inr Jb1)
  show Gl p e below _ (T11.setTop (mkF m 24 #[.val (.double d1), .second] [(.ref b1)]))
  refine Gl.of (fun _ kq_ => XS.dup X11.here hx rfl (hb hby d1_24) rfl rfl kq_) ?_
  show Gl p e below _ (T11.setTop (mkF m 25 #[.val (.double d1), .second] [(.ref b1), (.ref b1)]))
  refine Gl.of (fun _ kq_ => XS.iconst X11.here hx rfl (hb hby d1_25) kq_) ?_
  show Gl p e below _ (T11.setTop (mkF m 26 #[.val (.double d1), .second] [(.int (5 : Int32)), (.ref b1), (.ref b1)]))
  refine Gl.of (fun _ kq_ => XS.dconst1 X11.here hx rfl (v := (4607182418800017408 : UInt64)) (hb hby d1_26) (by decide +kernel) kq_) ?_
  show Gl p e below _ (T11.setTop (mkF m 27 #[.val (.double d1), .second] [(.double (4607182418800017408 : UInt64)), (.int (5 : Int32)), (.ref b1), (.ref b1)]))
  obtain ⟨zcl12, zAr12, zq12, zS12, zM12, zH12, zG12⟩ := id V11
  obtain ⟨T13, h13, X13, e13, W13, st13⟩ := stD X11 hx hZ e11 zAr12 (j := (5 : Int32)) (inb_of zS12 ⟨by decide, by decide⟩) (g := (mkF m 27 #[.val (.double d1), .second] [(.double (4607182418800017408 : UInt64)), (.int (5 : Int32)), (.ref b1), (.ref b1)])) rfl rfl (hb hby d1_27)
  refine Gl.of st13 ?_
  have V13 : Arv Z h13 b1 k1 .double (6 : Int32) [(.double (4607182418800017408 : UInt64)), (.double d1), (.double (4607182418800017408 : UInt64)), (.double (4607182418800017408 : UInt64)), (.double d1), (.double (4607182418800017408 : UInt64))] (.double (0 : UInt64)) := Arv.set zAr12 zq12 zS12 zM12 zH12 zG12 rfl W13 5 rfl (Nat.le_of_ble_eq_true rfl)
  have N13 := Fr.snoc X13 N11 Gb1
  have Z13 := Nat.le_trans Z11 (Keep.of_wr W13).1
  have K13 := K11.wr W13 (Or.inr Jb1)
  show Gl p e below _ (T13.setTop (mkF m 28 #[.val (.double d1), .second] [(.ref b1)]))
  exact Gl.retR X13 hx hlk hret rfl rfl (hb hby d1_28) e13 (⟨_, _, rfl, V13, K13, N13, Gb1, Jb1⟩) (by decide) (by decide)
theorem ef_4 (m : MethodId) (x0 : Addr) (x1 : UInt64) : entryFrame m #[(.ref x0), (.double x1)] 3 = mkF m 0 #[.val (.ref x0), .val (.double x1), .second] [] := by first | (simp [entryFrame, mkF, argsToLocals, Value.category, maxLocals]; done) | rfl
theorem d2_0 : decode method_3_code 0 = .ok (.aload_n 0, 1) := by decide +kernel
theorem d2_1 : decode method_3_code 1 = .ok (.iconst 0, 1) := by decide +kernel
theorem d2_2 : decode method_3_code 2 = .ok (.daload, 1) := by decide +kernel
theorem d2_3 : decode method_3_code 3 = .ok (.iconst 0, 1) := by decide +kernel
theorem d2_4 : decode method_3_code 4 = .ok (.iconst 1, 1) := by decide +kernel
theorem d2_5 : decode method_3_code 5 = .ok (.dload_n 1, 1) := by decide +kernel
theorem d2_6 : decode method_3_code 6 = .ok (.invokestatic 21, 3) := by decide +kernel
theorem pd_0 : parseMethodDescriptor "(IID)D" = some ⟨[.int, .int, .double], some .double⟩ := by decide +kernel
theorem w9 {Z : State} {a0 : Array Value} (hw : ∀ d ∈ tables_1, d.before a0 Z = true) : (Jvm.Cond.methodLink "com/example/pathstone/pathstone/SubstitutionModelKappaExchangeabilitiesPinLaw" (21 : Nat) ({ cls := "com/example/pathstone/pathstone/SubstitutionModelKappaExchangeabilitiesPinLaw", name := "expected", desc := "(IID)D" } : Jvm.MethodName)).before a0 Z = true := hw _ (List.mem_of_getElem? (i := 9) rfl)
theorem w10 {Z : State} {a0 : Array Value} (hw : ∀ d ∈ tables_1, d.before a0 Z = true) : (Jvm.Cond.static ({ cls := "com/example/pathstone/pathstone/SubstitutionModelKappaExchangeabilitiesPinLaw", name := "expected", desc := "(IID)D" } : Jvm.MethodName)).before a0 Z = true := hw _ (List.mem_of_getElem? (i := 10) rfl)
theorem w7 {Z : State} {a0 : Array Value} (hw : ∀ d ∈ tables_1, d.before a0 Z = true) : (Jvm.Cond.initialized "com/example/pathstone/pathstone/SubstitutionModelKappaExchangeabilitiesPinLaw").before a0 Z = true := hw _ (List.mem_of_getElem? (i := 7) rfl)
theorem w11 {Z : State} {a0 : Array Value} (hw : ∀ d ∈ tables_1, d.before a0 Z = true) : (Jvm.Cond.code ({ cls := "com/example/pathstone/pathstone/SubstitutionModelKappaExchangeabilitiesPinLaw", name := "expected", desc := "(IID)D" } : Jvm.MethodName) method_4_code (4 : Nat) (Option.some Jvm.ClassFile.FieldType.double)).before a0 Z = true := hw _ (List.mem_of_getElem? (i := 11) rfl)
theorem d2_9 : decode method_3_code 9 = .ok (.dcmp .l, 1) := by decide +kernel
theorem d2_10 : decode method_3_code 10 = .ok (.ifCond .ne 72, 3) := by decide +kernel
theorem d2_13 : decode method_3_code 13 = .ok (.aload_n 0, 1) := by decide +kernel
theorem d2_14 : decode method_3_code 14 = .ok (.iconst 1, 1) := by decide +kernel
theorem d2_15 : decode method_3_code 15 = .ok (.daload, 1) := by decide +kernel
theorem d2_16 : decode method_3_code 16 = .ok (.iconst 0, 1) := by decide +kernel
theorem d2_17 : decode method_3_code 17 = .ok (.iconst 2, 1) := by decide +kernel
theorem d2_18 : decode method_3_code 18 = .ok (.dload_n 1, 1) := by decide +kernel
theorem d2_19 : decode method_3_code 19 = .ok (.invokestatic 21, 3) := by decide +kernel
theorem d2_22 : decode method_3_code 22 = .ok (.dcmp .l, 1) := by decide +kernel
theorem d2_23 : decode method_3_code 23 = .ok (.ifCond .ne 59, 3) := by decide +kernel
theorem d2_26 : decode method_3_code 26 = .ok (.aload_n 0, 1) := by decide +kernel
theorem d2_27 : decode method_3_code 27 = .ok (.iconst 2, 1) := by decide +kernel
theorem d2_28 : decode method_3_code 28 = .ok (.daload, 1) := by decide +kernel
theorem d2_29 : decode method_3_code 29 = .ok (.iconst 0, 1) := by decide +kernel
theorem d2_30 : decode method_3_code 30 = .ok (.iconst 3, 1) := by decide +kernel
theorem d2_31 : decode method_3_code 31 = .ok (.dload_n 1, 1) := by decide +kernel
theorem d2_32 : decode method_3_code 32 = .ok (.invokestatic 21, 3) := by decide +kernel
theorem d2_35 : decode method_3_code 35 = .ok (.dcmp .l, 1) := by decide +kernel
theorem d2_36 : decode method_3_code 36 = .ok (.ifCond .ne 46, 3) := by decide +kernel
theorem d2_39 : decode method_3_code 39 = .ok (.aload_n 0, 1) := by decide +kernel
theorem d2_40 : decode method_3_code 40 = .ok (.iconst 3, 1) := by decide +kernel
theorem d2_41 : decode method_3_code 41 = .ok (.daload, 1) := by decide +kernel
theorem d2_42 : decode method_3_code 42 = .ok (.iconst 1, 1) := by decide +kernel
theorem d2_43 : decode method_3_code 43 = .ok (.iconst 2, 1) := by decide +kernel
theorem d2_44 : decode method_3_code 44 = .ok (.dload_n 1, 1) := by decide +kernel
theorem d2_45 : decode method_3_code 45 = .ok (.invokestatic 21, 3) := by decide +kernel
theorem d2_48 : decode method_3_code 48 = .ok (.dcmp .l, 1) := by decide +kernel
theorem d2_49 : decode method_3_code 49 = .ok (.ifCond .ne 33, 3) := by decide +kernel
theorem d2_52 : decode method_3_code 52 = .ok (.aload_n 0, 1) := by decide +kernel
theorem d2_53 : decode method_3_code 53 = .ok (.iconst 4, 1) := by decide +kernel
theorem d2_54 : decode method_3_code 54 = .ok (.daload, 1) := by decide +kernel
theorem d2_55 : decode method_3_code 55 = .ok (.iconst 1, 1) := by decide +kernel
theorem d2_56 : decode method_3_code 56 = .ok (.iconst 3, 1) := by decide +kernel
theorem d2_57 : decode method_3_code 57 = .ok (.dload_n 1, 1) := by decide +kernel
theorem d2_58 : decode method_3_code 58 = .ok (.invokestatic 21, 3) := by decide +kernel
theorem d2_61 : decode method_3_code 61 = .ok (.dcmp .l, 1) := by decide +kernel
theorem d2_62 : decode method_3_code 62 = .ok (.ifCond .ne 20, 3) := by decide +kernel
theorem d2_65 : decode method_3_code 65 = .ok (.aload_n 0, 1) := by decide +kernel
theorem d2_66 : decode method_3_code 66 = .ok (.iconst 5, 1) := by decide +kernel
theorem d2_67 : decode method_3_code 67 = .ok (.daload, 1) := by decide +kernel
theorem d2_68 : decode method_3_code 68 = .ok (.iconst 2, 1) := by decide +kernel
theorem d2_69 : decode method_3_code 69 = .ok (.iconst 3, 1) := by decide +kernel
theorem d2_70 : decode method_3_code 70 = .ok (.dload_n 1, 1) := by decide +kernel
theorem d2_71 : decode method_3_code 71 = .ok (.invokestatic 21, 3) := by decide +kernel
theorem d2_74 : decode method_3_code 74 = .ok (.dcmp .l, 1) := by decide +kernel
theorem d2_75 : decode method_3_code 75 = .ok (.ifCond .ne 7, 3) := by decide +kernel
theorem d2_78 : decode method_3_code 78 = .ok (.iconst 1, 1) := by decide +kernel
theorem d2_79 : decode method_3_code 79 = .ok (.goto 4, 3) := by decide +kernel
theorem d2_83 : decode method_3_code 83 = .ok (.ireturn, 1) := by decide +kernel
set_option maxRecDepth 65536 in
set_option maxHeartbeats 40000000 in
theorem rm2 (l : Launch) (Z : State) (a0 : Array Value) (hw : ∀ d ∈ tables_1, d.before a0 Z = true) (h0 : Heap) (a1 : Addr) (d1 : UInt64) (kc : ClassId) (V1 : Arv Z h0 a1 kc .double (6 : Int32) [(.double (4607182418800017408 : UInt64)), (.double d1), (.double (4607182418800017408 : UInt64)), (.double (4607182418800017408 : UInt64)), (.double d1), (.double (4607182418800017408 : UInt64))] (.double (0 : UInt64))) (hd : Jvm.Free.Fl.NoNaN64 d1) : Con l Z (⟨"com/example/pathstone/pathstone/SubstitutionModelKappaExchangeabilitiesPinLaw", "matches", "([DD)Z"⟩ : MethodName) method_3_code 3 (some .boolean) [] ({ frames := 1, cells := 0, slots := 0, locals := 19 } : Room) 0 0 #[(.ref a1), (.double d1)] h0 (Pur (fun v => v = some (.int 1)) h0) := by
  refine Con.intro (plainFor_of_name pn_0) ?_
  intro p e s m below meth c s₁ X0 hx hby hml hZ hown hnm hret hlk e0 hs0
  refine Gl.of (fun _ kq_ => castTop (ef_4 m a1 d1) kq_) ?_
  show Gl p e below _ (s₁.setTop (mkF m 0 #[.val (.ref a1), .val (.double d1), .second] []))
  refine Gl.of (fun _ kq_ => XS.aloadN X0.here hx rfl (hb hby d2_0) rfl rfl kq_) ?_
  show Gl p e below _ (s₁.setTop (mkF m 1 #[.val (.ref a1), .val (.double d1), .second] [(.ref a1)]))
  refine Gl.of (fun _ kq_ => XS.iconst X0.here hx rfl (hb hby d2_1) kq_) ?_
  show Gl p e below _ (s₁.setTop (mkF m 2 #[.val (.ref a1), .val (.double d1), .second] [(.int (0 : Int32)), (.ref a1)]))
  obtain ⟨zcl1, zAr1, zq1, zS1, zM1, zH1, zG1⟩ := id V1
  refine Gl.of (fun _ kq_ => X0.daload hx (j := (0 : Int32)) (v := (.double (4607182418800017408 : UInt64))) (by rw [e0]; exact (zAr1).1) (State.isArrayOf_alike hZ.alike (zAr1).2.1) (zAr1).2.2 (inb_of zS1 ⟨by decide, by decide⟩) (zH1 0 (by rw [zS1]; decide)) (g := (mkF m 2 #[.val (.ref a1), .val (.double d1), .second] [(.int (0 : Int32)), (.ref a1)])) rfl rfl (hb hby d2_2) _ kq_) ?_
  show Gl p e below _ (s₁.setTop (mkF m 3 #[.val (.ref a1), .val (.double d1), .second] [(.double (4607182418800017408 : UInt64))]))
  refine Gl.of (fun _ kq_ => XS.iconst X0.here hx rfl (hb hby d2_3) kq_) ?_
  show Gl p e below _ (s₁.setTop (mkF m 4 #[.val (.ref a1), .val (.double d1), .second] [(.int (0 : Int32)), (.double (4607182418800017408 : UInt64))]))
  refine Gl.of (fun _ kq_ => XS.iconst X0.here hx rfl (hb hby d2_4) kq_) ?_
  show Gl p e below _ (s₁.setTop (mkF m 5 #[.val (.ref a1), .val (.double d1), .second] [(.int (1 : Int32)), (.int (0 : Int32)), (.double (4607182418800017408 : UInt64))]))
  refine Gl.of (fun _ kq_ => XS.dloadN X0.here hx rfl (hb hby d2_5) rfl kq_) ?_
  show Gl p e below _ (s₁.setTop (mkF m 6 #[.val (.ref a1), .val (.double d1), .second] [(.double d1), (.int (1 : Int32)), (.int (0 : Int32)), (.double (4607182418800017408 : UInt64))]))
  refine Gl.callS0 X0 hx hZ (y := (⟨"com/example/pathstone/pathstone/SubstitutionModelKappaExchangeabilitiesPinLaw", "expected", "(IID)D"⟩ : MethodName)) hown (w9 hw) (w10 hw) (w7 hw) (w11 hw) (desc_ne (by decide)) (argsL := [(.int (0 : Int32)), (.int (1 : Int32)), (.double d1)]) (rest := [(.double (4607182418800017408 : UInt64))]) (rmE0 l Z a0 hw _ (0 : Int32) (1 : Int32) d1 (by decide)) 2 (by decide) (by decide) e0 (pc := 6) (Ls := #[.val (.ref a1), .val (.double d1), .second]) (st := [(.double d1), (.int (1 : Int32)), (.int (0 : Int32)), (.double (4607182418800017408 : UInt64))]) (by rw [hml]; rfl) pd_0 rfl rfl (Nat.le_of_eq rfl) (hb hby d2_6) (by decide) (by decide) ?_
  intro v2 T2 X2 e2 hv2
  subst hv2
  show Gl p e below _ (T2.setTop (mkF m 9 #[.val (.ref a1), .val (.double d1), .second] [(.double (4607182418800017408 : UInt64)), (.double (4607182418800017408 : UInt64))]))
  refine Gl.of (fun _ kq_ => XS.dcmpS X2.here hx rfl (v := (0 : Int32)) (hb hby d2_9) rfl (dcmpV_self own_n1 .l) kq_) ?_
  show Gl p e below _ (T2.setTop (mkF m 10 #[.val (.ref a1), .val (.double d1), .second] [(.int (0 : Int32))]))
  refine Gl.of (fun _ kq_ => XS.ifNo X2.here hx rfl (hb hby d2_10) rfl ((if0 _ _).trans (teq (by decide : (0 : Int32) = (0 : Int32))).2) kq_) ?_
  show Gl p e below _ (T2.setTop (mkF m 13 #[.val (.ref a1), .val (.double d1), .second] []))
  refine Gl.of (fun _ kq_ => XS.aloadN X2.here hx rfl (hb hby d2_13) rfl rfl kq_) ?_
  show Gl p e below _ (T2.setTop (mkF m 14 #[.val (.ref a1), .val (.double d1), .second] [(.ref a1)]))
  refine Gl.of (fun _ kq_ => XS.iconst X2.here hx rfl (hb hby d2_14) kq_) ?_
  show Gl p e below _ (T2.setTop (mkF m 15 #[.val (.ref a1), .val (.double d1), .second] [(.int (1 : Int32)), (.ref a1)]))
  obtain ⟨zcl3, zAr3, zq3, zS3, zM3, zH3, zG3⟩ := id V1
  refine Gl.of (fun _ kq_ => X2.daload hx (j := (1 : Int32)) (v := (.double d1)) (by rw [e2]; exact (zAr3).1) (State.isArrayOf_alike hZ.alike (zAr3).2.1) (zAr3).2.2 (inb_of zS3 ⟨by decide, by decide⟩) (zH3 1 (by rw [zS3]; decide)) (g := (mkF m 15 #[.val (.ref a1), .val (.double d1), .second] [(.int (1 : Int32)), (.ref a1)])) rfl rfl (hb hby d2_15) _ kq_) ?_
  show Gl p e below _ (T2.setTop (mkF m 16 #[.val (.ref a1), .val (.double d1), .second] [(.double d1)]))
  refine Gl.of (fun _ kq_ => XS.iconst X2.here hx rfl (hb hby d2_16) kq_) ?_
  show Gl p e below _ (T2.setTop (mkF m 17 #[.val (.ref a1), .val (.double d1), .second] [(.int (0 : Int32)), (.double d1)]))
  refine Gl.of (fun _ kq_ => XS.iconst X2.here hx rfl (hb hby d2_17) kq_) ?_
  show Gl p e below _ (T2.setTop (mkF m 18 #[.val (.ref a1), .val (.double d1), .second] [(.int (2 : Int32)), (.int (0 : Int32)), (.double d1)]))
  refine Gl.of (fun _ kq_ => XS.dloadN X2.here hx rfl (hb hby d2_18) rfl kq_) ?_
  show Gl p e below _ (T2.setTop (mkF m 19 #[.val (.ref a1), .val (.double d1), .second] [(.double d1), (.int (2 : Int32)), (.int (0 : Int32)), (.double d1)]))
  refine Gl.callS0 X2 hx hZ (y := (⟨"com/example/pathstone/pathstone/SubstitutionModelKappaExchangeabilitiesPinLaw", "expected", "(IID)D"⟩ : MethodName)) hown (w9 hw) (w10 hw) (w7 hw) (w11 hw) (desc_ne (by decide)) (argsL := [(.int (0 : Int32)), (.int (2 : Int32)), (.double d1)]) (rest := [(.double d1)]) (rmE1 l Z a0 hw _ (0 : Int32) (2 : Int32) d1 (by decide)) 2 (by decide) (by decide) e2 (pc := 19) (Ls := #[.val (.ref a1), .val (.double d1), .second]) (st := [(.double d1), (.int (2 : Int32)), (.int (0 : Int32)), (.double d1)]) (by rw [hml]; rfl) pd_0 rfl rfl (Nat.le_of_eq rfl) (hb hby d2_19) (by decide) (by decide) ?_
  intro v4 T4 X4 e4 hv4
  subst hv4
  show Gl p e below _ (T4.setTop (mkF m 22 #[.val (.ref a1), .val (.double d1), .second] [(.double d1), (.double d1)]))
  refine Gl.of (fun _ kq_ => XS.dcmpS X4.here hx rfl (v := (0 : Int32)) (hb hby d2_22) rfl (dcmpV_self hd .l) kq_) ?_
  show Gl p e below _ (T4.setTop (mkF m 23 #[.val (.ref a1), .val (.double d1), .second] [(.int (0 : Int32))]))
  refine Gl.of (fun _ kq_ => XS.ifNo X4.here hx rfl (hb hby d2_23) rfl ((if0 _ _).trans (teq (by decide : (0 : Int32) = (0 : Int32))).2) kq_) ?_
  show Gl p e below _ (T4.setTop (mkF m 26 #[.val (.ref a1), .val (.double d1), .second] []))
  refine Gl.of (fun _ kq_ => XS.aloadN X4.here hx rfl (hb hby d2_26) rfl rfl kq_) ?_
  show Gl p e below _ (T4.setTop (mkF m 27 #[.val (.ref a1), .val (.double d1), .second] [(.ref a1)]))
  refine Gl.of (fun _ kq_ => XS.iconst X4.here hx rfl (hb hby d2_27) kq_) ?_
  show Gl p e below _ (T4.setTop (mkF m 28 #[.val (.ref a1), .val (.double d1), .second] [(.int (2 : Int32)), (.ref a1)]))
  obtain ⟨zcl5, zAr5, zq5, zS5, zM5, zH5, zG5⟩ := id V1
  refine Gl.of (fun _ kq_ => X4.daload hx (j := (2 : Int32)) (v := (.double (4607182418800017408 : UInt64))) (by rw [e4]; exact (zAr5).1) (State.isArrayOf_alike hZ.alike (zAr5).2.1) (zAr5).2.2 (inb_of zS5 ⟨by decide, by decide⟩) (zH5 2 (by rw [zS5]; decide)) (g := (mkF m 28 #[.val (.ref a1), .val (.double d1), .second] [(.int (2 : Int32)), (.ref a1)])) rfl rfl (hb hby d2_28) _ kq_) ?_
  show Gl p e below _ (T4.setTop (mkF m 29 #[.val (.ref a1), .val (.double d1), .second] [(.double (4607182418800017408 : UInt64))]))
  refine Gl.of (fun _ kq_ => XS.iconst X4.here hx rfl (hb hby d2_29) kq_) ?_
  show Gl p e below _ (T4.setTop (mkF m 30 #[.val (.ref a1), .val (.double d1), .second] [(.int (0 : Int32)), (.double (4607182418800017408 : UInt64))]))
  refine Gl.of (fun _ kq_ => XS.iconst X4.here hx rfl (hb hby d2_30) kq_) ?_
  show Gl p e below _ (T4.setTop (mkF m 31 #[.val (.ref a1), .val (.double d1), .second] [(.int (3 : Int32)), (.int (0 : Int32)), (.double (4607182418800017408 : UInt64))]))
  refine Gl.of (fun _ kq_ => XS.dloadN X4.here hx rfl (hb hby d2_31) rfl kq_) ?_
  show Gl p e below _ (T4.setTop (mkF m 32 #[.val (.ref a1), .val (.double d1), .second] [(.double d1), (.int (3 : Int32)), (.int (0 : Int32)), (.double (4607182418800017408 : UInt64))]))
  refine Gl.callS0 X4 hx hZ (y := (⟨"com/example/pathstone/pathstone/SubstitutionModelKappaExchangeabilitiesPinLaw", "expected", "(IID)D"⟩ : MethodName)) hown (w9 hw) (w10 hw) (w7 hw) (w11 hw) (desc_ne (by decide)) (argsL := [(.int (0 : Int32)), (.int (3 : Int32)), (.double d1)]) (rest := [(.double (4607182418800017408 : UInt64))]) (rmE0 l Z a0 hw _ (0 : Int32) (3 : Int32) d1 (by decide)) 2 (by decide) (by decide) e4 (pc := 32) (Ls := #[.val (.ref a1), .val (.double d1), .second]) (st := [(.double d1), (.int (3 : Int32)), (.int (0 : Int32)), (.double (4607182418800017408 : UInt64))]) (by rw [hml]; rfl) pd_0 rfl rfl (Nat.le_of_eq rfl) (hb hby d2_32) (by decide) (by decide) ?_
  intro v6 T6 X6 e6 hv6
  subst hv6
  show Gl p e below _ (T6.setTop (mkF m 35 #[.val (.ref a1), .val (.double d1), .second] [(.double (4607182418800017408 : UInt64)), (.double (4607182418800017408 : UInt64))]))
  refine Gl.of (fun _ kq_ => XS.dcmpS X6.here hx rfl (v := (0 : Int32)) (hb hby d2_35) rfl (dcmpV_self own_n1 .l) kq_) ?_
  show Gl p e below _ (T6.setTop (mkF m 36 #[.val (.ref a1), .val (.double d1), .second] [(.int (0 : Int32))]))
  refine Gl.of (fun _ kq_ => XS.ifNo X6.here hx rfl (hb hby d2_36) rfl ((if0 _ _).trans (teq (by decide : (0 : Int32) = (0 : Int32))).2) kq_) ?_
  show Gl p e below _ (T6.setTop (mkF m 39 #[.val (.ref a1), .val (.double d1), .second] []))
  refine Gl.of (fun _ kq_ => XS.aloadN X6.here hx rfl (hb hby d2_39) rfl rfl kq_) ?_
  show Gl p e below _ (T6.setTop (mkF m 40 #[.val (.ref a1), .val (.double d1), .second] [(.ref a1)]))
  refine Gl.of (fun _ kq_ => XS.iconst X6.here hx rfl (hb hby d2_40) kq_) ?_
  show Gl p e below _ (T6.setTop (mkF m 41 #[.val (.ref a1), .val (.double d1), .second] [(.int (3 : Int32)), (.ref a1)]))
  obtain ⟨zcl7, zAr7, zq7, zS7, zM7, zH7, zG7⟩ := id V1
  refine Gl.of (fun _ kq_ => X6.daload hx (j := (3 : Int32)) (v := (.double (4607182418800017408 : UInt64))) (by rw [e6]; exact (zAr7).1) (State.isArrayOf_alike hZ.alike (zAr7).2.1) (zAr7).2.2 (inb_of zS7 ⟨by decide, by decide⟩) (zH7 3 (by rw [zS7]; decide)) (g := (mkF m 41 #[.val (.ref a1), .val (.double d1), .second] [(.int (3 : Int32)), (.ref a1)])) rfl rfl (hb hby d2_41) _ kq_) ?_
  show Gl p e below _ (T6.setTop (mkF m 42 #[.val (.ref a1), .val (.double d1), .second] [(.double (4607182418800017408 : UInt64))]))
  refine Gl.of (fun _ kq_ => XS.iconst X6.here hx rfl (hb hby d2_42) kq_) ?_
  show Gl p e below _ (T6.setTop (mkF m 43 #[.val (.ref a1), .val (.double d1), .second] [(.int (1 : Int32)), (.double (4607182418800017408 : UInt64))]))
  refine Gl.of (fun _ kq_ => XS.iconst X6.here hx rfl (hb hby d2_43) kq_) ?_
  show Gl p e below _ (T6.setTop (mkF m 44 #[.val (.ref a1), .val (.double d1), .second] [(.int (2 : Int32)), (.int (1 : Int32)), (.double (4607182418800017408 : UInt64))]))
  refine Gl.of (fun _ kq_ => XS.dloadN X6.here hx rfl (hb hby d2_44) rfl kq_) ?_
  show Gl p e below _ (T6.setTop (mkF m 45 #[.val (.ref a1), .val (.double d1), .second] [(.double d1), (.int (2 : Int32)), (.int (1 : Int32)), (.double (4607182418800017408 : UInt64))]))
  refine Gl.callS0 X6 hx hZ (y := (⟨"com/example/pathstone/pathstone/SubstitutionModelKappaExchangeabilitiesPinLaw", "expected", "(IID)D"⟩ : MethodName)) hown (w9 hw) (w10 hw) (w7 hw) (w11 hw) (desc_ne (by decide)) (argsL := [(.int (1 : Int32)), (.int (2 : Int32)), (.double d1)]) (rest := [(.double (4607182418800017408 : UInt64))]) (rmE0 l Z a0 hw _ (1 : Int32) (2 : Int32) d1 (by decide)) 2 (by decide) (by decide) e6 (pc := 45) (Ls := #[.val (.ref a1), .val (.double d1), .second]) (st := [(.double d1), (.int (2 : Int32)), (.int (1 : Int32)), (.double (4607182418800017408 : UInt64))]) (by rw [hml]; rfl) pd_0 rfl rfl (Nat.le_of_eq rfl) (hb hby d2_45) (by decide) (by decide) ?_
  intro v8 T8 X8 e8 hv8
  subst hv8
  show Gl p e below _ (T8.setTop (mkF m 48 #[.val (.ref a1), .val (.double d1), .second] [(.double (4607182418800017408 : UInt64)), (.double (4607182418800017408 : UInt64))]))
  refine Gl.of (fun _ kq_ => XS.dcmpS X8.here hx rfl (v := (0 : Int32)) (hb hby d2_48) rfl (dcmpV_self own_n1 .l) kq_) ?_
  show Gl p e below _ (T8.setTop (mkF m 49 #[.val (.ref a1), .val (.double d1), .second] [(.int (0 : Int32))]))
  refine Gl.of (fun _ kq_ => XS.ifNo X8.here hx rfl (hb hby d2_49) rfl ((if0 _ _).trans (teq (by decide : (0 : Int32) = (0 : Int32))).2) kq_) ?_
  show Gl p e below _ (T8.setTop (mkF m 52 #[.val (.ref a1), .val (.double d1), .second] []))
  refine Gl.of (fun _ kq_ => XS.aloadN X8.here hx rfl (hb hby d2_52) rfl rfl kq_) ?_
  show Gl p e below _ (T8.setTop (mkF m 53 #[.val (.ref a1), .val (.double d1), .second] [(.ref a1)]))
  refine Gl.of (fun _ kq_ => XS.iconst X8.here hx rfl (hb hby d2_53) kq_) ?_
  show Gl p e below _ (T8.setTop (mkF m 54 #[.val (.ref a1), .val (.double d1), .second] [(.int (4 : Int32)), (.ref a1)]))
  obtain ⟨zcl9, zAr9, zq9, zS9, zM9, zH9, zG9⟩ := id V1
  refine Gl.of (fun _ kq_ => X8.daload hx (j := (4 : Int32)) (v := (.double d1)) (by rw [e8]; exact (zAr9).1) (State.isArrayOf_alike hZ.alike (zAr9).2.1) (zAr9).2.2 (inb_of zS9 ⟨by decide, by decide⟩) (zH9 4 (by rw [zS9]; decide)) (g := (mkF m 54 #[.val (.ref a1), .val (.double d1), .second] [(.int (4 : Int32)), (.ref a1)])) rfl rfl (hb hby d2_54) _ kq_) ?_
  show Gl p e below _ (T8.setTop (mkF m 55 #[.val (.ref a1), .val (.double d1), .second] [(.double d1)]))
  refine Gl.of (fun _ kq_ => XS.iconst X8.here hx rfl (hb hby d2_55) kq_) ?_
  show Gl p e below _ (T8.setTop (mkF m 56 #[.val (.ref a1), .val (.double d1), .second] [(.int (1 : Int32)), (.double d1)]))
  refine Gl.of (fun _ kq_ => XS.iconst X8.here hx rfl (hb hby d2_56) kq_) ?_
  show Gl p e below _ (T8.setTop (mkF m 57 #[.val (.ref a1), .val (.double d1), .second] [(.int (3 : Int32)), (.int (1 : Int32)), (.double d1)]))
  refine Gl.of (fun _ kq_ => XS.dloadN X8.here hx rfl (hb hby d2_57) rfl kq_) ?_
  show Gl p e below _ (T8.setTop (mkF m 58 #[.val (.ref a1), .val (.double d1), .second] [(.double d1), (.int (3 : Int32)), (.int (1 : Int32)), (.double d1)]))
  refine Gl.callS0 X8 hx hZ (y := (⟨"com/example/pathstone/pathstone/SubstitutionModelKappaExchangeabilitiesPinLaw", "expected", "(IID)D"⟩ : MethodName)) hown (w9 hw) (w10 hw) (w7 hw) (w11 hw) (desc_ne (by decide)) (argsL := [(.int (1 : Int32)), (.int (3 : Int32)), (.double d1)]) (rest := [(.double d1)]) (rmE1 l Z a0 hw _ (1 : Int32) (3 : Int32) d1 (by decide)) 2 (by decide) (by decide) e8 (pc := 58) (Ls := #[.val (.ref a1), .val (.double d1), .second]) (st := [(.double d1), (.int (3 : Int32)), (.int (1 : Int32)), (.double d1)]) (by rw [hml]; rfl) pd_0 rfl rfl (Nat.le_of_eq rfl) (hb hby d2_58) (by decide) (by decide) ?_
  intro v10 T10 X10 e10 hv10
  subst hv10
  show Gl p e below _ (T10.setTop (mkF m 61 #[.val (.ref a1), .val (.double d1), .second] [(.double d1), (.double d1)]))
  refine Gl.of (fun _ kq_ => XS.dcmpS X10.here hx rfl (v := (0 : Int32)) (hb hby d2_61) rfl (dcmpV_self hd .l) kq_) ?_
  show Gl p e below _ (T10.setTop (mkF m 62 #[.val (.ref a1), .val (.double d1), .second] [(.int (0 : Int32))]))
  refine Gl.of (fun _ kq_ => XS.ifNo X10.here hx rfl (hb hby d2_62) rfl ((if0 _ _).trans (teq (by decide : (0 : Int32) = (0 : Int32))).2) kq_) ?_
  show Gl p e below _ (T10.setTop (mkF m 65 #[.val (.ref a1), .val (.double d1), .second] []))
  refine Gl.of (fun _ kq_ => XS.aloadN X10.here hx rfl (hb hby d2_65) rfl rfl kq_) ?_
  show Gl p e below _ (T10.setTop (mkF m 66 #[.val (.ref a1), .val (.double d1), .second] [(.ref a1)]))
  refine Gl.of (fun _ kq_ => XS.iconst X10.here hx rfl (hb hby d2_66) kq_) ?_
  show Gl p e below _ (T10.setTop (mkF m 67 #[.val (.ref a1), .val (.double d1), .second] [(.int (5 : Int32)), (.ref a1)]))
  obtain ⟨zcl11, zAr11, zq11, zS11, zM11, zH11, zG11⟩ := id V1
  refine Gl.of (fun _ kq_ => X10.daload hx (j := (5 : Int32)) (v := (.double (4607182418800017408 : UInt64))) (by rw [e10]; exact (zAr11).1) (State.isArrayOf_alike hZ.alike (zAr11).2.1) (zAr11).2.2 (inb_of zS11 ⟨by decide, by decide⟩) (zH11 5 (by rw [zS11]; decide)) (g := (mkF m 67 #[.val (.ref a1), .val (.double d1), .second] [(.int (5 : Int32)), (.ref a1)])) rfl rfl (hb hby d2_67) _ kq_) ?_
  show Gl p e below _ (T10.setTop (mkF m 68 #[.val (.ref a1), .val (.double d1), .second] [(.double (4607182418800017408 : UInt64))]))
  refine Gl.of (fun _ kq_ => XS.iconst X10.here hx rfl (hb hby d2_68) kq_) ?_
  show Gl p e below _ (T10.setTop (mkF m 69 #[.val (.ref a1), .val (.double d1), .second] [(.int (2 : Int32)), (.double (4607182418800017408 : UInt64))]))
  refine Gl.of (fun _ kq_ => XS.iconst X10.here hx rfl (hb hby d2_69) kq_) ?_
  show Gl p e below _ (T10.setTop (mkF m 70 #[.val (.ref a1), .val (.double d1), .second] [(.int (3 : Int32)), (.int (2 : Int32)), (.double (4607182418800017408 : UInt64))]))
  refine Gl.of (fun _ kq_ => XS.dloadN X10.here hx rfl (hb hby d2_70) rfl kq_) ?_
  show Gl p e below _ (T10.setTop (mkF m 71 #[.val (.ref a1), .val (.double d1), .second] [(.double d1), (.int (3 : Int32)), (.int (2 : Int32)), (.double (4607182418800017408 : UInt64))]))
  refine Gl.callS0 X10 hx hZ (y := (⟨"com/example/pathstone/pathstone/SubstitutionModelKappaExchangeabilitiesPinLaw", "expected", "(IID)D"⟩ : MethodName)) hown (w9 hw) (w10 hw) (w7 hw) (w11 hw) (desc_ne (by decide)) (argsL := [(.int (2 : Int32)), (.int (3 : Int32)), (.double d1)]) (rest := [(.double (4607182418800017408 : UInt64))]) (rmE0 l Z a0 hw _ (2 : Int32) (3 : Int32) d1 (by decide)) 2 (by decide) (by decide) e10 (pc := 71) (Ls := #[.val (.ref a1), .val (.double d1), .second]) (st := [(.double d1), (.int (3 : Int32)), (.int (2 : Int32)), (.double (4607182418800017408 : UInt64))]) (by rw [hml]; rfl) pd_0 rfl rfl (Nat.le_of_eq rfl) (hb hby d2_71) (by decide) (by decide) ?_
  intro v12 T12 X12 e12 hv12
  subst hv12
  show Gl p e below _ (T12.setTop (mkF m 74 #[.val (.ref a1), .val (.double d1), .second] [(.double (4607182418800017408 : UInt64)), (.double (4607182418800017408 : UInt64))]))
  refine Gl.of (fun _ kq_ => XS.dcmpS X12.here hx rfl (v := (0 : Int32)) (hb hby d2_74) rfl (dcmpV_self own_n1 .l) kq_) ?_
  show Gl p e below _ (T12.setTop (mkF m 75 #[.val (.ref a1), .val (.double d1), .second] [(.int (0 : Int32))]))
  refine Gl.of (fun _ kq_ => XS.ifNo X12.here hx rfl (hb hby d2_75) rfl ((if0 _ _).trans (teq (by decide : (0 : Int32) = (0 : Int32))).2) kq_) ?_
  show Gl p e below _ (T12.setTop (mkF m 78 #[.val (.ref a1), .val (.double d1), .second] []))
  refine Gl.of (fun _ kq_ => XS.iconst X12.here hx rfl (hb hby d2_78) kq_) ?_
  show Gl p e below _ (T12.setTop (mkF m 79 #[.val (.ref a1), .val (.double d1), .second] [(.int (1 : Int32))]))
  refine Gl.of (fun _ kq_ => XS.goto X12.here hx rfl (pc0 := 79) (pc' := 83) rfl (hb hby d2_79) (by decide) (by decide) kq_) ?_
  show Gl p e below _ (T12.setTop (mkF m 83 #[.val (.ref a1), .val (.double d1), .second] [(.int (1 : Int32))]))
  exact Gl.retN X12 hx hlk hret (by simp) (hb hby d2_83) e12 (⟨rfl, rfl, rfl⟩) (by decide) (by decide)
theorem ef_5 (m : MethodId) (x0 : Int32) (x1 : Int32) : entryFrame m #[(.int x0), (.int x1)] maxLocals = mkF m 0 #[.val (.int x0), .val (.int x1), .unset, .unset, .unset, .unset, .unset, .unset, .unset] [] := by first | (simp [entryFrame, mkF, argsToLocals, Value.category, maxLocals]; done) | rfl
theorem pd_1 : parseMethodDescriptor "(D)[D" = some ⟨[.double], some (.array .double)⟩ := by decide +kernel
theorem w0 {Z : State} {a0 : Array Value} (hw : ∀ d ∈ tables_1, d.before a0 Z = true) : (Jvm.Cond.methodLink "com/example/pathstone/pathstone/SubstitutionModelKappaExchangeabilitiesPinLaw" (7 : Nat) ({ cls := "com/example/pathstone/pathstone/SubstitutionModel", name := "kappaExchangeabilities", desc := "(D)[D" } : Jvm.MethodName)).before a0 Z = true := hw _ (List.mem_of_getElem? (i := 0) rfl)
theorem w1 {Z : State} {a0 : Array Value} (hw : ∀ d ∈ tables_1, d.before a0 Z = true) : (Jvm.Cond.static ({ cls := "com/example/pathstone/pathstone/SubstitutionModel", name := "kappaExchangeabilities", desc := "(D)[D" } : Jvm.MethodName)).before a0 Z = true := hw _ (List.mem_of_getElem? (i := 1) rfl)
theorem w2 {Z : State} {a0 : Array Value} (hw : ∀ d ∈ tables_1, d.before a0 Z = true) : (Jvm.Cond.initialized "com/example/pathstone/pathstone/SubstitutionModel").before a0 Z = true := hw _ (List.mem_of_getElem? (i := 2) rfl)
theorem w3 {Z : State} {a0 : Array Value} (hw : ∀ d ∈ tables_1, d.before a0 Z = true) : (Jvm.Cond.code ({ cls := "com/example/pathstone/pathstone/SubstitutionModel", name := "kappaExchangeabilities", desc := "(D)[D" } : Jvm.MethodName) prog_25_method_2_code (2 : Nat) (Option.some (Jvm.ClassFile.FieldType.array Jvm.ClassFile.FieldType.double))).before a0 Z = true := hw _ (List.mem_of_getElem? (i := 3) rfl)
theorem pd_2 : parseMethodDescriptor "([DD)Z" = some ⟨[(.array .double), .double], some .boolean⟩ := by decide +kernel
theorem w5 {Z : State} {a0 : Array Value} (hw : ∀ d ∈ tables_1, d.before a0 Z = true) : (Jvm.Cond.methodLink "com/example/pathstone/pathstone/SubstitutionModelKappaExchangeabilitiesPinLaw" (13 : Nat) ({ cls := "com/example/pathstone/pathstone/SubstitutionModelKappaExchangeabilitiesPinLaw", name := "matches", desc := "([DD)Z" } : Jvm.MethodName)).before a0 Z = true := hw _ (List.mem_of_getElem? (i := 5) rfl)
theorem w6 {Z : State} {a0 : Array Value} (hw : ∀ d ∈ tables_1, d.before a0 Z = true) : (Jvm.Cond.static ({ cls := "com/example/pathstone/pathstone/SubstitutionModelKappaExchangeabilitiesPinLaw", name := "matches", desc := "([DD)Z" } : Jvm.MethodName)).before a0 Z = true := hw _ (List.mem_of_getElem? (i := 6) rfl)
theorem w8 {Z : State} {a0 : Array Value} (hw : ∀ d ∈ tables_1, d.before a0 Z = true) : (Jvm.Cond.code ({ cls := "com/example/pathstone/pathstone/SubstitutionModelKappaExchangeabilitiesPinLaw", name := "matches", desc := "([DD)Z" } : Jvm.MethodName) method_3_code (3 : Nat) (Option.some Jvm.ClassFile.FieldType.boolean)).before a0 Z = true := hw _ (List.mem_of_getElem? (i := 8) rfl)
theorem w12 {Z : State} {a0 : Array Value} (hw : ∀ d ∈ tables_1, d.before a0 Z = true) : (Jvm.Cond.constantDouble "com/example/pathstone/pathstone/SubstitutionModelKappaExchangeabilitiesPinLaw" (19 : Nat) (13830554455654793216 : UInt64)).before a0 Z = true := hw _ (List.mem_of_getElem? (i := 12) rfl)
set_option maxRecDepth 65536 in
set_option maxHeartbeats 40000000 in
theorem rm0 (l : Launch) (Z : State) (a0 : Array Value) (hw : ∀ d ∈ tables_1, d.before a0 Z = true) (ws : List Jvm.Cond) (h0 : Heap) (p1 p2 : Int32) (n0 : Nat) (O0 : Old Z n0 h0) : Con l Z x code maxLocals ret ws room_1 16 128 #[(.int p1), (.int p2)] h0 (fun v h L => v = some (.int 1) ∧ Fr n0 L) := by
  refine Con.intro (plainFor_of_name pn_0) ?_
  intro p e s m below meth c s₁ X0 hx hby hml hZ hown hnm hret hlk e0 hs0
  refine Gl.of (fun _ kq_ => castTop (ef_5 m p1 p2) kq_) ?_
  show Gl p e below _ (s₁.setTop (mkF m 0 #[.val (.int p1), .val (.int p2), .unset, .unset, .unset, .unset, .unset, .unset, .unset] []))
  refine Gl.of (fun _ kq_ => XS.iloadN X0.here hx rfl (hb hby at_0) rfl kq_) ?_
  show Gl p e below _ (s₁.setTop (mkF m 1 #[.val (.int p1), .val (.int p2), .unset, .unset, .unset, .unset, .unset, .unset, .unset] [(.int p1)]))
  refine Gl.of (fun _ kq_ => XS.sipush X0.here hx rfl (hb hby at_1) kq_) ?_
  show Gl p e below _ (s₁.setTop (mkF m 4 #[.val (.int p1), .val (.int p2), .unset, .unset, .unset, .unset, .unset, .unset, .unset] [(.int (4095 : Int32)), (.int p1)]))
  refine Gl.of (fun _ kq_ => XS.iand X0.here hx rfl (hb hby at_4) rfl kq_) ?_
  show Gl p e below _ (s₁.setTop (mkF m 5 #[.val (.int p1), .val (.int p2), .unset, .unset, .unset, .unset, .unset, .unset, .unset] [(.int (p1 &&& (4095 : Int32)))]))
  refine Gl.of (fun _ kq_ => XS.i2dS X0.here hx rfl (hb hby at_5) rfl rfl kq_) ?_
  show Gl p e below _ (s₁.setTop (mkF m 6 #[.val (.int p1), .val (.int p2), .unset, .unset, .unset, .unset, .unset, .unset, .unset] [(.double (FP.i2d (p1 &&& (4095 : Int32))))]))
  refine Gl.of (fun _ kq_ => XS.dstoreN X0.here hx rfl (hb hby at_6) rfl (l' := #[.val (.int p1), .val (.int p2), .val (.double (FP.i2d (p1 &&& (4095 : Int32)))), .second, .unset, .unset, .unset, .unset, .unset]) rfl kq_) ?_
  show Gl p e below _ (s₁.setTop (mkF m 7 #[.val (.int p1), .val (.int p2), .val (.double (FP.i2d (p1 &&& (4095 : Int32)))), .second, .unset, .unset, .unset, .unset, .unset] []))
  refine Gl.of (fun _ kq_ => XS.iloadN X0.here hx rfl (hb hby at_7) rfl kq_) ?_
  show Gl p e below _ (s₁.setTop (mkF m 8 #[.val (.int p1), .val (.int p2), .val (.double (FP.i2d (p1 &&& (4095 : Int32)))), .second, .unset, .unset, .unset, .unset, .unset] [(.int p2)]))
  refine Gl.of (fun _ kq_ => XS.sipush X0.here hx rfl (hb hby at_8) kq_) ?_
  show Gl p e below _ (s₁.setTop (mkF m 11 #[.val (.int p1), .val (.int p2), .val (.double (FP.i2d (p1 &&& (4095 : Int32)))), .second, .unset, .unset, .unset, .unset, .unset] [(.int (4095 : Int32)), (.int p2)]))
  refine Gl.of (fun _ kq_ => XS.iand X0.here hx rfl (hb hby at_11) rfl kq_) ?_
  show Gl p e below _ (s₁.setTop (mkF m 12 #[.val (.int p1), .val (.int p2), .val (.double (FP.i2d (p1 &&& (4095 : Int32)))), .second, .unset, .unset, .unset, .unset, .unset] [(.int (p2 &&& (4095 : Int32)))]))
  refine Gl.of (fun _ kq_ => XS.i2dS X0.here hx rfl (hb hby at_12) rfl rfl kq_) ?_
  show Gl p e below _ (s₁.setTop (mkF m 13 #[.val (.int p1), .val (.int p2), .val (.double (FP.i2d (p1 &&& (4095 : Int32)))), .second, .unset, .unset, .unset, .unset, .unset] [(.double (FP.i2d (p2 &&& (4095 : Int32))))]))
  refine Gl.of (fun _ kq_ => XS.dstore X0.here hx rfl (hb hby at_13) rfl (l' := #[.val (.int p1), .val (.int p2), .val (.double (FP.i2d (p1 &&& (4095 : Int32)))), .second, .val (.double (FP.i2d (p2 &&& (4095 : Int32)))), .second, .unset, .unset, .unset]) rfl kq_) ?_
  show Gl p e below _ (s₁.setTop (mkF m 15 #[.val (.int p1), .val (.int p2), .val (.double (FP.i2d (p1 &&& (4095 : Int32)))), .second, .val (.double (FP.i2d (p2 &&& (4095 : Int32)))), .second, .unset, .unset, .unset] []))
  refine Gl.of (fun _ kq_ => XS.dloadN X0.here hx rfl (hb hby at_15) rfl kq_) ?_
  show Gl p e below _ (s₁.setTop (mkF m 16 #[.val (.int p1), .val (.int p2), .val (.double (FP.i2d (p1 &&& (4095 : Int32)))), .second, .val (.double (FP.i2d (p2 &&& (4095 : Int32)))), .second, .unset, .unset, .unset] [(.double (FP.i2d (p1 &&& (4095 : Int32))))]))
  refine Gl.callS X0 hx hZ (y := (⟨"com/example/pathstone/pathstone/SubstitutionModel", "kappaExchangeabilities", "(D)[D"⟩ : MethodName)) hown (w0 hw) (w1 hw) (w2 hw) (w3 hw) (desc_ne (by decide)) (rm := { frames := 0, cells := 1, slots := 6, locals := 0 }) (argsL := [(.double (FP.i2d (p1 &&& (4095 : Int32))))]) (rest := []) (rm1 l Z a0 hw _ (FP.i2d (p1 &&& (4095 : Int32))) n0 (O0.1 ▸ O0.2.1)) 0 (by decide) (by decide) (by decide) (by decide) e0 (pc := 16) (Ls := #[.val (.int p1), .val (.int p2), .val (.double (FP.i2d (p1 &&& (4095 : Int32)))), .second, .val (.double (FP.i2d (p2 &&& (4095 : Int32)))), .second, .unset, .unset, .unset]) (st := [(.double (FP.i2d (p1 &&& (4095 : Int32))))]) (by rw [hml]; rfl) pd_1 rfl rfl (Nat.le_of_eq rfl) (hb hby at_16) ?_
  intro v1 T1 L1 X1 hQ1
  obtain ⟨b1, k1, rfl, V1, Kq1, Nq1, Gb1, Hb1⟩ := hQ1
  have N1 := Fr.app (Fr.nil n0) Nq1
  have O1 := O0.keep Kq1 all0
  show Gl p e below _ (T1.setTop (mkF m 19 #[.val (.int p1), .val (.int p2), .val (.double (FP.i2d (p1 &&& (4095 : Int32)))), .second, .val (.double (FP.i2d (p2 &&& (4095 : Int32)))), .second, .unset, .unset, .unset] [(.ref b1)]))
  refine Gl.of (fun _ kq_ => XS.astore X1.here hx rfl (hb hby at_19) rfl rfl (l' := #[.val (.int p1), .val (.int p2), .val (.double (FP.i2d (p1 &&& (4095 : Int32)))), .second, .val (.double (FP.i2d (p2 &&& (4095 : Int32)))), .second, .val (.ref b1), .unset, .unset]) rfl kq_) ?_
  show Gl p e below _ (T1.setTop (mkF m 21 #[.val (.int p1), .val (.int p2), .val (.double (FP.i2d (p1 &&& (4095 : Int32)))), .second, .val (.double (FP.i2d (p2 &&& (4095 : Int32)))), .second, .val (.ref b1), .unset, .unset] []))
  refine Gl.of (fun _ kq_ => XS.aload X1.here hx rfl (hb hby at_21) rfl rfl kq_) ?_
  show Gl p e below _ (T1.setTop (mkF m 23 #[.val (.int p1), .val (.int p2), .val (.double (FP.i2d (p1 &&& (4095 : Int32)))), .second, .val (.double (FP.i2d (p2 &&& (4095 : Int32)))), .second, .val (.ref b1), .unset, .unset] [(.ref b1)]))
  refine Gl.of (fun _ kq_ => XS.ifnullNo X1.here hx rfl (hb hby at_23) rfl kq_) ?_
  show Gl p e below _ (T1.setTop (mkF m 26 #[.val (.int p1), .val (.int p2), .val (.double (FP.i2d (p1 &&& (4095 : Int32)))), .second, .val (.double (FP.i2d (p2 &&& (4095 : Int32)))), .second, .val (.ref b1), .unset, .unset] []))
  refine Gl.of (fun _ kq_ => XS.aload X1.here hx rfl (hb hby at_26) rfl rfl kq_) ?_
  show Gl p e below _ (T1.setTop (mkF m 28 #[.val (.int p1), .val (.int p2), .val (.double (FP.i2d (p1 &&& (4095 : Int32)))), .second, .val (.double (FP.i2d (p2 &&& (4095 : Int32)))), .second, .val (.ref b1), .unset, .unset] [(.ref b1)]))
  obtain ⟨zcl2, zAr2, zq2, zS2, zM2, zH2, zG2⟩ := id V1
  refine Gl.of (fun _ kq_ => X1.arraylength hx (zAr2).1 (State.isArrayOf_alike hZ.alike (zAr2).2.1) (g := (mkF m 28 #[.val (.int p1), .val (.int p2), .val (.double (FP.i2d (p1 &&& (4095 : Int32)))), .second, .val (.double (FP.i2d (p2 &&& (4095 : Int32)))), .second, .val (.ref b1), .unset, .unset] [(.ref b1)])) rfl rfl (hb hby at_28) _ kq_) ?_
  rw [len_of zS2 (by decide)]
  show Gl p e below _ (T1.setTop (mkF m 29 #[.val (.int p1), .val (.int p2), .val (.double (FP.i2d (p1 &&& (4095 : Int32)))), .second, .val (.double (FP.i2d (p2 &&& (4095 : Int32)))), .second, .val (.ref b1), .unset, .unset] [(.int (6 : Int32))]))
  refine Gl.of (fun _ kq_ => XS.bipush X1.here hx rfl (hb hby at_29) kq_) ?_
  show Gl p e below _ (T1.setTop (mkF m 31 #[.val (.int p1), .val (.int p2), .val (.double (FP.i2d (p1 &&& (4095 : Int32)))), .second, .val (.double (FP.i2d (p2 &&& (4095 : Int32)))), .second, .val (.ref b1), .unset, .unset] [(.int (6 : Int32)), (.int (6 : Int32))]))
  refine Gl.of (fun _ kq_ => XS.icmpYes X1.here hx rfl (pc0 := 31) (pc' := 36) rfl (hb hby at_31) rfl (teq (by decide : (6 : Int32) = (6 : Int32))).1 (by decide) (by decide) kq_) ?_
  show Gl p e below _ (T1.setTop (mkF m 36 #[.val (.int p1), .val (.int p2), .val (.double (FP.i2d (p1 &&& (4095 : Int32)))), .second, .val (.double (FP.i2d (p2 &&& (4095 : Int32)))), .second, .val (.ref b1), .unset, .unset] []))
  refine Gl.of (fun _ kq_ => XS.aload X1.here hx rfl (hb hby at_36) rfl rfl kq_) ?_
  show Gl p e below _ (T1.setTop (mkF m 38 #[.val (.int p1), .val (.int p2), .val (.double (FP.i2d (p1 &&& (4095 : Int32)))), .second, .val (.double (FP.i2d (p2 &&& (4095 : Int32)))), .second, .val (.ref b1), .unset, .unset] [(.ref b1)]))
  refine Gl.of (fun _ kq_ => XS.dloadN X1.here hx rfl (hb hby at_38) rfl kq_) ?_
  show Gl p e below _ (T1.setTop (mkF m 39 #[.val (.int p1), .val (.int p2), .val (.double (FP.i2d (p1 &&& (4095 : Int32)))), .second, .val (.double (FP.i2d (p2 &&& (4095 : Int32)))), .second, .val (.ref b1), .unset, .unset] [(.double (FP.i2d (p1 &&& (4095 : Int32)))), (.ref b1)]))
  refine Gl.callS0 X1 hx hZ (y := (⟨"com/example/pathstone/pathstone/SubstitutionModelKappaExchangeabilitiesPinLaw", "matches", "([DD)Z"⟩ : MethodName)) hown (w5 hw) (w6 hw) (w7 hw) (w8 hw) (desc_ne (by decide)) (argsL := [(.ref b1), (.double (FP.i2d (p1 &&& (4095 : Int32))))]) (rest := []) (rm2 l Z a0 hw _ b1 (FP.i2d (p1 &&& (4095 : Int32))) k1 V1 (own_nd _)) 0 (by decide) (by decide) rfl (pc := 39) (Ls := #[.val (.int p1), .val (.int p2), .val (.double (FP.i2d (p1 &&& (4095 : Int32)))), .second, .val (.double (FP.i2d (p2 &&& (4095 : Int32)))), .second, .val (.ref b1), .unset, .unset]) (st := [(.double (FP.i2d (p1 &&& (4095 : Int32)))), (.ref b1)]) (by rw [hml]; rfl) pd_2 rfl rfl (Nat.le_of_eq rfl) (hb hby at_39) (by decide) (by decide) ?_
  intro v3 T3 X3 e3 hv3
  subst hv3
  show Gl p e below _ (T3.setTop (mkF m 42 #[.val (.int p1), .val (.int p2), .val (.double (FP.i2d (p1 &&& (4095 : Int32)))), .second, .val (.double (FP.i2d (p2 &&& (4095 : Int32)))), .second, .val (.ref b1), .unset, .unset] [(.int (1 : Int32))]))
  refine Gl.of (fun _ kq_ => XS.istore X3.here hx rfl (hb hby at_42) rfl (l' := #[.val (.int p1), .val (.int p2), .val (.double (FP.i2d (p1 &&& (4095 : Int32)))), .second, .val (.double (FP.i2d (p2 &&& (4095 : Int32)))), .second, .val (.ref b1), .val (.int (1 : Int32)), .unset]) rfl kq_) ?_
  show Gl p e below _ (T3.setTop (mkF m 44 #[.val (.int p1), .val (.int p2), .val (.double (FP.i2d (p1 &&& (4095 : Int32)))), .second, .val (.double (FP.i2d (p2 &&& (4095 : Int32)))), .second, .val (.ref b1), .val (.int (1 : Int32)), .unset] []))
  refine Gl.of (fun _ kq_ => XS.aload X3.here hx rfl (hb hby at_44) rfl rfl kq_) ?_
  show Gl p e below _ (T3.setTop (mkF m 46 #[.val (.int p1), .val (.int p2), .val (.double (FP.i2d (p1 &&& (4095 : Int32)))), .second, .val (.double (FP.i2d (p2 &&& (4095 : Int32)))), .second, .val (.ref b1), .val (.int (1 : Int32)), .unset] [(.ref b1)]))
  refine Gl.of (fun _ kq_ => XS.iconst X3.here hx rfl (hb hby at_46) kq_) ?_
  show Gl p e below _ (T3.setTop (mkF m 47 #[.val (.int p1), .val (.int p2), .val (.double (FP.i2d (p1 &&& (4095 : Int32)))), .second, .val (.double (FP.i2d (p2 &&& (4095 : Int32)))), .second, .val (.ref b1), .val (.int (1 : Int32)), .unset] [(.int (0 : Int32)), (.ref b1)]))
  refine Gl.of (fun _ kq_ => X3.ldc2DoubleC hx hown (mvT hZ (w12 hw)) (g := (mkF m 47 #[.val (.int p1), .val (.int p2), .val (.double (FP.i2d (p1 &&& (4095 : Int32)))), .second, .val (.double (FP.i2d (p2 &&& (4095 : Int32)))), .second, .val (.ref b1), .val (.int (1 : Int32)), .unset] [(.int (0 : Int32)), (.ref b1)])) rfl (hb hby at_47) _ kq_) ?_
  show Gl p e below _ (T3.setTop (mkF m 50 #[.val (.int p1), .val (.int p2), .val (.double (FP.i2d (p1 &&& (4095 : Int32)))), .second, .val (.double (FP.i2d (p2 &&& (4095 : Int32)))), .second, .val (.ref b1), .val (.int (1 : Int32)), .unset] [(.double (13830554455654793216 : UInt64)), (.int (0 : Int32)), (.ref b1)]))
  obtain ⟨zcl4, zAr4, zq4, zS4, zM4, zH4, zG4⟩ := id V1
  obtain ⟨T5, h5, X5, e5, W5, st5⟩ := stD X3 hx hZ e3 zAr4 (j := (0 : Int32)) (inb_of zS4 ⟨by decide, by decide⟩) (g := (mkF m 50 #[.val (.int p1), .val (.int p2), .val (.double (FP.i2d (p1 &&& (4095 : Int32)))), .second, .val (.double (FP.i2d (p2 &&& (4095 : Int32)))), .second, .val (.ref b1), .val (.int (1 : Int32)), .unset] [(.double (13830554455654793216 : UInt64)), (.int (0 : Int32)), (.ref b1)])) rfl rfl (hb hby at_50)
  refine Gl.of st5 ?_
  have V5 : Arv Z h5 b1 k1 .double (6 : Int32) [(.double (13830554455654793216 : UInt64)), (.double (FP.i2d (p1 &&& (4095 : Int32)))), (.double (4607182418800017408 : UInt64)), (.double (4607182418800017408 : UInt64)), (.double (FP.i2d (p1 &&& (4095 : Int32)))), (.double (4607182418800017408 : UInt64))] (.double (0 : UInt64)) := Arv.set zAr4 zq4 zS4 zM4 zH4 zG4 rfl W5 0 rfl (Nat.le_of_ble_eq_true rfl)
  have N5 := Fr.snoc X5 N1 Gb1
  have O5 := O1.wr W5 Gb1
  show Gl p e below _ (T5.setTop (mkF m 51 #[.val (.int p1), .val (.int p2), .val (.double (FP.i2d (p1 &&& (4095 : Int32)))), .second, .val (.double (FP.i2d (p2 &&& (4095 : Int32)))), .second, .val (.ref b1), .val (.int (1 : Int32)), .unset] []))
  refine Gl.of (fun _ kq_ => XS.aload X5.here hx rfl (hb hby at_51) rfl rfl kq_) ?_
  show Gl p e below _ (T5.setTop (mkF m 53 #[.val (.int p1), .val (.int p2), .val (.double (FP.i2d (p1 &&& (4095 : Int32)))), .second, .val (.double (FP.i2d (p2 &&& (4095 : Int32)))), .second, .val (.ref b1), .val (.int (1 : Int32)), .unset] [(.ref b1)]))
  refine Gl.of (fun _ kq_ => XS.iconst X5.here hx rfl (hb hby at_53) kq_) ?_
  show Gl p e below _ (T5.setTop (mkF m 54 #[.val (.int p1), .val (.int p2), .val (.double (FP.i2d (p1 &&& (4095 : Int32)))), .second, .val (.double (FP.i2d (p2 &&& (4095 : Int32)))), .second, .val (.ref b1), .val (.int (1 : Int32)), .unset] [(.int (1 : Int32)), (.ref b1)]))
  refine Gl.of (fun _ kq_ => X5.ldc2DoubleC hx hown (mvT hZ (w12 hw)) (g := (mkF m 54 #[.val (.int p1), .val (.int p2), .val (.double (FP.i2d (p1 &&& (4095 : Int32)))), .second, .val (.double (FP.i2d (p2 &&& (4095 : Int32)))), .second, .val (.ref b1), .val (.int (1 : Int32)), .unset] [(.int (1 : Int32)), (.ref b1)])) rfl (hb hby at_54) _ kq_) ?_
  show Gl p e below _ (T5.setTop (mkF m 57 #[.val (.int p1), .val (.int p2), .val (.double (FP.i2d (p1 &&& (4095 : Int32)))), .second, .val (.double (FP.i2d (p2 &&& (4095 : Int32)))), .second, .val (.ref b1), .val (.int (1 : Int32)), .unset] [(.double (13830554455654793216 : UInt64)), (.int (1 : Int32)), (.ref b1)]))
  obtain ⟨zcl6, zAr6, zq6, zS6, zM6, zH6, zG6⟩ := id V5
  obtain ⟨T7, h7, X7, e7, W7, st7⟩ := stD X5 hx hZ e5 zAr6 (j := (1 : Int32)) (inb_of zS6 ⟨by decide, by decide⟩) (g := (mkF m 57 #[.val (.int p1), .val (.int p2), .val (.double (FP.i2d (p1 &&& (4095 : Int32)))), .second, .val (.double (FP.i2d (p2 &&& (4095 : Int32)))), .second, .val (.ref b1), .val (.int (1 : Int32)), .unset] [(.double (13830554455654793216 : UInt64)), (.int (1 : Int32)), (.ref b1)])) rfl rfl (hb hby at_57)
  refine Gl.of st7 ?_
  have V7 : Arv Z h7 b1 k1 .double (6 : Int32) [(.double (13830554455654793216 : UInt64)), (.double (13830554455654793216 : UInt64)), (.double (4607182418800017408 : UInt64)), (.double (4607182418800017408 : UInt64)), (.double (FP.i2d (p1 &&& (4095 : Int32)))), (.double (4607182418800017408 : UInt64))] (.double (0 : UInt64)) := Arv.set zAr6 zq6 zS6 zM6 zH6 zG6 rfl W7 1 rfl (Nat.le_of_ble_eq_true rfl)
  have N7 := Fr.snoc X7 N5 Gb1
  have O7 := O5.wr W7 Gb1
  show Gl p e below _ (T7.setTop (mkF m 58 #[.val (.int p1), .val (.int p2), .val (.double (FP.i2d (p1 &&& (4095 : Int32)))), .second, .val (.double (FP.i2d (p2 &&& (4095 : Int32)))), .second, .val (.ref b1), .val (.int (1 : Int32)), .unset] []))
  refine Gl.of (fun _ kq_ => XS.aload X7.here hx rfl (hb hby at_58) rfl rfl kq_) ?_
  show Gl p e below _ (T7.setTop (mkF m 60 #[.val (.int p1), .val (.int p2), .val (.double (FP.i2d (p1 &&& (4095 : Int32)))), .second, .val (.double (FP.i2d (p2 &&& (4095 : Int32)))), .second, .val (.ref b1), .val (.int (1 : Int32)), .unset] [(.ref b1)]))
  refine Gl.of (fun _ kq_ => XS.iconst X7.here hx rfl (hb hby at_60) kq_) ?_
  show Gl p e below _ (T7.setTop (mkF m 61 #[.val (.int p1), .val (.int p2), .val (.double (FP.i2d (p1 &&& (4095 : Int32)))), .second, .val (.double (FP.i2d (p2 &&& (4095 : Int32)))), .second, .val (.ref b1), .val (.int (1 : Int32)), .unset] [(.int (2 : Int32)), (.ref b1)]))
  refine Gl.of (fun _ kq_ => X7.ldc2DoubleC hx hown (mvT hZ (w12 hw)) (g := (mkF m 61 #[.val (.int p1), .val (.int p2), .val (.double (FP.i2d (p1 &&& (4095 : Int32)))), .second, .val (.double (FP.i2d (p2 &&& (4095 : Int32)))), .second, .val (.ref b1), .val (.int (1 : Int32)), .unset] [(.int (2 : Int32)), (.ref b1)])) rfl (hb hby at_61) _ kq_) ?_
  show Gl p e below _ (T7.setTop (mkF m 64 #[.val (.int p1), .val (.int p2), .val (.double (FP.i2d (p1 &&& (4095 : Int32)))), .second, .val (.double (FP.i2d (p2 &&& (4095 : Int32)))), .second, .val (.ref b1), .val (.int (1 : Int32)), .unset] [(.double (13830554455654793216 : UInt64)), (.int (2 : Int32)), (.ref b1)]))
  obtain ⟨zcl8, zAr8, zq8, zS8, zM8, zH8, zG8⟩ := id V7
  obtain ⟨T9, h9, X9, e9, W9, st9⟩ := stD X7 hx hZ e7 zAr8 (j := (2 : Int32)) (inb_of zS8 ⟨by decide, by decide⟩) (g := (mkF m 64 #[.val (.int p1), .val (.int p2), .val (.double (FP.i2d (p1 &&& (4095 : Int32)))), .second, .val (.double (FP.i2d (p2 &&& (4095 : Int32)))), .second, .val (.ref b1), .val (.int (1 : Int32)), .unset] [(.double (13830554455654793216 : UInt64)), (.int (2 : Int32)), (.ref b1)])) rfl rfl (hb hby at_64)
  refine Gl.of st9 ?_
  have V9 : Arv Z h9 b1 k1 .double (6 : Int32) [(.double (13830554455654793216 : UInt64)), (.double (13830554455654793216 : UInt64)), (.double (13830554455654793216 : UInt64)), (.double (4607182418800017408 : UInt64)), (.double (FP.i2d (p1 &&& (4095 : Int32)))), (.double (4607182418800017408 : UInt64))] (.double (0 : UInt64)) := Arv.set zAr8 zq8 zS8 zM8 zH8 zG8 rfl W9 2 rfl (Nat.le_of_ble_eq_true rfl)
  have N9 := Fr.snoc X9 N7 Gb1
  have O9 := O7.wr W9 Gb1
  show Gl p e below _ (T9.setTop (mkF m 65 #[.val (.int p1), .val (.int p2), .val (.double (FP.i2d (p1 &&& (4095 : Int32)))), .second, .val (.double (FP.i2d (p2 &&& (4095 : Int32)))), .second, .val (.ref b1), .val (.int (1 : Int32)), .unset] []))
  refine Gl.of (fun _ kq_ => XS.aload X9.here hx rfl (hb hby at_65) rfl rfl kq_) ?_
  show Gl p e below _ (T9.setTop (mkF m 67 #[.val (.int p1), .val (.int p2), .val (.double (FP.i2d (p1 &&& (4095 : Int32)))), .second, .val (.double (FP.i2d (p2 &&& (4095 : Int32)))), .second, .val (.ref b1), .val (.int (1 : Int32)), .unset] [(.ref b1)]))
  refine Gl.of (fun _ kq_ => XS.iconst X9.here hx rfl (hb hby at_67) kq_) ?_
  show Gl p e below _ (T9.setTop (mkF m 68 #[.val (.int p1), .val (.int p2), .val (.double (FP.i2d (p1 &&& (4095 : Int32)))), .second, .val (.double (FP.i2d (p2 &&& (4095 : Int32)))), .second, .val (.ref b1), .val (.int (1 : Int32)), .unset] [(.int (3 : Int32)), (.ref b1)]))
  refine Gl.of (fun _ kq_ => X9.ldc2DoubleC hx hown (mvT hZ (w12 hw)) (g := (mkF m 68 #[.val (.int p1), .val (.int p2), .val (.double (FP.i2d (p1 &&& (4095 : Int32)))), .second, .val (.double (FP.i2d (p2 &&& (4095 : Int32)))), .second, .val (.ref b1), .val (.int (1 : Int32)), .unset] [(.int (3 : Int32)), (.ref b1)])) rfl (hb hby at_68) _ kq_) ?_
  show Gl p e below _ (T9.setTop (mkF m 71 #[.val (.int p1), .val (.int p2), .val (.double (FP.i2d (p1 &&& (4095 : Int32)))), .second, .val (.double (FP.i2d (p2 &&& (4095 : Int32)))), .second, .val (.ref b1), .val (.int (1 : Int32)), .unset] [(.double (13830554455654793216 : UInt64)), (.int (3 : Int32)), (.ref b1)]))
  obtain ⟨zcl10, zAr10, zq10, zS10, zM10, zH10, zG10⟩ := id V9
  obtain ⟨T11, h11, X11, e11, W11, st11⟩ := stD X9 hx hZ e9 zAr10 (j := (3 : Int32)) (inb_of zS10 ⟨by decide, by decide⟩) (g := (mkF m 71 #[.val (.int p1), .val (.int p2), .val (.double (FP.i2d (p1 &&& (4095 : Int32)))), .second, .val (.double (FP.i2d (p2 &&& (4095 : Int32)))), .second, .val (.ref b1), .val (.int (1 : Int32)), .unset] [(.double (13830554455654793216 : UInt64)), (.int (3 : Int32)), (.ref b1)])) rfl rfl (hb hby at_71)
  refine Gl.of st11 ?_
  have V11 : Arv Z h11 b1 k1 .double (6 : Int32) [(.double (13830554455654793216 : UInt64)), (.double (13830554455654793216 : UInt64)), (.double (13830554455654793216 : UInt64)), (.double (13830554455654793216 : UInt64)), (.double (FP.i2d (p1 &&& (4095 : Int32)))), (.double (4607182418800017408 : UInt64))] (.double (0 : UInt64)) := Arv.set zAr10 zq10 zS10 zM10 zH10 zG10 rfl W11 3 rfl (Nat.le_of_ble_eq_true rfl)
  have N11 := Fr.snoc X11 N9 Gb1
  have O11 := O9.wr W11 Gb1
  show Gl p e below _ (T11.setTop (mkF m 72 #[.val (.int p1), .val (.int p2), .val (.double (FP.i2d (p1 &&& (4095 : Int32)))), .second, .val (.double (FP.i2d (p2 &&& (4095 : Int32)))), .second, .val (.ref b1), .val (.int (1 : Int32)), .unset] []))
  refine Gl.of (fun _ kq_ => XS.aload X11.here hx rfl (hb hby at_72) rfl rfl kq_) ?_
  show Gl p e below _ (T11.setTop (mkF m 74 #[.val (.int p1), .val (.int p2), .val (.double (FP.i2d (p1 &&& (4095 : Int32)))), .second, .val (.double (FP.i2d (p2 &&& (4095 : Int32)))), .second, .val (.ref b1), .val (.int (1 : Int32)), .unset] [(.ref b1)]))
  refine Gl.of (fun _ kq_ => XS.iconst X11.here hx rfl (hb hby at_74) kq_) ?_
  show Gl p e below _ (T11.setTop (mkF m 75 #[.val (.int p1), .val (.int p2), .val (.double (FP.i2d (p1 &&& (4095 : Int32)))), .second, .val (.double (FP.i2d (p2 &&& (4095 : Int32)))), .second, .val (.ref b1), .val (.int (1 : Int32)), .unset] [(.int (4 : Int32)), (.ref b1)]))
  refine Gl.of (fun _ kq_ => X11.ldc2DoubleC hx hown (mvT hZ (w12 hw)) (g := (mkF m 75 #[.val (.int p1), .val (.int p2), .val (.double (FP.i2d (p1 &&& (4095 : Int32)))), .second, .val (.double (FP.i2d (p2 &&& (4095 : Int32)))), .second, .val (.ref b1), .val (.int (1 : Int32)), .unset] [(.int (4 : Int32)), (.ref b1)])) rfl (hb hby at_75) _ kq_) ?_
  show Gl p e below _ (T11.setTop (mkF m 78 #[.val (.int p1), .val (.int p2), .val (.double (FP.i2d (p1 &&& (4095 : Int32)))), .second, .val (.double (FP.i2d (p2 &&& (4095 : Int32)))), .second, .val (.ref b1), .val (.int (1 : Int32)), .unset] [(.double (13830554455654793216 : UInt64)), (.int (4 : Int32)), (.ref b1)]))
  obtain ⟨zcl12, zAr12, zq12, zS12, zM12, zH12, zG12⟩ := id V11
  obtain ⟨T13, h13, X13, e13, W13, st13⟩ := stD X11 hx hZ e11 zAr12 (j := (4 : Int32)) (inb_of zS12 ⟨by decide, by decide⟩) (g := (mkF m 78 #[.val (.int p1), .val (.int p2), .val (.double (FP.i2d (p1 &&& (4095 : Int32)))), .second, .val (.double (FP.i2d (p2 &&& (4095 : Int32)))), .second, .val (.ref b1), .val (.int (1 : Int32)), .unset] [(.double (13830554455654793216 : UInt64)), (.int (4 : Int32)), (.ref b1)])) rfl rfl (hb hby at_78)
  refine Gl.of st13 ?_
  have V13 : Arv Z h13 b1 k1 .double (6 : Int32) [(.double (13830554455654793216 : UInt64)), (.double (13830554455654793216 : UInt64)), (.double (13830554455654793216 : UInt64)), (.double (13830554455654793216 : UInt64)), (.double (13830554455654793216 : UInt64)), (.double (4607182418800017408 : UInt64))] (.double (0 : UInt64)) := Arv.set zAr12 zq12 zS12 zM12 zH12 zG12 rfl W13 4 rfl (Nat.le_of_ble_eq_true rfl)
  have N13 := Fr.snoc X13 N11 Gb1
  have O13 := O11.wr W13 Gb1
  show Gl p e below _ (T13.setTop (mkF m 79 #[.val (.int p1), .val (.int p2), .val (.double (FP.i2d (p1 &&& (4095 : Int32)))), .second, .val (.double (FP.i2d (p2 &&& (4095 : Int32)))), .second, .val (.ref b1), .val (.int (1 : Int32)), .unset] []))
  refine Gl.of (fun _ kq_ => XS.aload X13.here hx rfl (hb hby at_79) rfl rfl kq_) ?_
  show Gl p e below _ (T13.setTop (mkF m 81 #[.val (.int p1), .val (.int p2), .val (.double (FP.i2d (p1 &&& (4095 : Int32)))), .second, .val (.double (FP.i2d (p2 &&& (4095 : Int32)))), .second, .val (.ref b1), .val (.int (1 : Int32)), .unset] [(.ref b1)]))
  refine Gl.of (fun _ kq_ => XS.iconst X13.here hx rfl (hb hby at_81) kq_) ?_
  show Gl p e below _ (T13.setTop (mkF m 82 #[.val (.int p1), .val (.int p2), .val (.double (FP.i2d (p1 &&& (4095 : Int32)))), .second, .val (.double (FP.i2d (p2 &&& (4095 : Int32)))), .second, .val (.ref b1), .val (.int (1 : Int32)), .unset] [(.int (5 : Int32)), (.ref b1)]))
  refine Gl.of (fun _ kq_ => X13.ldc2DoubleC hx hown (mvT hZ (w12 hw)) (g := (mkF m 82 #[.val (.int p1), .val (.int p2), .val (.double (FP.i2d (p1 &&& (4095 : Int32)))), .second, .val (.double (FP.i2d (p2 &&& (4095 : Int32)))), .second, .val (.ref b1), .val (.int (1 : Int32)), .unset] [(.int (5 : Int32)), (.ref b1)])) rfl (hb hby at_82) _ kq_) ?_
  show Gl p e below _ (T13.setTop (mkF m 85 #[.val (.int p1), .val (.int p2), .val (.double (FP.i2d (p1 &&& (4095 : Int32)))), .second, .val (.double (FP.i2d (p2 &&& (4095 : Int32)))), .second, .val (.ref b1), .val (.int (1 : Int32)), .unset] [(.double (13830554455654793216 : UInt64)), (.int (5 : Int32)), (.ref b1)]))
  obtain ⟨zcl14, zAr14, zq14, zS14, zM14, zH14, zG14⟩ := id V13
  obtain ⟨T15, h15, X15, e15, W15, st15⟩ := stD X13 hx hZ e13 zAr14 (j := (5 : Int32)) (inb_of zS14 ⟨by decide, by decide⟩) (g := (mkF m 85 #[.val (.int p1), .val (.int p2), .val (.double (FP.i2d (p1 &&& (4095 : Int32)))), .second, .val (.double (FP.i2d (p2 &&& (4095 : Int32)))), .second, .val (.ref b1), .val (.int (1 : Int32)), .unset] [(.double (13830554455654793216 : UInt64)), (.int (5 : Int32)), (.ref b1)])) rfl rfl (hb hby at_85)
  refine Gl.of st15 ?_
  have V15 : Arv Z h15 b1 k1 .double (6 : Int32) [(.double (13830554455654793216 : UInt64)), (.double (13830554455654793216 : UInt64)), (.double (13830554455654793216 : UInt64)), (.double (13830554455654793216 : UInt64)), (.double (13830554455654793216 : UInt64)), (.double (13830554455654793216 : UInt64))] (.double (0 : UInt64)) := Arv.set zAr14 zq14 zS14 zM14 zH14 zG14 rfl W15 5 rfl (Nat.le_of_ble_eq_true rfl)
  have N15 := Fr.snoc X15 N13 Gb1
  have O15 := O13.wr W15 Gb1
  show Gl p e below _ (T15.setTop (mkF m 86 #[.val (.int p1), .val (.int p2), .val (.double (FP.i2d (p1 &&& (4095 : Int32)))), .second, .val (.double (FP.i2d (p2 &&& (4095 : Int32)))), .second, .val (.ref b1), .val (.int (1 : Int32)), .unset] []))
  refine Gl.of (fun _ kq_ => XS.dload X15.here hx rfl (hb hby at_86) rfl kq_) ?_
  show Gl p e below _ (T15.setTop (mkF m 88 #[.val (.int p1), .val (.int p2), .val (.double (FP.i2d (p1 &&& (4095 : Int32)))), .second, .val (.double (FP.i2d (p2 &&& (4095 : Int32)))), .second, .val (.ref b1), .val (.int (1 : Int32)), .unset] [(.double (FP.i2d (p2 &&& (4095 : Int32))))]))
  refine Gl.callS X15 hx hZ (y := (⟨"com/example/pathstone/pathstone/SubstitutionModel", "kappaExchangeabilities", "(D)[D"⟩ : MethodName)) hown (w0 hw) (w1 hw) (w2 hw) (w3 hw) (desc_ne (by decide)) (rm := { frames := 0, cells := 1, slots := 6, locals := 0 }) (argsL := [(.double (FP.i2d (p2 &&& (4095 : Int32))))]) (rest := []) (rm1 l Z a0 hw _ (FP.i2d (p2 &&& (4095 : Int32))) n0 (O15.1 ▸ O15.2.1)) 0 (by decide) (by decide) (by decide) (by decide) e15 (pc := 88) (Ls := #[.val (.int p1), .val (.int p2), .val (.double (FP.i2d (p1 &&& (4095 : Int32)))), .second, .val (.double (FP.i2d (p2 &&& (4095 : Int32)))), .second, .val (.ref b1), .val (.int (1 : Int32)), .unset]) (st := [(.double (FP.i2d (p2 &&& (4095 : Int32))))]) (by rw [hml]; rfl) pd_1 rfl rfl (Nat.le_of_eq rfl) (hb hby at_88) ?_
  intro v16 T16 L16 X16 hQ16
  obtain ⟨b16, k16, rfl, V16, Kq16, Nq16, Gb16, Hb16⟩ := hQ16
  have N16 := Fr.app N15 Nq16
  have ne_b1_b16 : b1 ≠ b16 := Nat.ne_of_lt (Nat.lt_of_lt_of_le V15.lt Hb16)
  have vc17 := V15.keep Kq16 (by simp)
  have O16 := O15.keep Kq16 all0
  show Gl p e below _ (T16.setTop (mkF m 91 #[.val (.int p1), .val (.int p2), .val (.double (FP.i2d (p1 &&& (4095 : Int32)))), .second, .val (.double (FP.i2d (p2 &&& (4095 : Int32)))), .second, .val (.ref b1), .val (.int (1 : Int32)), .unset] [(.ref b16)]))
  refine Gl.of (fun _ kq_ => XS.astore X16.here hx rfl (hb hby at_91) rfl rfl (l' := #[.val (.int p1), .val (.int p2), .val (.double (FP.i2d (p1 &&& (4095 : Int32)))), .second, .val (.double (FP.i2d (p2 &&& (4095 : Int32)))), .second, .val (.ref b1), .val (.int (1 : Int32)), .val (.ref b16)]) rfl kq_) ?_
  show Gl p e below _ (T16.setTop (mkF m 93 #[.val (.int p1), .val (.int p2), .val (.double (FP.i2d (p1 &&& (4095 : Int32)))), .second, .val (.double (FP.i2d (p2 &&& (4095 : Int32)))), .second, .val (.ref b1), .val (.int (1 : Int32)), .val (.ref b16)] []))
  refine Gl.of (fun _ kq_ => XS.aload X16.here hx rfl (hb hby at_93) rfl rfl kq_) ?_
  show Gl p e below _ (T16.setTop (mkF m 95 #[.val (.int p1), .val (.int p2), .val (.double (FP.i2d (p1 &&& (4095 : Int32)))), .second, .val (.double (FP.i2d (p2 &&& (4095 : Int32)))), .second, .val (.ref b1), .val (.int (1 : Int32)), .val (.ref b16)] [(.ref b16)]))
  refine Gl.of (fun _ kq_ => XS.ifnullNo X16.here hx rfl (hb hby at_95) rfl kq_) ?_
  show Gl p e below _ (T16.setTop (mkF m 98 #[.val (.int p1), .val (.int p2), .val (.double (FP.i2d (p1 &&& (4095 : Int32)))), .second, .val (.double (FP.i2d (p2 &&& (4095 : Int32)))), .second, .val (.ref b1), .val (.int (1 : Int32)), .val (.ref b16)] []))
  refine Gl.of (fun _ kq_ => XS.aload X16.here hx rfl (hb hby at_98) rfl rfl kq_) ?_
  show Gl p e below _ (T16.setTop (mkF m 100 #[.val (.int p1), .val (.int p2), .val (.double (FP.i2d (p1 &&& (4095 : Int32)))), .second, .val (.double (FP.i2d (p2 &&& (4095 : Int32)))), .second, .val (.ref b1), .val (.int (1 : Int32)), .val (.ref b16)] [(.ref b16)]))
  obtain ⟨zcl18, zAr18, zq18, zS18, zM18, zH18, zG18⟩ := id V16
  refine Gl.of (fun _ kq_ => X16.arraylength hx (zAr18).1 (State.isArrayOf_alike hZ.alike (zAr18).2.1) (g := (mkF m 100 #[.val (.int p1), .val (.int p2), .val (.double (FP.i2d (p1 &&& (4095 : Int32)))), .second, .val (.double (FP.i2d (p2 &&& (4095 : Int32)))), .second, .val (.ref b1), .val (.int (1 : Int32)), .val (.ref b16)] [(.ref b16)])) rfl rfl (hb hby at_100) _ kq_) ?_
  rw [len_of zS18 (by decide)]
  show Gl p e below _ (T16.setTop (mkF m 101 #[.val (.int p1), .val (.int p2), .val (.double (FP.i2d (p1 &&& (4095 : Int32)))), .second, .val (.double (FP.i2d (p2 &&& (4095 : Int32)))), .second, .val (.ref b1), .val (.int (1 : Int32)), .val (.ref b16)] [(.int (6 : Int32))]))
  refine Gl.of (fun _ kq_ => XS.bipush X16.here hx rfl (hb hby at_101) kq_) ?_
  show Gl p e below _ (T16.setTop (mkF m 103 #[.val (.int p1), .val (.int p2), .val (.double (FP.i2d (p1 &&& (4095 : Int32)))), .second, .val (.double (FP.i2d (p2 &&& (4095 : Int32)))), .second, .val (.ref b1), .val (.int (1 : Int32)), .val (.ref b16)] [(.int (6 : Int32)), (.int (6 : Int32))]))
  refine Gl.of (fun _ kq_ => XS.icmpYes X16.here hx rfl (pc0 := 103) (pc' := 108) rfl (hb hby at_103) rfl (teq (by decide : (6 : Int32) = (6 : Int32))).1 (by decide) (by decide) kq_) ?_
  show Gl p e below _ (T16.setTop (mkF m 108 #[.val (.int p1), .val (.int p2), .val (.double (FP.i2d (p1 &&& (4095 : Int32)))), .second, .val (.double (FP.i2d (p2 &&& (4095 : Int32)))), .second, .val (.ref b1), .val (.int (1 : Int32)), .val (.ref b16)] []))
  refine Gl.of (fun _ kq_ => XS.iload X16.here hx rfl (hb hby at_108) rfl kq_) ?_
  show Gl p e below _ (T16.setTop (mkF m 110 #[.val (.int p1), .val (.int p2), .val (.double (FP.i2d (p1 &&& (4095 : Int32)))), .second, .val (.double (FP.i2d (p2 &&& (4095 : Int32)))), .second, .val (.ref b1), .val (.int (1 : Int32)), .val (.ref b16)] [(.int (1 : Int32))]))
  refine Gl.of (fun _ kq_ => XS.ifNo X16.here hx rfl (hb hby at_110) rfl ((if0 _ _).trans (feq (by decide : ¬ ((1 : Int32) = (0 : Int32)))).1) kq_) ?_
  show Gl p e below _ (T16.setTop (mkF m 113 #[.val (.int p1), .val (.int p2), .val (.double (FP.i2d (p1 &&& (4095 : Int32)))), .second, .val (.double (FP.i2d (p2 &&& (4095 : Int32)))), .second, .val (.ref b1), .val (.int (1 : Int32)), .val (.ref b16)] []))
  refine Gl.of (fun _ kq_ => XS.aload X16.here hx rfl (hb hby at_113) rfl rfl kq_) ?_
  show Gl p e below _ (T16.setTop (mkF m 115 #[.val (.int p1), .val (.int p2), .val (.double (FP.i2d (p1 &&& (4095 : Int32)))), .second, .val (.double (FP.i2d (p2 &&& (4095 : Int32)))), .second, .val (.ref b1), .val (.int (1 : Int32)), .val (.ref b16)] [(.ref b16)]))
  refine Gl.of (fun _ kq_ => XS.aload X16.here hx rfl (hb hby at_115) rfl rfl kq_) ?_
  show Gl p e below _ (T16.setTop (mkF m 117 #[.val (.int p1), .val (.int p2), .val (.double (FP.i2d (p1 &&& (4095 : Int32)))), .second, .val (.double (FP.i2d (p2 &&& (4095 : Int32)))), .second, .val (.ref b1), .val (.int (1 : Int32)), .val (.ref b16)] [(.ref b1), (.ref b16)]))
  refine Gl.of (fun _ kq_ => Jvm.RoadKit.acmp (g := (mkF m 117 #[.val (.int p1), .val (.int p2), .val (.double (FP.i2d (p1 &&& (4095 : Int32)))), .second, .val (.double (FP.i2d (p2 &&& (4095 : Int32)))), .second, .val (.ref b1), .val (.int (1 : Int32)), .val (.ref b16)] [(.ref b1), (.ref b16)])) X16 hx rfl rfl rfl (pc0 := 117) (pc' := 120) (same := false) rfl (hb hby at_117) rfl (decide_eq_false fun q => (ne_b1_b16.symm : ¬ (b16 = b1)) (Value.ref.inj q)) (by decide) (by decide) kq_) ?_
  show Gl p e below _ (T16.setTop (mkF m 120 #[.val (.int p1), .val (.int p2), .val (.double (FP.i2d (p1 &&& (4095 : Int32)))), .second, .val (.double (FP.i2d (p2 &&& (4095 : Int32)))), .second, .val (.ref b1), .val (.int (1 : Int32)), .val (.ref b16)] []))
  refine Gl.of (fun _ kq_ => XS.aload X16.here hx rfl (hb hby at_120) rfl rfl kq_) ?_
  show Gl p e below _ (T16.setTop (mkF m 122 #[.val (.int p1), .val (.int p2), .val (.double (FP.i2d (p1 &&& (4095 : Int32)))), .second, .val (.double (FP.i2d (p2 &&& (4095 : Int32)))), .second, .val (.ref b1), .val (.int (1 : Int32)), .val (.ref b16)] [(.ref b16)]))
  refine Gl.of (fun _ kq_ => XS.dload X16.here hx rfl (hb hby at_122) rfl kq_) ?_
  show Gl p e below _ (T16.setTop (mkF m 124 #[.val (.int p1), .val (.int p2), .val (.double (FP.i2d (p1 &&& (4095 : Int32)))), .second, .val (.double (FP.i2d (p2 &&& (4095 : Int32)))), .second, .val (.ref b1), .val (.int (1 : Int32)), .val (.ref b16)] [(.double (FP.i2d (p2 &&& (4095 : Int32)))), (.ref b16)]))
  refine Gl.callS0 X16 hx hZ (y := (⟨"com/example/pathstone/pathstone/SubstitutionModelKappaExchangeabilitiesPinLaw", "matches", "([DD)Z"⟩ : MethodName)) hown (w5 hw) (w6 hw) (w7 hw) (w8 hw) (desc_ne (by decide)) (argsL := [(.ref b16), (.double (FP.i2d (p2 &&& (4095 : Int32))))]) (rest := []) (rm2 l Z a0 hw _ b16 (FP.i2d (p2 &&& (4095 : Int32))) k16 V16 (own_nd _)) 0 (by decide) (by decide) rfl (pc := 124) (Ls := #[.val (.int p1), .val (.int p2), .val (.double (FP.i2d (p1 &&& (4095 : Int32)))), .second, .val (.double (FP.i2d (p2 &&& (4095 : Int32)))), .second, .val (.ref b1), .val (.int (1 : Int32)), .val (.ref b16)]) (st := [(.double (FP.i2d (p2 &&& (4095 : Int32)))), (.ref b16)]) (by rw [hml]; rfl) pd_2 rfl rfl (Nat.le_of_eq rfl) (hb hby at_124) (by decide) (by decide) ?_
  intro v19 T19 X19 e19 hv19
  subst hv19
  show Gl p e below _ (T19.setTop (mkF m 127 #[.val (.int p1), .val (.int p2), .val (.double (FP.i2d (p1 &&& (4095 : Int32)))), .second, .val (.double (FP.i2d (p2 &&& (4095 : Int32)))), .second, .val (.ref b1), .val (.int (1 : Int32)), .val (.ref b16)] [(.int (1 : Int32))]))
  refine Gl.of (fun _ kq_ => XS.ifNo X19.here hx rfl (hb hby at_127) rfl ((if0 _ _).trans (feq (by decide : ¬ ((1 : Int32) = (0 : Int32)))).1) kq_) ?_
  show Gl p e below _ (T19.setTop (mkF m 130 #[.val (.int p1), .val (.int p2), .val (.double (FP.i2d (p1 &&& (4095 : Int32)))), .second, .val (.double (FP.i2d (p2 &&& (4095 : Int32)))), .second, .val (.ref b1), .val (.int (1 : Int32)), .val (.ref b16)] []))
  refine Gl.of (fun _ kq_ => XS.iconst X19.here hx rfl (hb hby at_130) kq_) ?_
  show Gl p e below _ (T19.setTop (mkF m 131 #[.val (.int p1), .val (.int p2), .val (.double (FP.i2d (p1 &&& (4095 : Int32)))), .second, .val (.double (FP.i2d (p2 &&& (4095 : Int32)))), .second, .val (.ref b1), .val (.int (1 : Int32)), .val (.ref b16)] [(.int (1 : Int32))]))
  refine Gl.of (fun _ kq_ => XS.goto X19.here hx rfl (pc0 := 131) (pc' := 135) rfl (hb hby at_131) (by decide) (by decide) kq_) ?_
  show Gl p e below _ (T19.setTop (mkF m 135 #[.val (.int p1), .val (.int p2), .val (.double (FP.i2d (p1 &&& (4095 : Int32)))), .second, .val (.double (FP.i2d (p2 &&& (4095 : Int32)))), .second, .val (.ref b1), .val (.int (1 : Int32)), .val (.ref b16)] [(.int (1 : Int32))]))
  exact Gl.retN X19 hx hlk hret (by simp) (hb hby at_135) e19 (⟨rfl, N16⟩) (by decide) (by decide)
set_option maxRecDepth 65536 in
set_option maxHeartbeats 40000000 in
theorem comes_1 {Post : Tables → Env → Array Value → State → Outcome → State → Prop} (hpost : ∀ tb e args s v u, (limb_1_1.after args s (.returned v) u = true ∧ limb_1_2.after args s (.returned v) u = true ∧ True) → FrameEnd s (.returned v) u (Jvm.fieldLocs frame_1_writes args s ++ Jvm.arrayLocs frame_1_arrays args s ++ Jvm.staticLocs frame_1_statics s) 16 128 → Post tb e args s (.returned v) u) :
    ArmFor flags0 classFile x code maxLocals ret World_1 tables_1 room_1 Calls_1 rest_1 Pre_1 Post := by
  intro l hfl _ _ p e ha hc hk s m args below hf hA hF happ hP
  obtain ⟨hcalls, hrest, hpre⟩ := hP
  obtain ⟨-, -, -, hnamed, -, -, -, hat⟩ := (Spec.applies_iff hf).mp happ
  obtain ⟨hg, hn⟩ := and_e (Cond.before_iff.mp (show (Jvm.Cond.and given_1 narrow_1).before args s = true from hpre))
  obtain ⟨g_c, q_g_c⟩ := and_e hg
  obtain ⟨g_0, q_g_0⟩ := and_e q_g_c
  have g_1 := q_g_0
  obtain ⟨w_0, w_1, rfl⟩ : ∃ w_0 w_1 : Value, args = #[w_0, w_1] := by
    have hs : args.size = 2 := by simpa [Cond.value, given_1] using g_c
    obtain ⟨L⟩ := args
    match L, hs with
    | [w_0, w_1], _ => exact ⟨w_0, w_1, rfl⟩
  have hw := fun d (hd : d ∈ tables_1) => atoms_spec (ws := Jvm.Cond.code x code maxLocals ret :: tables_1) hat d (List.mem_cons_of_mem _ hd)
  have hfit : Fit s := fun {y c} hc i hi => by
    obtain ⟨ha, rfl⟩ := Array.getElem?_eq_some_iff.mp hc
    have q := List.all_eq_true.mp ((Array.all_eq_true_iff_forall_mem.mp hF) _ (Array.getElem_mem ha)) i (List.mem_range.mpr hi)
    simpa [Array.getElem?_eq_getElem hi] using q
  obtain ⟨p1, ei0⟩ := is_v g_0
  obtain rfl : w_0 = (.int p1) := Option.some.inj ei0
  obtain ⟨p2, ei1⟩ := is_v g_1
  obtain rfl : w_1 = (.int p2) := Option.some.inj ei1
  obtain ⟨n, o, h1, h2, h3, _, L, rfl, hQ, hq⟩ := rm0 l s _ hw tables_1 s.heap p1 p2 s.heap.size (Old.start s) p e ha hc hk s m _ below hf ((Spec.applies_iff_loose hf).mp happ).1 ⟨rfl, State.Warmed39.refl s, rfl⟩ trivial
  obtain ⟨rfl, N⟩ := hQ
  exact ⟨n, _, h1, h2, h3, hpost _ _ _ _ _ _ ⟨Cond.after_iff.mpr rfl, Cond.after_iff.mpr (eq_i res_at (Term.int_eval (1)) rfl), trivial⟩ ⟨hq.1, hq.2.1, (hq.2.2.sift fun y hy => Or.inr (N y hy)).mono (by decide) (by decide)⟩⟩
theorem main_1_1 : Claimed_1_1 := comes_1 fun _ _ _ _ _ _ h hF => ⟨h.1, hF⟩
theorem main_1_2 : Claimed_1_2 := comes_1 fun _ _ _ _ _ _ h hF => ⟨h.2.1, hF⟩
end Jvm.Pilot.@@N@@
namespace Jvm.Pilot.@@N@@
open Jvm Jvm.ClassFile Sem Op Lib Jvm.Free Jvm.Stand Jvm.Pilot.@@N@@.Jvm.D
/-! MADE BY PROGRAM (witnessworld.py) out of the Statement's table words and the real class files: 11 classes; the members and pool entries that the words name. The judged class is class 1, her method 1. -/
namespace start1
open Jvm.ClassFile
def u (s : String) : CpInfo := .utf8 (stringToUtf16 s)
/-- a pool by its gaps: so many unusable entries, then the entry; so many at the end -/
def gap : Nat → List CpInfo → List CpInfo
  | 0, r => r
  | n + 1, r => .unusable :: gap n r
def poolList (es : List (Nat × CpInfo)) (last : Nat) : List CpInfo := es.foldr (fun e r => gap e.1 (e.2 :: r)) (gap last [])
def pool (es : List (Nat × CpInfo)) (last : Nat) : Array CpInfo := ⟨poolList es last⟩
def fileOf (pool : Array CpInfo) (this : Nat) (attrs : Array Attribute := #[]) (ms : Array MethodInfo := #[]) (fl : Nat := 33) (sup : Nat := 0) (ifs : Array Nat := #[]) (fds : Array FieldInfo := #[]) : ClassFile where
  minorVersion := 0
  majorVersion := 65
  constantPool := pool
  accessFlags := fl
  thisClass := this
  superClass := sup
  interfaces := ifs
  fields := fds
  methods := ms
  attributes := attrs
def plain (name : String) (sup : Option ClassId) : Class where
  name := name
  kind := .ordinary
  loader := none
  accessFlags := 33
  super := sup
  interfaces := #[]
  cf := none
  fields := #[]
  methods := #[]
  instanceTypes := #[]
  staticTypes := #[]
  resolved := #[]
  callSites := []
  init := .initialized
  statics := none
  mirror := none

def pool0 : Array CpInfo := pool [(5, u "<init>"), (0, u "()V"), (1, .class_ 10), (1, u "java/lang/Object")] 113

def k0m0 : Method := { name := "<init>", desc := "()V", sig := { parameters := [], returnType := none }, accessFlags := 1, code := none }
/-- java/lang/Object -/
def k0 : Class := { plain "java/lang/Object" none with
  accessFlags := 33
  interfaces := #[]
  cf := some (fileOf pool0 8 #[] #[{ accessFlags := 1, nameIndex := 5, descriptorIndex := 6, attributes := #[] }] 33 0 #[] #[])
  fields := #[]
  methods := #[k0m0]
  instanceTypes := #[]
  staticTypes := #[]
  resolved := Array.replicate 124 none
  statics := none }

def pool1 : Array CpInfo := pool [(2, .class_ 4), (1, u "java/lang/Object"), (0, u "<init>"), (0, u "()V"), (0, .methodref 8 9), (0, .class_ 10), (0, .nameAndType 11 12), (0, u "com/example/pathstone/pathstone/SubstitutionModel"), (0, u "kappaExchangeabilities"), (0, u "(D)[D"), (0, .methodref 14 15), (0, .class_ 16), (0, .nameAndType 17 18), (0, u "com/example/pathstone/pathstone/SubstitutionModelKappaExchangeabilitiesPinLaw"), (0, u "matches"), (0, u "([DD)Z"), (0, .double 13830554455654793216), (1, .methodref 14 22), (0, .nameAndType 23 24), (0, u "expected"), (0, u "(IID)D"), (2, u "law"), (0, u "(II)Z")] 5

def k1m0 : Method := { name := "<init>", desc := "()V", sig := { parameters := [], returnType := none }, accessFlags := 1, code := none }
def k1c1 : Code := { maxStack := 4, maxLocals := 9, code := code, exceptionTable := #[], attributes := #[] }
def k1m1 : Method := { name := "law", desc := "(II)Z", sig := { parameters := [.int, .int], returnType := some .boolean }, accessFlags := 9, code := some k1c1 }
def k1c2 : Code := { maxStack := 6, maxLocals := 3, code := method_3_code, exceptionTable := #[], attributes := #[] }
def k1m2 : Method := { name := "matches", desc := "([DD)Z", sig := { parameters := [(.array .double), .double], returnType := some .boolean }, accessFlags := 10, code := some k1c2 }
def k1c3 : Code := { maxStack := 3, maxLocals := 4, code := method_4_code, exceptionTable := #[], attributes := #[] }
def k1m3 : Method := { name := "expected", desc := "(IID)D", sig := { parameters := [.int, .int, .double], returnType := some .double }, accessFlags := 10, code := some k1c3 }
/-- com/example/pathstone/pathstone/SubstitutionModelKappaExchangeabilitiesPinLaw -/
def k1 : Class := { plain "com/example/pathstone/pathstone/SubstitutionModelKappaExchangeabilitiesPinLaw" (some 0) with
  accessFlags := 49
  interfaces := #[]
  cf := some (fileOf pool1 14 #[] #[{ accessFlags := 1, nameIndex := 5, descriptorIndex := 6, attributes := #[] }, { accessFlags := 9, nameIndex := 27, descriptorIndex := 28, attributes := #[] }, { accessFlags := 10, nameIndex := 17, descriptorIndex := 18, attributes := #[] }, { accessFlags := 10, nameIndex := 23, descriptorIndex := 24, attributes := #[] }] 49 2 #[] #[])
  fields := #[]
  methods := #[k1m0, k1m1, k1m2, k1m3]
  instanceTypes := #[]
  staticTypes := #[]
  resolved := Array.replicate 34 none
  statics := none }

def pool2 : Array CpInfo := pool [(4, .class_ 6), (1, u "java/lang/Object"), (2, .class_ 10), (0, u "com/example/pathstone/pathstone/SubstitutionModel"), (2, u "eigenvalues"), (0, u "[D"), (1, u "[[D"), (2, u "coefficients"), (7, u "frequencies"), (8, u "FIRST"), (0, u "[I"), (2, u "SECOND"), (41, u "PAIRS"), (0, u "I"), (2, u "BASES"), (1, u "MAX_SWEEPS"), (5, u "kappaExchangeabilities"), (0, u "(D)[D")] 6

def k2c0 : Code := { maxStack := 5, maxLocals := 2, code := prog_25_method_2_code, exceptionTable := #[], attributes := #[] }
def k2m0 : Method := { name := "kappaExchangeabilities", desc := "(D)[D", sig := { parameters := [.double], returnType := some (.array .double) }, accessFlags := 8, code := some k2c0 }
/-- com/example/pathstone/pathstone/SubstitutionModel -/
def k2 : Class := { plain "com/example/pathstone/pathstone/SubstitutionModel" (some 0) with
  accessFlags := 48
  interfaces := #[]
  cf := some (fileOf pool2 9 #[] #[{ accessFlags := 8, nameIndex := 94, descriptorIndex := 95, attributes := #[] }] 48 4 #[] #[{ accessFlags := 26, nameIndex := 82, descriptorIndex := 83, attributes := #[] }, { accessFlags := 26, nameIndex := 86, descriptorIndex := 83, attributes := #[] }, { accessFlags := 26, nameIndex := 36, descriptorIndex := 37, attributes := #[] }, { accessFlags := 26, nameIndex := 40, descriptorIndex := 37, attributes := #[] }, { accessFlags := 26, nameIndex := 88, descriptorIndex := 83, attributes := #[] }, { accessFlags := 18, nameIndex := 27, descriptorIndex := 14, attributes := #[] }, { accessFlags := 18, nameIndex := 13, descriptorIndex := 14, attributes := #[] }, { accessFlags := 18, nameIndex := 19, descriptorIndex := 16, attributes := #[] }])
  fields := #[{ name := "PAIRS", type := .int, accessFlags := 26, slot := 0, constantValue := 0 }, { name := "BASES", type := .int, accessFlags := 26, slot := 1, constantValue := 0 }, { name := "FIRST", type := (.array .int), accessFlags := 26, slot := 2, constantValue := 0 }, { name := "SECOND", type := (.array .int), accessFlags := 26, slot := 3, constantValue := 0 }, { name := "MAX_SWEEPS", type := .int, accessFlags := 26, slot := 4, constantValue := 0 }, { name := "frequencies", type := (.array .double), accessFlags := 18, slot := 0, constantValue := 0 }, { name := "eigenvalues", type := (.array .double), accessFlags := 18, slot := 1, constantValue := 0 }, { name := "coefficients", type := (.array (.array .double)), accessFlags := 18, slot := 2, constantValue := 0 }]
  methods := #[k2m0]
  instanceTypes := #[(.array .double), (.array .double), (.array (.array .double))]
  staticTypes := #[.int, .int, (.array .int), (.array .int), .int]
  resolved := Array.replicate 102 none
  statics := none }

def pool3 : Array CpInfo := pool [(1, u "java/lang/Cloneable"), (0, .class_ 1), (0, u "java/lang/Object"), (0, .class_ 3)] 3

/-- java/lang/Cloneable -/
def k3 : Class := { plain "java/lang/Cloneable" (some 0) with
  accessFlags := 1537
  interfaces := #[]
  cf := some (fileOf pool3 2 #[] #[] 1537 4 #[] #[])
  fields := #[]
  methods := #[]
  instanceTypes := #[]
  staticTypes := #[]
  resolved := Array.replicate 8 none
  statics := none }

def pool4 : Array CpInfo := pool [(1, u "java/io/Serializable"), (0, .class_ 1), (0, u "java/lang/Object"), (0, .class_ 3)] 3

/-- java/io/Serializable -/
def k4 : Class := { plain "java/io/Serializable" (some 0) with
  accessFlags := 1537
  interfaces := #[]
  cf := some (fileOf pool4 2 #[] #[] 1537 4 #[] #[])
  fields := #[]
  methods := #[]
  instanceTypes := #[]
  staticTypes := #[]
  resolved := Array.replicate 8 none
  statics := none }

/-- the primitive byte -/
def k5 : Class := { plain "byte" none with kind := .primitive 'B', accessFlags := 0x411 }
/-- [B -/
def k6 : Class := { plain "[B" (some 0) with kind := .array 5 .byte, interfaces := #[3, 4], accessFlags := 1041 }

/-- the primitive double -/
def k7 : Class := { plain "double" none with kind := .primitive 'D', accessFlags := 0x411 }
/-- [D -/
def k8 : Class := { plain "[D" (some 0) with kind := .array 7 .double, interfaces := #[3, 4], accessFlags := 1041 }

/-- the primitive int -/
def k9 : Class := { plain "int" none with kind := .primitive 'I', accessFlags := 0x411 }
/-- [I -/
def k10 : Class := { plain "[I" (some 0) with kind := .array 9 .int, interfaces := #[3, 4], accessFlags := 1041 }

def heap : Heap := #[]
def classes : Array Class := #[k0, k1, k2, k3, k4, k5, k6, k7, k8, k9, k10]
def interned : List (Array UInt16 × Addr) := []
def slotsUsed : Nat := 0
def theMethod : MethodId := ⟨1, 1⟩
def args0 : Array Value := #[.int 3, .int 9]
def aboutOver (below : List Frame) : State where
  vm := { classes := classes, interned := interned.toArray }
  heap := heap
  slotsUsed := slotsUsed
  threads := #[{ frames := .invoking theMethod args0 :: below }]
def below0 : List Frame := [.native { method := ⟨0, 0⟩, args := #[] }]
def about1 : State := aboutOver below0
def p0 : Program := .bare "" "" ""
def e0 : Env := launch0.env 0 0 0
theorem w_frames : about1.frames = Frame.invoking theMethod args0 :: below0 := rfl
set_option maxRecDepth 65536 in
theorem w_args : argsFit about1.vm theMethod args0 = true := by decide +kernel
set_option maxRecDepth 65536 in
theorem w_heap : heapFits about1 = true := by decide +kernel
set_option maxRecDepth 65536 in
theorem w_runnable : about1.curStatus? = some .runnable := by decide +kernel
set_option maxRecDepth 65536 in
theorem w_alone : about1.alone = true := by decide +kernel
set_option maxRecDepth 65536 in
theorem w_named : about1.methodNamed? x = some theMethod := by decide +kernel
set_option maxRecDepth 65536 in
theorem w_hears : about1.hears theMethod below0 = true := by decide +kernel
set_option maxRecDepth 65536 in
theorem w_ripe : about1.ripe theMethod args0 below0 = true := by decide +kernel
theorem w_running : about1.status = .running := rfl
set_option maxRecDepth 65536 in
theorem w_room : about1.hasRoom e0.platform room_1 = true :=
  launch0.hasRoom_least _ room_1 (by decide +kernel) (by decide +kernel) (by decide +kernel) (by decide +kernel) (by decide +kernel) (by decide +kernel)
theorem allAtoms_all (ts : List Jvm.Cond) (a : Array Jvm.Value) (st : Jvm.State) : (allAtoms ts).before a st = ts.all (fun c => c.before a st) := by
  induction ts with
  | nil => rfl
  | cons c t ih =>
    show (Jvm.Cond.and c (allAtoms t)).before a st = _
    rw [Jvm.Cond.before_and, ih, List.all_cons]
def words1 : List Jvm.Cond := Jvm.Cond.code x code maxLocals ret :: tables_1
/-- a 'code' word, met by the world's own term for the bytes: nothing is compared byte by byte -/
theorem code_word {y : MethodName} {bytes : ByteArray} {mx : Nat} {rt : Option FieldType} {a : Array Value} {s : State} {m : MethodId} {meth : Method} {c : Code} (h1 : s.methodNamed? y = some m) (h2 : s.vm.method? m = some meth) (h3 : meth.code = some c) (h4 : c.code = bytes)
    (h5 : (c.maxLocals == mx && c.exceptionTable.isEmpty && decide (c.maxStack ≤ mostOperands) && decide (meth.sig.returnType = rt) && !meth.locks && decide (parseMethodDescriptor y.desc = some meth.sig)) = true) : (Jvm.Cond.code y bytes mx rt).before a s = true := by
  simp only [Bool.and_eq_true, beq_iff_eq, Bool.not_eq_true', decide_eq_true_eq] at h5
  obtain ⟨⟨⟨⟨⟨g1, g2⟩, g3⟩, g4⟩, g5⟩, g6⟩ := h5
  simp [Cond.before, Cond.holds, Cond.value, h1, h2, h3, h4, g1, g2, g3, g4, g5, g6]
def isCode : Jvm.Cond → Bool
  | .code _ _ _ _ => true
  | _ => false
theorem all_split {L : List Jvm.Cond} {P : Jvm.Cond → Bool} (h1 : L.all (fun c => isCode c || P c) = true) (h2 : ∀ c ∈ L.filter isCode, P c = true) : L.all P = true := by
  refine List.all_eq_true.mpr fun c hc => ?_
  have h := List.all_eq_true.mp h1 c hc
  rcases Bool.eq_false_or_eq_true (isCode c) with hi | hi
  · exact h2 c (List.mem_filter.mpr ⟨hc, hi⟩)
  · simpa [hi] using h
set_option maxRecDepth 65536 in
theorem w_c0 : (Jvm.Cond.code x code maxLocals ret).before args0 about1 = true := code_word (m := ⟨1, 1⟩) (meth := k1m1) (c := k1c1) (by decide +kernel) rfl rfl rfl (by decide +kernel)
set_option maxRecDepth 65536 in
theorem w_c1 : (Jvm.Cond.code ({ cls := "com/example/pathstone/pathstone/SubstitutionModel", name := "kappaExchangeabilities", desc := "(D)[D" } : Jvm.MethodName) prog_25_method_2_code (2 : Nat) (Option.some (Jvm.ClassFile.FieldType.array Jvm.ClassFile.FieldType.double))).before args0 about1 = true := code_word (m := ⟨2, 0⟩) (meth := k2m0) (c := k2c0) (by decide +kernel) rfl rfl rfl (by decide +kernel)
set_option maxRecDepth 65536 in
theorem w_c2 : (Jvm.Cond.code ({ cls := "com/example/pathstone/pathstone/SubstitutionModelKappaExchangeabilitiesPinLaw", name := "matches", desc := "([DD)Z" } : Jvm.MethodName) method_3_code (3 : Nat) (Option.some Jvm.ClassFile.FieldType.boolean)).before args0 about1 = true := code_word (m := ⟨1, 2⟩) (meth := k1m2) (c := k1c2) (by decide +kernel) rfl rfl rfl (by decide +kernel)
set_option maxRecDepth 65536 in
theorem w_c3 : (Jvm.Cond.code ({ cls := "com/example/pathstone/pathstone/SubstitutionModelKappaExchangeabilitiesPinLaw", name := "expected", desc := "(IID)D" } : Jvm.MethodName) method_4_code (4 : Nat) (Option.some Jvm.ClassFile.FieldType.double)).before args0 about1 = true := code_word (m := ⟨1, 3⟩) (meth := k1m3) (c := k1c3) (by decide +kernel) rfl rfl rfl (by decide +kernel)
def codes1 : List Jvm.Cond := [Jvm.Cond.code x code maxLocals ret, Jvm.Cond.code ({ cls := "com/example/pathstone/pathstone/SubstitutionModel", name := "kappaExchangeabilities", desc := "(D)[D" } : Jvm.MethodName) prog_25_method_2_code (2 : Nat) (Option.some (Jvm.ClassFile.FieldType.array Jvm.ClassFile.FieldType.double)), Jvm.Cond.code ({ cls := "com/example/pathstone/pathstone/SubstitutionModelKappaExchangeabilitiesPinLaw", name := "matches", desc := "([DD)Z" } : Jvm.MethodName) method_3_code (3 : Nat) (Option.some Jvm.ClassFile.FieldType.boolean), Jvm.Cond.code ({ cls := "com/example/pathstone/pathstone/SubstitutionModelKappaExchangeabilitiesPinLaw", name := "expected", desc := "(IID)D" } : Jvm.MethodName) method_4_code (4 : Nat) (Option.some Jvm.ClassFile.FieldType.double)]
set_option maxRecDepth 65536 in
theorem codes_eq : words1.filter isCode = codes1 := rfl
theorem w_codes : ∀ c ∈ words1.filter isCode, c.before args0 about1 = true := by
  rw [codes_eq]
  intro c hc
  simp only [codes1, List.mem_cons, List.not_mem_nil, or_false] at hc
  rcases hc with rfl | rfl | rfl | rfl
  · exact w_c0
  · exact w_c1
  · exact w_c2
  · exact w_c3
set_option maxRecDepth 65536 in
theorem w_t1 : words1.all (fun c => isCode c || c.before args0 about1) = true := by decide +kernel
theorem w_tables : (allAtoms (Jvm.Cond.code x code maxLocals ret :: tables_1)).before args0 about1 = true := by
  rw [allAtoms_all]
  show words1.all (fun c => c.before args0 about1) = true
  refine all_split ?_ w_codes
  rw [w_t1]
set_option maxRecDepth 65536 in
theorem w_case : (Jvm.Cond.and given_1 narrow_1).before args0 about1 = true := by decide +kernel
theorem w_applies : (headSpec (Jvm.Cond.code x code maxLocals ret :: tables_1) room_1).applies x e0.platform about1 = true :=
  (Spec.applies_iff w_frames).mpr ⟨w_running, w_runnable, w_alone, w_named, w_hears, w_ripe, w_room, w_tables⟩
theorem atStart : AtStart classFile x code maxLocals ret World_1 tables_1 room_1 Calls_1 rest_1 Pre_1 launch0 p0 e0 about1 theMethod args0 below0 :=
  ⟨lists_1, trivial, launch0.admits_env _ _ _, launch0.least_env, fairChoices_fair.cas, fairChoices_fair.clock, w_frames, w_args, w_heap, w_applies, trivial, trivial, w_case⟩
end start1
theorem witness_1 : WitnessClaimed_1 := ⟨start1.p0, start1.e0, start1.about1, start1.theMethod, start1.args0, start1.below0, start1.atStart⟩
end Jvm.Pilot.@@N@@
