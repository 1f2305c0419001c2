import JvmDerived
import JvmDerived.Pilot.@@N@@Statement
import JvmDerived.Pilot.@@N@@Code
set_option linter.unusedVariables false
set_option linter.unusedSimpArgs false
namespace Jvm.Pilot.@@N@@
open Jvm Jvm.ClassFile Sem Op Lib Jvm.Free Jvm.Stand Jvm.LawKit Jvm.RoadKit Bundle Jvm.Pilot.@@N@@.Jvm.D
section Own
variable {p : Program} {l : Launch} {e : Env} {R : Room} {s : State} {m : MethodId} {args : Array Value} {below : List Frame} {meth : Method} {c : Code} {T : State} {locs : List Loc} {cells slots : Nat} {Z : State} {a0 : Array Value} {h : Heap}
/-- from S the invocation ends, and G holds of the end -/
def Gl (p : Program) (e : Env) (below : List Frame) (G : State → Outcome → Prop) (S : State) : Prop :=
  ∃ s₂ o, Steps p.tables e below S s₂ ∧ s₂.status = .running ∧ Ended s₂ below o ∧ G s₂ o
theorem Gl.of {G : State → Outcome → Prop} {S S' : State} (h : ∀ t, Steps p.tables e below S' t → Steps p.tables e below S t) (g : Gl p e below G S') : Gl p e below G S := by
  obtain ⟨s2, o, a, b⟩ := g
  exact ⟨s2, o, h _ a, b⟩
def Gd (s : State) (Q : Option Value → Heap → List Loc → Prop) (C N : Nat) (t : State) (o : Outcome) : Prop := ∃ v L, o = .returned v ∧ Q v t.heap L ∧ FrameEnd s o t L C N
def Con (l : Launch) (Z : State) (y : MethodName) (bytes : ByteArray) (maxL : Nat) (rt : Option FieldType) (ws : List Jvm.Cond) (rm : Room) (C N : Nat) (as : Array Value) (h : Heap) (Q : Option Value → Heap → List Loc → Prop) : Prop :=
  MetFree l y (head1 (Jvm.Cond.code y bytes maxL rt :: ws) rm) (fun a U => a = as ∧ Z.Warmed39 U.vm ∧ U.heap = h) (fun _ _ _ _ _ => True) (fun _ U o U' => ∃ v L, o = .returned v ∧ Q v U'.heap L ∧ FrameEnd U o U' L C N)
theorem Con.intro {y : MethodName} {bytes : ByteArray} {maxL : Nat} {rt : Option FieldType} {ws : List Jvm.Cond} {rm : Room} {C N : Nat} {as : Array Value} {Q : Option Value → Heap → List Loc → Prop} (hp : plainFor y = true)
    (body : ∀ p e s m below meth c s₁, Stand p l e rm s m as below meth c s₁ [] 0 0 → p.tables.exec = Jvm.exec → c.code = bytes → c.maxLocals = maxL → Z.Warmed39 s.vm → s.vm.findClass y.cls = some m.cls → meth.name = y.name → meth.sig.returnType = rt → meth.locks = false → s₁.heap = h → s.heap = h →
      Gl p e below (Gd s Q C N) (s₁.setTop (entryFrame m as maxL))) : Con l Z y bytes maxL rt ws rm C N as h Q := by
  refine MetFree.of_bodySF hp hisR ?_
  intro p e s m args below meth c s₁ Bd hml0 hP hK
  obtain ⟨rfl, hZ, hh⟩ := hP
  exact body p e s m below meth c s₁ (Stand.of_body Bd) Bd.exec Bd.bytes hml0 hZ (findClass_of_methodNamed Bd.named) (name_of_methodNamed Bd.named Bd.method).1 Bd.returns (BodyLoose.notSynchronized Bd) (by rw [← hh, Bd.state]; rfl) hh
theorem Gl.leaf {Q : Option Value → Heap → List Loc → Prop} {C N : Nat} (X : Stand p l e R s m args below meth c T locs cells slots) (hlk : meth.locks = false) {v : Option Value} (hv : meth.sig.returnType = none → v = none) {S : State}
    (st : ∀ fs, (∀ (f : JFrame) (acts : List Action), f.method = m → f.locked = none → f.entered = [] → (doReturn e (T.setTop f) acts v).1 = T.setFrames fs) → Steps p.tables e below S (T.setFrames fs)) (eT : T.heap = h) (hQ : Q v h locs) (hC : cells ≤ C) (hN : slots ≤ N) : Gl p e below (Gd s Q C N) S := by
  obtain ⟨fs, hr, hrun, hended, hW, hsame⟩ := X.leave (v := v) hv hlk
  exact ⟨_, _, st fs hr, hrun, hended, v, locs, rfl, by show Q v T.heap locs; rw [eT]; exact hQ, ⟨_, rfl⟩, hW, hsame.mono hC hN⟩
/-- ireturn of an int -/
theorem Gl.retI {Q : Option Value → Heap → List Loc → Prop} {C N : Nat} (X : Stand p l e R s m args below meth c T locs cells slots) (hx : p.tables.exec = Jvm.exec) (hlk : meth.locks = false) (hret : meth.sig.returnType = some .int) {pc : Nat} {Ls : Array Slot} {z : Int32} {rest : List Value} (hd : decode c.code pc = .ok (.ireturn, 1))
    (eT : T.heap = h) (hQ : Q (some (.int z)) h locs) (hC : cells ≤ C) (hN : slots ≤ N) : Gl p e below (Gd s Q C N) (T.setTop (mkF m pc Ls (.int z :: rest))) :=
  Gl.leaf X hlk (fun q => by rw [hret] at q; cases q) (fun fs hr => retOut X hx hret rfl (Or.inl ⟨rfl, Or.inl rfl, z, rfl⟩) hd hr) eT hQ hC hN
/-- ireturn of a boolean, byte, char, short -/
theorem Gl.retN {Q : Option Value → Heap → List Loc → Prop} {C N : Nat} (X : Stand p l e R s m args below meth c T locs cells slots) (hx : p.tables.exec = Jvm.exec) (hlk : meth.locks = false) {t : FieldType} (hret : meth.sig.returnType = some t) (ht : t = .boolean ∨ t = .byte ∨ t = .char ∨ t = .short) {pc : Nat} {Ls : Array Slot} {z : Int32} {rest : List Value} (hd : decode c.code pc = .ok (.ireturn, 1))
    (eT : T.heap = h) (hQ : Q (some (.int (nar t z))) h locs) (hC : cells ≤ C) (hN : slots ≤ N) : Gl p e below (Gd s Q C N) (T.setTop (mkF m pc Ls (.int z :: rest))) :=
  Gl.leaf X hlk (fun q => by rw [hret] at q; cases q) (fun fs hr => Jvm.RoadKit.retN X hx hret ht hd hr) eT hQ hC hN
/-- areturn -/
theorem Gl.retR {Q : Option Value → Heap → List Loc → Prop} {C N : Nat} (X : Stand p l e R s m args below meth c T locs cells slots) (hx : p.tables.exec = Jvm.exec) (hlk : meth.locks = false) {t : FieldType} (hret : meth.sig.returnType = some t) (ht : t.isReference = true) {pc : Nat} {Ls : Array Slot} {w : Value} (hw : w.isRef = true) {rest : List Value} (hd : decode c.code pc = .ok (.areturn, 1))
    (eT : T.heap = h) (hQ : Q (some w) h locs) (hC : cells ≤ C) (hN : slots ≤ N) : Gl p e below (Gd s Q C N) (T.setTop (mkF m pc Ls (w :: rest))) :=
  Gl.leaf X hlk (fun q => by rw [hret] at q; cases q) (fun fs hr => retOut X hx hret (by cases t <;> first | (cases ht; done) | (rcases ref_cases hw with rfl | ⟨_, rfl⟩ <;> rfl)) (Or.inr (Or.inr (Or.inr (Or.inr ⟨rfl, ht, hw⟩)))) hd hr) eT hQ hC hN
/-- dreturn -/
theorem Gl.retD {Q : Option Value → Heap → List Loc → Prop} {C N : Nat} (X : Stand p l e R s m args below meth c T locs cells slots) (hx : p.tables.exec = Jvm.exec) (hlk : meth.locks = false) (hret : meth.sig.returnType = some .double) {pc : Nat} {Ls : Array Slot} {z : UInt64} {rest : List Value} (hd : decode c.code pc = .ok (.dreturn, 1))
    (eT : T.heap = h) (hQ : Q (some (.double z)) h locs) (hC : cells ≤ C) (hN : slots ≤ N) : Gl p e below (Gd s Q C N) (T.setTop (mkF m pc Ls (.double z :: rest))) :=
  Gl.leaf X hlk (fun q => by rw [hret] at q; cases q) (fun fs hr => retOut X hx hret rfl (Or.inr (Or.inr (Or.inl ⟨rfl, rfl, z, rfl⟩))) hd hr) eT hQ hC hN
/-- return -/
theorem Gl.ret0 {Q : Option Value → Heap → List Loc → Prop} {C N : Nat} (X : Stand p l e R s m args below meth c T locs cells slots) (hx : p.tables.exec = Jvm.exec) (hlk : meth.locks = false) (hret : meth.sig.returnType = none) {pc : Nat} {Ls : Array Slot} (hd : decode c.code pc = .ok (.return_, 1))
    (eT : T.heap = h) (hQ : Q none h locs) (hC : cells ≤ C) (hN : slots ≤ N) : Gl p e below (Gd s Q C N) (T.setTop (mkF m pc Ls [])) :=
  Gl.leaf X hlk (fun _ => rfl) (fun fs hr => X.returnOut hx hret hd hr) eT hQ hC hN
/-- the end of a walk that may have interned -/
def GdW (s : State) (Q : Option Value → Heap → List Loc → Prop) (C N : Nat) (t : State) (o : Outcome) : Prop := ∃ v L, o = .returned v ∧ Q v t.heap L ∧ ReturnedEndW s o t L C N
def ConW (l : Launch) (Z : State) (y : MethodName) (bytes : ByteArray) (maxL : Nat) (rt : Option FieldType) (ws : List Jvm.Cond) (rm : Room) (C N : Nat) (as : Array Value) (h : Heap) (Q : Option Value → Heap → List Loc → Prop) : Prop :=
  MetFree l y (head1 (Jvm.Cond.code y bytes maxL rt :: ws) rm) (fun a U => a = as ∧ Z.Warmed39 U.vm ∧ U.heap = h) (fun _ _ _ _ _ => True) (fun _ U o U' => ∃ v L, o = .returned v ∧ Q v U'.heap L ∧ ReturnedEndW U o U' L C N)
theorem ConW.intro {y : MethodName} {bytes : ByteArray} {maxL : Nat} {rt : Option FieldType} {ws : List Jvm.Cond} {rm : Room} {C N : Nat} {as : Array Value} {Q : Option Value → Heap → List Loc → Prop} (hp : plainFor y = true)
    (body : ∀ p e s m below meth c s₁, Stand p l e rm s m as below meth c s₁ [] 0 0 → p.tables.exec = Jvm.exec → c.code = bytes → c.maxLocals = maxL → Z.Warmed39 s.vm → s.vm.findClass y.cls = some m.cls → meth.name = y.name → meth.sig.returnType = rt → meth.locks = false → s₁.heap = h → s.heap = h →
      Gl p e below (GdW s Q C N) (s₁.setTop (entryFrame m as maxL))) : ConW l Z y bytes maxL rt ws rm C N as h Q := by
  refine MetFree.of_bodySF hp hisR ?_
  intro p e s m args below meth c s₁ Bd hml0 hP hK
  obtain ⟨rfl, hZ, hh⟩ := hP
  exact body p e s m below meth c s₁ (Stand.of_body Bd) Bd.exec Bd.bytes hml0 hZ (findClass_of_methodNamed Bd.named) (name_of_methodNamed Bd.named Bd.method).1 Bd.returns (BodyLoose.notSynchronized Bd) (by rw [← hh, Bd.state]; rfl) hh
theorem Gl.leafW {Q : Option Value → Heap → List Loc → Prop} {C N n : Nat} {vm₁ : Vm} (X : Stand p l e R (s.setVm vm₁) m args below meth c T locs cells slots) (hlk : meth.locks = false) {v : Option Value} (hv : meth.sig.returnType = none → v = none) {S : State}
    (st : ∀ fs, (∀ (f : JFrame) (acts : List Action), f.method = m → f.locked = none → f.entered = [] → (doReturn e (T.setTop f) acts v).1 = T.setFrames fs) → Steps p.tables e below S (T.setFrames fs)) (eT : T.heap = h) (hQ : Q v h locs) (hS : s.Since vm₁ n) (hn : n ≤ h.size) (hC : cells ≤ C) (hN : slots ≤ N) : Gl p e below (GdW s Q C N) S := by
  obtain ⟨fs, hr, hrun, hended, hW⟩ := X.leaveW hS (by rw [eT]; exact hn) (v := v) hv hlk
  exact ⟨_, _, st fs hr, hrun, hended, v, locs, rfl, by show Q v T.heap locs; rw [eT]; exact hQ, hW.1, hW.2.1, hW.2.2.1, hW.2.2.2.mono hC hN⟩
theorem Gl.retNW {Q : Option Value → Heap → List Loc → Prop} {C N n : Nat} {vm₁ : Vm} (X : Stand p l e R (s.setVm vm₁) m args below meth c T locs cells slots) (hx : p.tables.exec = Jvm.exec) (hlk : meth.locks = false) {t : FieldType} (hret : meth.sig.returnType = some t) (ht : t = .boolean ∨ t = .byte ∨ t = .char ∨ t = .short) {pc : Nat} {Ls : Array Slot} {z : Int32} {rest : List Value} (hd : decode c.code pc = .ok (.ireturn, 1))
    (eT : T.heap = h) (hQ : Q (some (.int (nar t z))) h locs) (hS : s.Since vm₁ n) (hn : n ≤ h.size) (hC : cells ≤ C) (hN : slots ≤ N) : Gl p e below (GdW s Q C N) (T.setTop (mkF m pc Ls (.int z :: rest))) :=
  Gl.leafW X hlk (fun q => by rw [hret] at q; cases q) (fun fs hr => Jvm.RoadKit.retN X hx hret ht hd hr) eT hQ hS hn hC hN
theorem Gl.retRW {Q : Option Value → Heap → List Loc → Prop} {C N n : Nat} {vm₁ : Vm} (X : Stand p l e R (s.setVm vm₁) m args below meth c T locs cells slots) (hx : p.tables.exec = Jvm.exec) (hlk : meth.locks = false) {t : FieldType} (hret : meth.sig.returnType = some t) (ht : t.isReference = true) {pc : Nat} {Ls : Array Slot} {w : Value} (hw : w.isRef = true) {rest : List Value} (hd : decode c.code pc = .ok (.areturn, 1))
    (eT : T.heap = h) (hQ : Q (some w) h locs) (hS : s.Since vm₁ n) (hn : n ≤ h.size) (hC : cells ≤ C) (hN : slots ≤ N) : Gl p e below (GdW s Q C N) (T.setTop (mkF m pc Ls (w :: rest))) :=
  Gl.leafW X hlk (fun q => by rw [hret] at q; cases q) (fun fs hr => retOut X hx hret (by cases t <;> first | (cases ht; done) | (rcases ref_cases hw with rfl | ⟨_, rfl⟩ <;> rfl)) (Or.inr (Or.inr (Or.inr (Or.inr ⟨rfl, ht, hw⟩)))) hd hr) eT hQ hS hn hC hN
theorem ref_nar {r : Value} {C : String} (h : r.isRef = true) : narrow (.object C) r = r := by rcases ref_cases h with rfl | ⟨_, rfl⟩ <;> rfl
theorem ref_fit {r : Value} {C : String} (h : r.isRef = true) : fits (.object C) r = true := by rcases ref_cases h with rfl | ⟨_, rfl⟩ <;> rfl
theorem cat_ref {r : Value} (h : r.isRef = true) : r.category = 1 := by rcases ref_cases h with rfl | ⟨_, rfl⟩ <;> rfl
/-- what a callee that writes and makes nothing leaves -/
def Pur (F : Option Value → Prop) (h0 : Heap) (v : Option Value) (h : Heap) (L : List Loc) : Prop := F v ∧ h = h0 ∧ L = []
theorem desc_ne {n : String} (h : (n == "java/lang/invoke/MethodHandle" || n == "java/lang/invoke/VarHandle") = false) : n ≠ "java/lang/invoke/MethodHandle" ∧ n ≠ "java/lang/invoke/VarHandle" := by
  simp only [Bool.or_eq_false_iff, beq_eq_false_iff_ne, ne_eq] at h
  exact h
/-- a static call by its contract -/
theorem Gl.callS {G : State → Outcome → Prop} (X : Stand p l e R s m args below meth c T locs cells slots) (hx : p.tables.exec = Jvm.exec) (hZ : Z.Warmed39 s.vm) {own : String} {index : Nat} {y : MethodName} {bytes : ByteArray} {maxL : Nat} {rt : Option FieldType} (hown : s.vm.findClass own = some m.cls)
    (w1 : (Jvm.Cond.methodLink own index y).before a0 Z = true) (w2 : (Jvm.Cond.static y).before a0 Z = true) (w3 : (Jvm.Cond.initialized y.cls).before a0 Z = true) (w4 : (Jvm.Cond.code y bytes maxL rt).before a0 Z = true) (hy : y.cls ≠ "java/lang/invoke/MethodHandle" ∧ y.cls ≠ "java/lang/invoke/VarHandle")
    {rm : Room} {Q : Option Value → Heap → List Loc → Prop} {argsL rest : List Value} (hM : Con l Z y bytes maxL rt [] rm rm.cells rm.slots argsL.toArray h Q) (W : Nat) (hf : rm.frames + 1 ≤ R.frames) (hl : W + (maxL + 11) + rm.locals ≤ R.locals) (hcl : cells + rm.cells ≤ R.cells) (hsl : slots + rm.slots ≤ R.slots) (eT : T.heap = h)
    {pc : Nat} {Ls : Array Slot} {st : List Value} (hsz : Ls.size = c.maxLocals) {ps : List FieldType} {r' : Option FieldType} (hds : parseMethodDescriptor y.desc = some ⟨ps, r'⟩) (hlen : argsL.length = ps.length) (hst : st = argsL.reverse ++ rest) (hW : 2 * 0 + (rest.map fun v => v.category).sum ≤ W) (hd : decode c.code pc = .ok (.invokestatic index, 3))
    (k : ∀ (v : Option Value) (T' : State) (L : List Loc), Stand p l e R s m args below meth c T' (locs ++ L) (cells + rm.cells) (slots + rm.slots) → Q v T'.heap L → Gl p e below G (T'.setTop (mkF m (pc + 3) Ls (v.toList ++ rest)))) : Gl p e below G (T.setTop (mkF m pc Ls st)) := by
  obtain ⟨v, _, ⟨T', L', k', n'⟩, -, X', ⟨Lc, hQ, l1, y1, z1⟩, stp⟩ := Jvm.LawKit.callS X hx (y := y) hown (mvT hZ w1) (mvT hZ w2) (mvT hZ w3) (mvT hZ w4) hy (backOf (W := W) hM hZ w4 w3 hf hl) (g := mkF m pc Ls st) rfl hsz (argsL := argsL) (rest := rest) (lenOf hds hlen) hst hW hd (fun _ _ => ⟨rfl, eT, hcl, hsl⟩)
  dsimp only [Pt.U, Pt.locs, Pt.cells, Pt.slots] at X' l1 y1 z1 stp hQ
  subst l1 y1 z1
  exact Gl.of stp (k v T' Lc X' hQ)
theorem Gl.callS0 {G : State → Outcome → Prop} (X : Stand p l e R s m args below meth c T locs cells slots) (hx : p.tables.exec = Jvm.exec) (hZ : Z.Warmed39 s.vm) {own : String} {index : Nat} {y : MethodName} {bytes : ByteArray} {maxL : Nat} {rt : Option FieldType} (hown : s.vm.findClass own = some m.cls)
    (w1 : (Jvm.Cond.methodLink own index y).before a0 Z = true) (w2 : (Jvm.Cond.static y).before a0 Z = true) (w3 : (Jvm.Cond.initialized y.cls).before a0 Z = true) (w4 : (Jvm.Cond.code y bytes maxL rt).before a0 Z = true) (hy : y.cls ≠ "java/lang/invoke/MethodHandle" ∧ y.cls ≠ "java/lang/invoke/VarHandle")
    {fr lo : Nat} {F : Option Value → Prop} {argsL rest : List Value} (hM : Con l Z y bytes maxL rt [] ({ frames := fr, cells := 0, slots := 0, locals := lo } : Room) 0 0 argsL.toArray h (Pur F h)) (W : Nat) (hf : fr + 1 ≤ R.frames) (hl : W + (maxL + 11) + lo ≤ R.locals) (eT : T.heap = h)
    {pc : Nat} {Ls : Array Slot} {st : List Value} (hsz : Ls.size = c.maxLocals) {ps : List FieldType} {r' : Option FieldType} (hds : parseMethodDescriptor y.desc = some ⟨ps, r'⟩) (hlen : argsL.length = ps.length) (hst : st = argsL.reverse ++ rest) (hW : 2 * 0 + (rest.map fun v => v.category).sum ≤ W) (hd : decode c.code pc = .ok (.invokestatic index, 3)) (hcl : cells ≤ R.cells) (hsl : slots ≤ R.slots)
    (k : ∀ (v : Option Value) (T' : State), Stand p l e R s m args below meth c T' locs cells slots → T'.heap = h → F v → Gl p e below G (T'.setTop (mkF m (pc + 3) Ls (v.toList ++ rest)))) : Gl p e below G (T.setTop (mkF m pc Ls st)) := by
  refine Gl.callS X hx hZ hown w1 w2 w3 w4 hy hM W hf hl hcl hsl eT hsz hds hlen hst hW hd ?_
  intro v T' L X' hQ
  obtain ⟨q1, q2, rfl⟩ := hQ
  rw [List.append_nil] at X'
  exact k v T' X' q2 q1
/-- an instance method that the receiver's class selects, by its contract -/
theorem Gl.callV {G : State → Outcome → Prop} (X : Stand p l e R s m args below meth c T locs cells slots) (hx : p.tables.exec = Jvm.exec) (hZ : Z.Warmed39 s.vm) {own C : String} {index : Nat} {y z : MethodName} {bytes : ByteArray} {maxL : Nat} {rt : Option FieldType} (hown : s.vm.findClass own = some m.cls)
    (w1 : (Jvm.Cond.methodLink own index y).before a0 Z = true) (w2 : (Jvm.Cond.declares y).before a0 Z = true) (nf : NotFace s y) (w3 : (Jvm.Cond.selects C y z).before a0 Z = true) (w4 : (Jvm.Cond.instanceMethod z).before a0 Z = true) (w5 : (Jvm.Cond.code z bytes maxL rt).before a0 Z = true) (w6 : (Jvm.Cond.initialized z.cls).before a0 Z = true) (hy : y.cls ≠ "java/lang/invoke/MethodHandle" ∧ y.cls ≠ "java/lang/invoke/VarHandle")
    {rm : Room} {Q : Option Value → Heap → List Loc → Prop} {b : Addr} {argsL rest : List Value} (hE : Exa Z h b C) (hM : Con l Z z bytes maxL rt [] rm rm.cells rm.slots (.ref b :: argsL).toArray h Q) (W : Nat) (hf : rm.frames + 1 ≤ R.frames) (hl : W + (maxL + 11) + rm.locals ≤ R.locals) (hcl : cells + rm.cells ≤ R.cells) (hsl : slots + rm.slots ≤ R.slots) (eT : T.heap = h)
    {pc : Nat} {Ls : Array Slot} {st : List Value} (hsz : Ls.size = c.maxLocals) {ps : List FieldType} {r' : Option FieldType} (hds : parseMethodDescriptor y.desc = some ⟨ps, r'⟩) (hlen : argsL.length = ps.length) (hst : st = argsL.reverse ++ .ref b :: rest) (hW : 2 * 0 + (rest.map fun v => v.category).sum ≤ W) (hd : decode c.code pc = .ok (.invokevirtual index, 3))
    (k : ∀ (v : Option Value) (T' : State) (L : List Loc), Stand p l e R s m args below meth c T' (locs ++ L) (cells + rm.cells) (slots + rm.slots) → Q v T'.heap L → Gl p e below G (T'.setTop (mkF m (pc + 3) Ls (v.toList ++ rest)))) : Gl p e below G (T.setTop (mkF m pc Ls st)) := by
  obtain ⟨cq, kq, qa, qb, qc⟩ := isOf hZ eT hE
  obtain ⟨v, _, ⟨T', L', k', n'⟩, -, X', ⟨Lc, hQ, l1, y1, z1⟩, stp⟩ := X.virtualBack hx (y := y) (z := z) hown (mvT hZ w1) (mvT hZ w2) nf (mvT hZ w3) (mvT hZ w4) hy (backOf (W := W) hM hZ w5 w6 hf hl) qa qc (g := mkF m pc Ls st) rfl hsz (Steps.refl _) (argsL := argsL) (rest := rest) (lenOf hds hlen) hst hW hd (fun _ _ => ⟨rfl, eT, hcl, hsl⟩)
  dsimp only [Pt.U, Pt.locs, Pt.cells, Pt.slots] at X' l1 y1 z1 stp hQ
  subst l1 y1 z1
  exact Gl.of (fun t q => stp.trans q) (k v T' Lc X' hQ)
theorem Gl.callV0 {G : State → Outcome → Prop} (X : Stand p l e R s m args below meth c T locs cells slots) (hx : p.tables.exec = Jvm.exec) (hZ : Z.Warmed39 s.vm) {own C : String} {index : Nat} {y z : MethodName} {bytes : ByteArray} {maxL : Nat} {rt : Option FieldType} (hown : s.vm.findClass own = some m.cls)
    (w1 : (Jvm.Cond.methodLink own index y).before a0 Z = true) (w2 : (Jvm.Cond.declares y).before a0 Z = true) (nf : NotFace s y) (w3 : (Jvm.Cond.selects C y z).before a0 Z = true) (w4 : (Jvm.Cond.instanceMethod z).before a0 Z = true) (w5 : (Jvm.Cond.code z bytes maxL rt).before a0 Z = true) (w6 : (Jvm.Cond.initialized z.cls).before a0 Z = true) (hy : y.cls ≠ "java/lang/invoke/MethodHandle" ∧ y.cls ≠ "java/lang/invoke/VarHandle")
    {fr lo : Nat} {F : Option Value → Prop} {b : Addr} {argsL rest : List Value} (hE : Exa Z h b C) (hM : Con l Z z bytes maxL rt [] ({ frames := fr, cells := 0, slots := 0, locals := lo } : Room) 0 0 (.ref b :: argsL).toArray h (Pur F h)) (W : Nat) (hf : fr + 1 ≤ R.frames) (hl : W + (maxL + 11) + lo ≤ R.locals) (eT : T.heap = h)
    {pc : Nat} {Ls : Array Slot} {st : List Value} (hsz : Ls.size = c.maxLocals) {ps : List FieldType} {r' : Option FieldType} (hds : parseMethodDescriptor y.desc = some ⟨ps, r'⟩) (hlen : argsL.length = ps.length) (hst : st = argsL.reverse ++ .ref b :: rest) (hW : 2 * 0 + (rest.map fun v => v.category).sum ≤ W) (hd : decode c.code pc = .ok (.invokevirtual index, 3)) (hcl : cells ≤ R.cells) (hsl : slots ≤ R.slots)
    (k : ∀ (v : Option Value) (T' : State), Stand p l e R s m args below meth c T' locs cells slots → T'.heap = h → F v → Gl p e below G (T'.setTop (mkF m (pc + 3) Ls (v.toList ++ rest)))) : Gl p e below G (T.setTop (mkF m pc Ls st)) := by
  refine Gl.callV X hx hZ hown w1 w2 nf w3 w4 w5 w6 hy hE hM W hf hl hcl hsl eT hsz hds hlen hst hW hd ?_
  intro v T' L X' hQ
  obtain ⟨q1, q2, rfl⟩ := hQ
  rw [List.append_nil] at X'
  exact k v T' X' q2 q1
/-- a private instance method by its contract -/
theorem Gl.callP {G : State → Outcome → Prop} (X : Stand p l e R s m args below meth c T locs cells slots) (hx : p.tables.exec = Jvm.exec) (hZ : Z.Warmed39 s.vm) {own C : String} {index : Nat} {y : MethodName} {bytes : ByteArray} {maxL : Nat} {rt : Option FieldType} (hown : s.vm.findClass own = some m.cls)
    (w1 : (Jvm.Cond.methodLink own index y).before a0 Z = true) (nf : NotFace s y) (w3 : (Jvm.Cond.privateMethod y).before a0 Z = true) (w4 : (Jvm.Cond.instanceMethod y).before a0 Z = true) (w5 : (Jvm.Cond.code y bytes maxL rt).before a0 Z = true) (w6 : (Jvm.Cond.initialized y.cls).before a0 Z = true) (hy : y.cls ≠ "java/lang/invoke/MethodHandle" ∧ y.cls ≠ "java/lang/invoke/VarHandle")
    {rm : Room} {Q : Option Value → Heap → List Loc → Prop} {b : Addr} {argsL rest : List Value} (hE : Exa Z h b C) (hM : Con l Z y bytes maxL rt [] rm rm.cells rm.slots (.ref b :: argsL).toArray h Q) (W : Nat) (hf : rm.frames + 1 ≤ R.frames) (hl : W + (maxL + 11) + rm.locals ≤ R.locals) (hcl : cells + rm.cells ≤ R.cells) (hsl : slots + rm.slots ≤ R.slots) (eT : T.heap = h)
    {pc : Nat} {Ls : Array Slot} {st : List Value} (hsz : Ls.size = c.maxLocals) {ps : List FieldType} {r' : Option FieldType} (hds : parseMethodDescriptor y.desc = some ⟨ps, r'⟩) (hlen : argsL.length = ps.length) (hst : st = argsL.reverse ++ .ref b :: rest) (hW : 2 * 0 + (rest.map fun v => v.category).sum ≤ W) (hd : decode c.code pc = .ok (.invokevirtual index, 3))
    (k : ∀ (v : Option Value) (T' : State) (L : List Loc), Stand p l e R s m args below meth c T' (locs ++ L) (cells + rm.cells) (slots + rm.slots) → Q v T'.heap L → Gl p e below G (T'.setTop (mkF m (pc + 3) Ls (v.toList ++ rest)))) : Gl p e below G (T.setTop (mkF m pc Ls st)) := by
  obtain ⟨cq, q, q'⟩ := hE.cell
  have hpv := Cond.privateMethod_at (mvP hZ w3 (args := #[]))
  have hin : (Jvm.Cond.instanceMethod y).before args s = true := mvT hZ w4
  obtain ⟨mk, methM, hnamed, hmethM, -, -⟩ := Cond.instanceMethod_spec hin
  obtain ⟨kc, hkc, hkni⟩ := nf mk hnamed
  have hsel : (Jvm.Cond.selects y.cls y y).before args s = true := selects_self_of_private (findClass_of_methodNamed hnamed) hkc hkni hpv hin hy
  obtain ⟨v, _, ⟨T', L', k', n'⟩, -, X', ⟨Lc, hQ, l1, y1, z1⟩, stp⟩ := X.privateBack hx (y := y) hown (mvT hZ w1) hin hsel hpv (mvT hZ w5) hy (backOf (W := W) hM hZ w5 w6 hf hl) (g := mkF m pc Ls st) rfl hsz (Steps.refl _) (a := b) (by rw [eT]; exact q) q' (argsL := argsL) (rest := rest) (lenOf hds hlen) hst hW hd (fun _ _ => ⟨rfl, eT, hcl, hsl⟩)
  dsimp only [Pt.U, Pt.locs, Pt.cells, Pt.slots] at X' l1 y1 z1 stp hQ
  subst l1 y1 z1
  exact Gl.of (fun t q => stp.trans q) (k v T' Lc X' hQ)
theorem Gl.callP0 {G : State → Outcome → Prop} (X : Stand p l e R s m args below meth c T locs cells slots) (hx : p.tables.exec = Jvm.exec) (hZ : Z.Warmed39 s.vm) {own C : String} {index : Nat} {y : MethodName} {bytes : ByteArray} {maxL : Nat} {rt : Option FieldType} (hown : s.vm.findClass own = some m.cls)
    (w1 : (Jvm.Cond.methodLink own index y).before a0 Z = true) (nf : NotFace s y) (w3 : (Jvm.Cond.privateMethod y).before a0 Z = true) (w4 : (Jvm.Cond.instanceMethod y).before a0 Z = true) (w5 : (Jvm.Cond.code y bytes maxL rt).before a0 Z = true) (w6 : (Jvm.Cond.initialized y.cls).before a0 Z = true) (hy : y.cls ≠ "java/lang/invoke/MethodHandle" ∧ y.cls ≠ "java/lang/invoke/VarHandle")
    {fr lo : Nat} {F : Option Value → Prop} {b : Addr} {argsL rest : List Value} (hE : Exa Z h b C) (hM : Con l Z y bytes maxL rt [] ({ frames := fr, cells := 0, slots := 0, locals := lo } : Room) 0 0 (.ref b :: argsL).toArray h (Pur F h)) (W : Nat) (hf : fr + 1 ≤ R.frames) (hl : W + (maxL + 11) + lo ≤ R.locals) (eT : T.heap = h)
    {pc : Nat} {Ls : Array Slot} {st : List Value} (hsz : Ls.size = c.maxLocals) {ps : List FieldType} {r' : Option FieldType} (hds : parseMethodDescriptor y.desc = some ⟨ps, r'⟩) (hlen : argsL.length = ps.length) (hst : st = argsL.reverse ++ .ref b :: rest) (hW : 2 * 0 + (rest.map fun v => v.category).sum ≤ W) (hd : decode c.code pc = .ok (.invokevirtual index, 3)) (hcl : cells ≤ R.cells) (hsl : slots ≤ R.slots)
    (k : ∀ (v : Option Value) (T' : State), Stand p l e R s m args below meth c T' locs cells slots → T'.heap = h → F v → Gl p e below G (T'.setTop (mkF m (pc + 3) Ls (v.toList ++ rest)))) : Gl p e below G (T.setTop (mkF m pc Ls st)) := by
  refine Gl.callP X hx hZ hown w1 nf w3 w4 w5 w6 hy hE hM W hf hl hcl hsl eT hsz hds hlen hst hW hd ?_
  intro v T' L X' hQ
  obtain ⟨q1, q2, rfl⟩ := hQ
  rw [List.append_nil] at X'
  exact k v T' X' q2 q1
/-- a constructor by its contract -/
theorem Gl.callI {G : State → Outcome → Prop} (X : Stand p l e R s m args below meth c T locs cells slots) (hx : p.tables.exec = Jvm.exec) (hZ : Z.Warmed39 s.vm) {own : String} {index : Nat} {y : MethodName} {bytes : ByteArray} {maxL : Nat} (hy1 : y.name = "<init>") (hown : s.vm.findClass own = some m.cls)
    (w1 : (Jvm.Cond.methodLink own index y).before a0 Z = true) (w2 : (Jvm.Cond.instanceMethod y).before a0 Z = true) (w3 : (Jvm.Cond.initialized y.cls).before a0 Z = true) (w4 : (Jvm.Cond.code y bytes maxL none).before a0 Z = true) (hy : y.cls ≠ "java/lang/invoke/MethodHandle" ∧ y.cls ≠ "java/lang/invoke/VarHandle")
    {rm : Room} {Q : Option Value → Heap → List Loc → Prop} {b : Addr} {argsL rest : List Value} (hM : Con l Z y bytes maxL none [] rm rm.cells rm.slots (.ref b :: argsL).toArray h Q) (W : Nat) (hf : rm.frames + 1 ≤ R.frames) (hl : W + (maxL + 11) + rm.locals ≤ R.locals) (hcl : cells + rm.cells ≤ R.cells) (hsl : slots + rm.slots ≤ R.slots) (eT : T.heap = h)
    {pc : Nat} {Ls : Array Slot} {st : List Value} (hsz : Ls.size = c.maxLocals) {ps : List FieldType} {r' : Option FieldType} (hds : parseMethodDescriptor y.desc = some ⟨ps, r'⟩) (hlen : argsL.length = ps.length) (hst : st = argsL.reverse ++ .ref b :: rest) (hW : 2 * 0 + (rest.map fun v => v.category).sum ≤ W) (hd : decode c.code pc = .ok (.invokespecial index, 3))
    (k : ∀ (v : Option Value) (T' : State) (L : List Loc), Stand p l e R s m args below meth c T' (locs ++ L) (cells + rm.cells) (slots + rm.slots) → Q v T'.heap L → Gl p e below G (T'.setTop (mkF m (pc + 3) Ls (v.toList ++ rest)))) : Gl p e below G (T.setTop (mkF m pc Ls st)) := by
  obtain ⟨v, _, ⟨T', L', k', n'⟩, -, X', ⟨Lc, hQ, l1, y1, z1⟩, stp⟩ := X.specialBack hx (y := y) hy1 hown (mvT hZ w1) (mvT hZ w2) (mvT hZ w4) hy (backOf (W := W) hM hZ w4 w3 hf hl) (g := mkF m pc Ls st) rfl hsz (Steps.refl _) (a := b) (argsL := argsL) (rest := rest) (lenOf hds hlen) hst hW hd (fun _ _ => ⟨rfl, eT, hcl, hsl⟩)
  dsimp only [Pt.U, Pt.locs, Pt.cells, Pt.slots] at X' l1 y1 z1 stp hQ
  subst l1 y1 z1
  exact Gl.of (fun t q => stp.trans q) (k v T' Lc X' hQ)
theorem Gl.callI0 {G : State → Outcome → Prop} (X : Stand p l e R s m args below meth c T locs cells slots) (hx : p.tables.exec = Jvm.exec) (hZ : Z.Warmed39 s.vm) {own : String} {index : Nat} {y : MethodName} {bytes : ByteArray} {maxL : Nat} (hy1 : y.name = "<init>") (hown : s.vm.findClass own = some m.cls)
    (w1 : (Jvm.Cond.methodLink own index y).before a0 Z = true) (w2 : (Jvm.Cond.instanceMethod y).before a0 Z = true) (w3 : (Jvm.Cond.initialized y.cls).before a0 Z = true) (w4 : (Jvm.Cond.code y bytes maxL none).before a0 Z = true) (hy : y.cls ≠ "java/lang/invoke/MethodHandle" ∧ y.cls ≠ "java/lang/invoke/VarHandle")
    {fr lo : Nat} {F : Option Value → Prop} {b : Addr} {argsL rest : List Value} (hM : Con l Z y bytes maxL none [] ({ frames := fr, cells := 0, slots := 0, locals := lo } : Room) 0 0 (.ref b :: argsL).toArray h (Pur F h)) (W : Nat) (hf : fr + 1 ≤ R.frames) (hl : W + (maxL + 11) + lo ≤ R.locals) (eT : T.heap = h)
    {pc : Nat} {Ls : Array Slot} {st : List Value} (hsz : Ls.size = c.maxLocals) {ps : List FieldType} {r' : Option FieldType} (hds : parseMethodDescriptor y.desc = some ⟨ps, r'⟩) (hlen : argsL.length = ps.length) (hst : st = argsL.reverse ++ .ref b :: rest) (hW : 2 * 0 + (rest.map fun v => v.category).sum ≤ W) (hd : decode c.code pc = .ok (.invokespecial index, 3)) (hcl : cells ≤ R.cells) (hsl : slots ≤ R.slots)
    (k : ∀ (v : Option Value) (T' : State), Stand p l e R s m args below meth c T' locs cells slots → T'.heap = h → F v → Gl p e below G (T'.setTop (mkF m (pc + 3) Ls (v.toList ++ rest)))) : Gl p e below G (T.setTop (mkF m pc Ls st)) := by
  refine Gl.callI X hx hZ hy1 hown w1 w2 w3 w4 hy hM W hf hl hcl hsl eT hsz hds hlen hst hW hd ?_
  intro v T' L X' hQ
  obtain ⟨q1, q2, rfl⟩ := hQ
  rw [List.append_nil] at X'
  exact k v T' X' q2 q1
/-- a constructor, by a Back -/
theorem Gl.callIB {G : State → Outcome → Prop} (X : Stand p l e R s m args below meth c T locs cells slots) (hx : p.tables.exec = Jvm.exec) (hZ : Z.Warmed39 s.vm) {own : String} {index : Nat} {y : MethodName} {bytes : ByteArray} {maxL : Nat} (hy1 : y.name = "<init>") (hown : s.vm.findClass own = some m.cls)
    (w1 : (Jvm.Cond.methodLink own index y).before a0 Z = true) (w2 : (Jvm.Cond.instanceMethod y).before a0 Z = true) (w4 : (Jvm.Cond.code y bytes maxL none).before a0 Z = true) (hy : y.cls ≠ "java/lang/invoke/MethodHandle" ∧ y.cls ≠ "java/lang/invoke/VarHandle")
    {C N W : Nat} (Q : Option Value → Heap → List Loc → Prop) {b : Addr} {argsL rest : List Value} (hK : Back l R p e below s args y 3 W (fun A a => a = (Value.ref b :: argsL).toArray ∧ A.U.heap = h ∧ A.cells + C ≤ R.cells ∧ A.slots + N ≤ R.slots) (fun A _ v B => ∃ L, Q v B.U.heap L ∧ B.locs = A.locs ++ L ∧ B.cells = A.cells + C ∧ B.slots = A.slots + N)) (hcl : cells + C ≤ R.cells) (hsl : slots + N ≤ R.slots) (eT : T.heap = h)
    {pc : Nat} {Ls : Array Slot} {st : List Value} (hsz : Ls.size = c.maxLocals) {ps : List FieldType} {r' : Option FieldType} (hds : parseMethodDescriptor y.desc = some ⟨ps, r'⟩) (hlen : argsL.length = ps.length) (hst : st = argsL.reverse ++ .ref b :: rest) (hW : 2 * 0 + (rest.map fun v => v.category).sum ≤ W) (hd : decode c.code pc = .ok (.invokespecial index, 3))
    (k : ∀ (v : Option Value) (T' : State) (L : List Loc), Stand p l e R s m args below meth c T' (locs ++ L) (cells + C) (slots + N) → Q v T'.heap L → Gl p e below G (T'.setTop (mkF m (pc + 3) Ls (v.toList ++ rest)))) : Gl p e below G (T.setTop (mkF m pc Ls st)) := by
  obtain ⟨v, _, ⟨T', L', k', n'⟩, -, X', ⟨Lc, hQ, l1, y1, z1⟩, stp⟩ := X.specialBack hx (y := y) hy1 hown (mvT hZ w1) (mvT hZ w2) (mvT hZ w4) hy hK (g := mkF m pc Ls st) rfl hsz (Steps.refl _) (a := b) (argsL := argsL) (rest := rest) (lenOf hds hlen) hst hW hd (fun _ _ => ⟨rfl, eT, hcl, hsl⟩)
  dsimp only [Pt.U, Pt.locs, Pt.cells, Pt.slots] at X' l1 y1 z1 stp hQ
  subst l1 y1 z1
  exact Gl.of (fun t q => stp.trans q) (k v T' Lc X' hQ)
/-- an instance method that writes and makes nothing, by a Back -/
theorem Gl.callVB {G : State → Outcome → Prop} (X : Stand p l e R s m args below meth c T locs cells slots) (hx : p.tables.exec = Jvm.exec) (hZ : Z.Warmed39 s.vm) {own C : String} {index : Nat} {y z : MethodName} (hown : s.vm.findClass own = some m.cls)
    (w1 : (Jvm.Cond.methodLink own index y).before a0 Z = true) (w2 : (Jvm.Cond.declares y).before a0 Z = true) (nf : NotFace s y) (w3 : (Jvm.Cond.selects C y z).before a0 Z = true) (w4 : (Jvm.Cond.instanceMethod z).before a0 Z = true) (hy : y.cls ≠ "java/lang/invoke/MethodHandle" ∧ y.cls ≠ "java/lang/invoke/VarHandle")
    {W : Nat} (F : Option Value → Prop) {b : Addr} {argsL rest : List Value} (hE : Exa Z h b C) (hK : Back l R p e below s args z 3 W (fun A a => a = (Value.ref b :: argsL).toArray ∧ A.U.heap = h ∧ A.cells + 0 ≤ R.cells ∧ A.slots + 0 ≤ R.slots) (fun A _ v B => ∃ L, (F v ∧ L = [] ∧ B.U.heap = h) ∧ B.locs = A.locs ++ L ∧ B.cells = A.cells + 0 ∧ B.slots = A.slots + 0)) (hcl : cells ≤ R.cells) (hsl : slots ≤ R.slots) (eT : T.heap = h)
    {pc : Nat} {Ls : Array Slot} {st : List Value} (hsz : Ls.size = c.maxLocals) {ps : List FieldType} {r' : Option FieldType} (hds : parseMethodDescriptor y.desc = some ⟨ps, r'⟩) (hlen : argsL.length = ps.length) (hst : st = argsL.reverse ++ .ref b :: rest) (hW : 2 * 0 + (rest.map fun v => v.category).sum ≤ W) (hd : decode c.code pc = .ok (.invokevirtual index, 3))
    (k : ∀ (v : Option Value) (T' : State), Stand p l e R s m args below meth c T' locs cells slots → T'.heap = h → F v → Gl p e below G (T'.setTop (mkF m (pc + 3) Ls (v.toList ++ rest)))) : Gl p e below G (T.setTop (mkF m pc Ls st)) := by
  obtain ⟨cq, kq, qa, qb, qc⟩ := isOf hZ eT hE
  obtain ⟨v, _, ⟨T', L', k', n'⟩, -, X', ⟨Lc, ⟨hF, hL, hH⟩, l1, y1, z1⟩, stp⟩ := X.virtualBack hx (y := y) (z := z) hown (mvT hZ w1) (mvT hZ w2) nf (mvT hZ w3) (mvT hZ w4) hy hK qa qc (g := mkF m pc Ls st) rfl hsz (Steps.refl _) (argsL := argsL) (rest := rest) (lenOf hds hlen) hst hW hd (fun _ _ => ⟨rfl, eT, hcl, hsl⟩)
  dsimp only [Pt.U, Pt.locs, Pt.cells, Pt.slots] at X' l1 y1 z1 stp hH
  subst l1 y1 z1 hL
  rw [List.append_nil] at X'
  exact Gl.of (fun t q => stp.trans q) (k v T' X' hH hF)
theorem nf_same {y y' : MethodName} {C : String} (hc : y'.cls = y.cls) (w : (Jvm.Cond.selects C y y).before args s = true) : NotFace s y' := fun r0 h0 => by
  obtain ⟨c2, r2, m2, q1, q2, q3, q4, kP, hkP, hkPi⟩ := Cond.selects_spec w
  have a := findClass_of_methodNamed h0
  rw [hc] at a
  have b := Option.some.inj (a.symm.trans (findClass_of_methodNamed q3))
  exact ⟨kP, by rw [b]; exact hkP, hkPi⟩
theorem fld_ne {a b : Addr} {C n d : String} {v w : Value} (F : Fld Z h a C n d v) (G : Fld Z h b C n d w) (hn : v ≠ w) : ¬ a = b := fun e => by
  subst e
  obtain ⟨c1, cf, k, i, f, h1, h2, -, -, -, -, h7⟩ := F
  obtain ⟨c2, cf', k', i', f', g1, g2, -, -, -, -, g7⟩ := G
  cases h1.symm.trans g1
  cases h2.symm.trans g2
  exact hn (Option.some.inj (h7.symm.trans g7))
theorem own_nb1 : nar .boolean 1 = 1 := rfl
theorem own_nb0 : nar .boolean 0 = 0 := rfl
/-- the words of a case: an equation with an int -/
theorem eq_at {args : Array Value} {s : State} {t : Term} {idx : List Nat} {z : Int32} (h : (Jvm.Cond.eq t (.int z)).value args s none s idx = some true) : t.eval args s none idx s = some (.int z) := by
  obtain ⟨x, y', e1, e2, k1, k2⟩ := cmp_v (Or.inl h)
  cases (Term.int_eval z).symm.trans e2
  obtain ⟨z', rfl⟩ : ∃ z', x = .int z' := k2
  exact e1.trans (congrArg (fun z => some (Value.int z)) (gotT (Cond.eq_ints e1 (Term.int_eval z)) h))
theorem eqR_at {args : Array Value} {s : State} {t u : Term} {idx : List Nat} {a : Addr} (h : (Jvm.Cond.eq t u).value args s none s idx = some true) (hu : u.eval args s none idx s = some (.ref a)) : t.eval args s none idx s = some (.ref a) := by
  obtain ⟨x, y', e1, e2, k1, k2⟩ := cmp_v (Or.inl h)
  cases hu.symm.trans e2
  have hx : x.isRef = true := k2.2
  have q := gotT (eq_R e1 hu hx rfl) h
  rw [q] at e1
  exact e1
theorem len_at {args : Array Value} {s : State} {t : Term} {z : Int32} {a : Addr} {cl : Cell} (h : (Term.length t).eval args s none [] s = some (.int z)) (ht : t.eval args s none [] s = some (.ref a)) (ha : s.arrayAt? a = some cl) : cl.slots.size.toInt32 = z ∧ cl.slots.size < 2 ^ 31 := by
  by_cases q : cl.slots.size < 2 ^ 31
  · rw [len_f ht ha q] at h
    cases h
    exact ⟨rfl, q⟩
  · simp [Term.eval, ht, ha, q] at h
theorem len_sz {n : Nat} {z : Int32} (h : n.toInt32 = z) (q : n < 2 ^ 31) : n = z.toNatClampNeg := by
  rw [← h]; simp only [Int32.toNatClampNeg, len_toInt q]; rfl
end Own
def own_list : List Int32 := [0, 0, 0, 0, 0, 0, 0, 0, 0, 0, 0, 0, 0, 0, 0, 0, 0, 0, 0, 0, 0, 0, 0, 0, 0, 0, 0, 0, 0, 0, 0, 0, 0, 0, 0, 0, 0, 0, 0, 0, 0, 0, 0, 0, 0, 0, 0, 0, 0, 0, 0, 0, 0, 0, 0, 0, 0, 0, 0, 0, 0, 0, 0, 0, 0, 1, 14, 2, 13, 0, 0, 4, 11, 0, 0, 12, 0, 3, 15, 0, 0, 0, 5, 6, 8, 8, 7, 9, 0, 10, 0, 0, 0, 0, 0, 0, 0, 1, 14, 2, 13, 0, 0, 4, 11, 0, 0, 12, 0, 3, 15, 0, 0, 0, 5, 6, 8, 8, 7, 9, 0, 10, 0, 0, 0, 0, 0, 0]
def own_tbl (n : Nat) : Int32 := own_list.getD n 0
def own_states (v : Int32) : Int32 := if v < (128 : Int32) then own_tbl v.toNatClampNeg else 0
def own_ref (u : Int32) : Int32 := if u = (65 : Int32) then 1 else if u = (67 : Int32) then 2 else if u = (71 : Int32) then 4 else if u = (84 : Int32) then 8 else if u = (85 : Int32) then 8 else if u = (82 : Int32) then 5 else if u = (89 : Int32) then 10 else if u = (83 : Int32) then 6 else if u = (87 : Int32) then 9 else if u = (75 : Int32) then 12 else if u = (77 : Int32) then 3 else if u = (66 : Int32) then 14 else if u = (68 : Int32) then 13 else if u = (72 : Int32) then 11 else if u = (86 : Int32) then 7 else if u = (78 : Int32) then 15 else 0
def own_up (v : Int32) : Int32 := if v < (97 : Int32) then v else if (122 : Int32) < v then v else v - (32 : Int32)
theorem own_small : ∀ k : Fin 128, own_ref (own_up (Int32.ofNat k.val)) = own_tbl k.val := by decide +kernel
theorem own_big (v : Int32) (h : ¬ v < (128 : Int32)) : own_ref (own_up v) = 0 := by
  have h1 : ¬ v < (97 : Int32) := by rw [Int32.lt_iff_toInt_lt] at h ⊢; simp at h ⊢; omega
  have h2 : (122 : Int32) < v := by rw [Int32.lt_iff_toInt_lt] at h ⊢; simp at h ⊢; omega
  have ne : ∀ k : Int32, k < (128 : Int32) → ¬ v = k := fun k hk e => h (e ▸ hk)
  simp only [own_up, h1, h2, if_false, if_true]
  unfold own_ref
  simp only [ne 65 (by decide), ne 67 (by decide), ne 71 (by decide), ne 84 (by decide), ne 85 (by decide), ne 82 (by decide), ne 89 (by decide), ne 83 (by decide), ne 87 (by decide), ne 75 (by decide), ne 77 (by decide), ne 66 (by decide), ne 68 (by decide), ne 72 (by decide), ne 86 (by decide), ne 78 (by decide), if_false]
theorem own_lt {v : Int32} (h0 : ¬ v < 0) (h : v < (128 : Int32)) : v.toNatClampNeg < 128 := by
  rw [Int32.lt_iff_toInt_lt] at h h0
  have q := Int32.toNat_toInt v
  have e1 : (128 : Int32).toInt = 128 := rfl
  have e2 : (0 : Int32).toInt = 0 := rfl
  omega
theorem own_eq (v : Int32) (h0 : ¬ v < 0) : own_states v = own_ref (own_up v) := by
  unfold own_states
  split
  · rename_i h
    have e : Int32.ofNat v.toNatClampNeg = v := (back32 h0).1
    have q := own_small ⟨v.toNatClampNeg, own_lt h0 h⟩
    simp only [e] at q
    exact q.symm
  · rename_i h
    exact (own_big v h).symm
theorem ef_1 (m : MethodId) (x0 : Int32) : entryFrame m #[(.int x0)] 1 = mkF m 0 #[.val (.int x0)] [] := by first | (simp [entryFrame, mkF, argsToLocals, Value.category, maxLocals]; done) | rfl
theorem pn_0 : plainName "com/example/pathstone/pathstone/Nucleotides" = true := by first | (simp [plainName, overriddenIn]; done) | decide +kernel
theorem d1_0 : decode prog_15_method_2_code 0 = .ok (.iload_n 0, 1) := by decide +kernel
theorem d1_1 : decode prog_15_method_2_code 1 = .ok (.getstatic 7, 3) := by decide +kernel
theorem w4 {Z : State} {a0 : Array Value} (hw : ∀ d ∈ tables_1, d.before a0 Z = true) : (Jvm.Cond.fieldLink "com/example/pathstone/pathstone/Nucleotides" (7 : Nat) "com/example/pathstone/pathstone/Nucleotides" "STATES" "[B").before a0 Z = true := hw _ (List.mem_of_getElem? (i := 4) rfl)
theorem d1_4 : decode prog_15_method_2_code 4 = .ok (.arraylength, 1) := by decide +kernel
theorem d1_5 : decode prog_15_method_2_code 5 = .ok (.if_icmp .ge 11, 3) := by decide +kernel
theorem d1_8 : decode prog_15_method_2_code 8 = .ok (.getstatic 7, 3) := by decide +kernel
theorem d1_11 : decode prog_15_method_2_code 11 = .ok (.iload_n 0, 1) := by decide +kernel
theorem d1_12 : decode prog_15_method_2_code 12 = .ok (.baload, 1) := by decide +kernel
theorem d1_13 : decode prog_15_method_2_code 13 = .ok (.goto 4, 3) := by decide +kernel
theorem d1_17 : decode prog_15_method_2_code 17 = .ok (.ireturn, 1) := by decide +kernel
theorem d1_16 : decode prog_15_method_2_code 16 = .ok (.iconst 0, 1) := by decide +kernel
set_option maxRecDepth 65536 in
set_option maxHeartbeats 40000000 in
theorem rm1 (l : Launch) (Z : State) (a0 : Array Value) (hw : ∀ d ∈ tables_1, d.before a0 Z = true) (h0 : Heap) (p1 : Int32) (a1 : Addr) (cl1 : Cell) (S1 : Sta Z h0 "com/example/pathstone/pathstone/Nucleotides" "STATES" "[B" (.ref a1)) (A1 : Arr Z h0 a1 cl1 .byte) (sz : cl1.slots.size = (128 : Int32).toNatClampNeg) (hv : ∀ j : Nat, j < 128 → cl1.slots[j]? = some (.int (own_tbl j))) (hp : ¬ p1 < 0) : Con l Z (⟨"com/example/pathstone/pathstone/Nucleotides", "states", "(C)I"⟩ : MethodName) prog_15_method_2_code 1 (some .int) [] ({ frames := 0, cells := 0, slots := 0, locals := 0 } : Room) 0 0 #[(.int p1)] h0 (Pur (fun v => v = some (.int (own_states p1))) h0) := by
  refine Con.intro (plainFor_of_name pn_0) ?_
  intro p e s m below meth c s₁ X0 hx hby hml hZ hown hnm hret hlk e0 hs0
  refine Gl.of (fun _ k => castTop (ef_1 m p1) k) ?_
  show Gl p e below _ (s₁.setTop (mkF m 0 #[.val (.int p1)] []))
  refine Gl.of (fun _ k => XS.iloadN X0.here hx rfl (hb hby d1_0) rfl k) ?_
  show Gl p e below _ (s₁.setTop (mkF m 1 #[.val (.int p1)] [(.int p1)]))
  obtain ⟨T1, X1, e1, st1⟩ := getS2 X0 hx hZ hown (host := "") (Or.inl (w4 hw)) Via.refl e0 S1 (g := (mkF m 1 #[.val (.int p1)] [(.int p1)])) rfl (hb hby d1_1)
  refine Gl.of st1 ?_
  show Gl p e below _ (T1.setTop (mkF m 4 #[.val (.int p1)] [(.ref a1), (.int p1)]))
  refine Gl.of (fun _ k => X1.arraylength hx (by rw [e1]; exact (A1).1) (State.isArrayOf_alike hZ.alike (A1).2.1) (g := (mkF m 4 #[.val (.int p1)] [(.ref a1), (.int p1)])) rfl rfl (hb hby d1_4) _ k) ?_
  rw [len_of sz (by decide)]
  show Gl p e below _ (T1.setTop (mkF m 5 #[.val (.int p1)] [(.int (128 : Int32)), (.int p1)]))
  by_cases hc5_2 : p1 < (128 : Int32)
  · refine Gl.of (fun _ k => XS.icmpNo X1.here hx rfl (hb hby d1_5) rfl (tlt hc5_2).2.1 k) ?_
    show Gl p e below _ (T1.setTop (mkF m 8 #[.val (.int p1)] []))
    obtain ⟨T3, X3, e3, st3⟩ := getS2 X1 hx hZ hown (host := "") (Or.inl (w4 hw)) Via.refl e1 S1 (g := (mkF m 8 #[.val (.int p1)] [])) rfl (hb hby d1_8)
    refine Gl.of st3 ?_
    show Gl p e below _ (T3.setTop (mkF m 11 #[.val (.int p1)] [(.ref a1)]))
    refine Gl.of (fun _ k => XS.iloadN X3.here hx rfl (hb hby d1_11) rfl k) ?_
    show Gl p e below _ (T3.setTop (mkF m 12 #[.val (.int p1)] [(.int p1), (.ref a1)]))
    refine Gl.of (fun _ k => X3.baloadBytes hx (j := p1) (v := (.int (own_tbl p1.toNatClampNeg))) (by rw [e3]; exact (A1).1) (State.isArrayOf_alike hZ.alike (A1).2.1) (A1).2.2 (inb_of sz ⟨hp, hc5_2⟩) (hv _ (own_lt hp hc5_2)) (g := (mkF m 12 #[.val (.int p1)] [(.int p1), (.ref a1)])) rfl rfl (hb hby d1_12) _ k) ?_
    show Gl p e below _ (T3.setTop (mkF m 13 #[.val (.int p1)] [(.int (own_tbl p1.toNatClampNeg))]))
    refine Gl.of (fun _ k => XS.goto X3.here hx rfl (pc0 := 13) (pc' := 17) rfl (hb hby d1_13) (by decide) (by decide) k) ?_
    show Gl p e below _ (T3.setTop (mkF m 17 #[.val (.int p1)] [(.int (own_tbl p1.toNatClampNeg))]))
    exact Gl.retI X3 hx hlk hret (hb hby d1_17) e3 (⟨by simp [own_states, hc5_2], rfl, rfl⟩) (by decide) (by decide)
  · refine Gl.of (fun _ k => XS.icmpYes X1.here hx rfl (pc0 := 5) (pc' := 16) rfl (hb hby d1_5) rfl (flt hc5_2).2.1 (by decide) (by decide) k) ?_
    show Gl p e below _ (T1.setTop (mkF m 16 #[.val (.int p1)] []))
    refine Gl.of (fun _ k => XS.iconst X1.here hx rfl (hb hby d1_16) k) ?_
    show Gl p e below _ (T1.setTop (mkF m 17 #[.val (.int p1)] [(.int (0 : Int32))]))
    exact Gl.retI X1 hx hlk hret (hb hby d1_17) e1 (⟨by simp [own_states, hc5_2], rfl, rfl⟩) (by decide) (by decide)
theorem ef_2 (m : MethodId) (x0 : Int32) : entryFrame m #[(.int x0)] 2 = mkF m 0 #[.val (.int x0), .unset] [] := by first | (simp [entryFrame, mkF, argsToLocals, Value.category, maxLocals]; done) | rfl
theorem pn_1 : plainName "com/example/pathstone/pathstone/NucleotidesStatesPinLaw" = true := by first | (simp [plainName, overriddenIn]; done) | decide +kernel
theorem d2_19 : decode method_2_code 19 = .ok (.iload_n 1, 1) := by decide +kernel
theorem d2_20 : decode method_2_code 20 = .ok (.bipush 65, 2) := by decide +kernel
theorem d2_22 : decode method_2_code 22 = .ok (.if_icmp .ne 5, 3) := by decide +kernel
theorem d2_25 : decode method_2_code 25 = .ok (.iconst 1, 1) := by decide +kernel
theorem d2_26 : decode method_2_code 26 = .ok (.ireturn, 1) := by decide +kernel
theorem d2_27 : decode method_2_code 27 = .ok (.iload_n 1, 1) := by decide +kernel
theorem d2_28 : decode method_2_code 28 = .ok (.bipush 67, 2) := by decide +kernel
theorem d2_30 : decode method_2_code 30 = .ok (.if_icmp .ne 5, 3) := by decide +kernel
theorem d2_33 : decode method_2_code 33 = .ok (.iconst 2, 1) := by decide +kernel
theorem d2_34 : decode method_2_code 34 = .ok (.ireturn, 1) := by decide +kernel
theorem d2_35 : decode method_2_code 35 = .ok (.iload_n 1, 1) := by decide +kernel
theorem d2_36 : decode method_2_code 36 = .ok (.bipush 71, 2) := by decide +kernel
theorem d2_38 : decode method_2_code 38 = .ok (.if_icmp .ne 5, 3) := by decide +kernel
theorem d2_41 : decode method_2_code 41 = .ok (.iconst 4, 1) := by decide +kernel
theorem d2_42 : decode method_2_code 42 = .ok (.ireturn, 1) := by decide +kernel
theorem d2_43 : decode method_2_code 43 = .ok (.iload_n 1, 1) := by decide +kernel
theorem d2_44 : decode method_2_code 44 = .ok (.bipush 84, 2) := by decide +kernel
theorem d2_46 : decode method_2_code 46 = .ok (.if_icmp .ne 6, 3) := by decide +kernel
theorem d2_49 : decode method_2_code 49 = .ok (.bipush 8, 2) := by decide +kernel
theorem d2_51 : decode method_2_code 51 = .ok (.ireturn, 1) := by decide +kernel
theorem d2_52 : decode method_2_code 52 = .ok (.iload_n 1, 1) := by decide +kernel
theorem d2_53 : decode method_2_code 53 = .ok (.bipush 85, 2) := by decide +kernel
theorem d2_55 : decode method_2_code 55 = .ok (.if_icmp .ne 6, 3) := by decide +kernel
theorem d2_58 : decode method_2_code 58 = .ok (.bipush 8, 2) := by decide +kernel
theorem d2_60 : decode method_2_code 60 = .ok (.ireturn, 1) := by decide +kernel
theorem d2_61 : decode method_2_code 61 = .ok (.iload_n 1, 1) := by decide +kernel
theorem d2_62 : decode method_2_code 62 = .ok (.bipush 82, 2) := by decide +kernel
theorem d2_64 : decode method_2_code 64 = .ok (.if_icmp .ne 5, 3) := by decide +kernel
theorem d2_67 : decode method_2_code 67 = .ok (.iconst 5, 1) := by decide +kernel
theorem d2_68 : decode method_2_code 68 = .ok (.ireturn, 1) := by decide +kernel
theorem d2_69 : decode method_2_code 69 = .ok (.iload_n 1, 1) := by decide +kernel
theorem d2_70 : decode method_2_code 70 = .ok (.bipush 89, 2) := by decide +kernel
theorem d2_72 : decode method_2_code 72 = .ok (.if_icmp .ne 6, 3) := by decide +kernel
theorem d2_75 : decode method_2_code 75 = .ok (.bipush 10, 2) := by decide +kernel
theorem d2_77 : decode method_2_code 77 = .ok (.ireturn, 1) := by decide +kernel
theorem d2_78 : decode method_2_code 78 = .ok (.iload_n 1, 1) := by decide +kernel
theorem d2_79 : decode method_2_code 79 = .ok (.bipush 83, 2) := by decide +kernel
theorem d2_81 : decode method_2_code 81 = .ok (.if_icmp .ne 6, 3) := by decide +kernel
theorem d2_84 : decode method_2_code 84 = .ok (.bipush 6, 2) := by decide +kernel
theorem d2_86 : decode method_2_code 86 = .ok (.ireturn, 1) := by decide +kernel
theorem d2_87 : decode method_2_code 87 = .ok (.iload_n 1, 1) := by decide +kernel
theorem d2_88 : decode method_2_code 88 = .ok (.bipush 87, 2) := by decide +kernel
theorem d2_90 : decode method_2_code 90 = .ok (.if_icmp .ne 6, 3) := by decide +kernel
theorem d2_93 : decode method_2_code 93 = .ok (.bipush 9, 2) := by decide +kernel
theorem d2_95 : decode method_2_code 95 = .ok (.ireturn, 1) := by decide +kernel
theorem d2_96 : decode method_2_code 96 = .ok (.iload_n 1, 1) := by decide +kernel
theorem d2_97 : decode method_2_code 97 = .ok (.bipush 75, 2) := by decide +kernel
theorem d2_99 : decode method_2_code 99 = .ok (.if_icmp .ne 6, 3) := by decide +kernel
theorem d2_102 : decode method_2_code 102 = .ok (.bipush 12, 2) := by decide +kernel
theorem d2_104 : decode method_2_code 104 = .ok (.ireturn, 1) := by decide +kernel
theorem d2_105 : decode method_2_code 105 = .ok (.iload_n 1, 1) := by decide +kernel
theorem d2_106 : decode method_2_code 106 = .ok (.bipush 77, 2) := by decide +kernel
theorem d2_108 : decode method_2_code 108 = .ok (.if_icmp .ne 5, 3) := by decide +kernel
theorem d2_111 : decode method_2_code 111 = .ok (.iconst 3, 1) := by decide +kernel
theorem d2_112 : decode method_2_code 112 = .ok (.ireturn, 1) := by decide +kernel
theorem d2_113 : decode method_2_code 113 = .ok (.iload_n 1, 1) := by decide +kernel
theorem d2_114 : decode method_2_code 114 = .ok (.bipush 66, 2) := by decide +kernel
theorem d2_116 : decode method_2_code 116 = .ok (.if_icmp .ne 6, 3) := by decide +kernel
theorem d2_119 : decode method_2_code 119 = .ok (.bipush 14, 2) := by decide +kernel
theorem d2_121 : decode method_2_code 121 = .ok (.ireturn, 1) := by decide +kernel
theorem d2_122 : decode method_2_code 122 = .ok (.iload_n 1, 1) := by decide +kernel
theorem d2_123 : decode method_2_code 123 = .ok (.bipush 68, 2) := by decide +kernel
theorem d2_125 : decode method_2_code 125 = .ok (.if_icmp .ne 6, 3) := by decide +kernel
theorem d2_128 : decode method_2_code 128 = .ok (.bipush 13, 2) := by decide +kernel
theorem d2_130 : decode method_2_code 130 = .ok (.ireturn, 1) := by decide +kernel
theorem d2_131 : decode method_2_code 131 = .ok (.iload_n 1, 1) := by decide +kernel
theorem d2_132 : decode method_2_code 132 = .ok (.bipush 72, 2) := by decide +kernel
theorem d2_134 : decode method_2_code 134 = .ok (.if_icmp .ne 6, 3) := by decide +kernel
theorem d2_137 : decode method_2_code 137 = .ok (.bipush 11, 2) := by decide +kernel
theorem d2_139 : decode method_2_code 139 = .ok (.ireturn, 1) := by decide +kernel
theorem d2_140 : decode method_2_code 140 = .ok (.iload_n 1, 1) := by decide +kernel
theorem d2_141 : decode method_2_code 141 = .ok (.bipush 86, 2) := by decide +kernel
theorem d2_143 : decode method_2_code 143 = .ok (.if_icmp .ne 6, 3) := by decide +kernel
theorem d2_146 : decode method_2_code 146 = .ok (.bipush 7, 2) := by decide +kernel
theorem d2_148 : decode method_2_code 148 = .ok (.ireturn, 1) := by decide +kernel
theorem d2_149 : decode method_2_code 149 = .ok (.iload_n 1, 1) := by decide +kernel
theorem d2_150 : decode method_2_code 150 = .ok (.bipush 78, 2) := by decide +kernel
theorem d2_152 : decode method_2_code 152 = .ok (.if_icmp .ne 6, 3) := by decide +kernel
theorem d2_155 : decode method_2_code 155 = .ok (.bipush 15, 2) := by decide +kernel
theorem d2_157 : decode method_2_code 157 = .ok (.ireturn, 1) := by decide +kernel
theorem d2_158 : decode method_2_code 158 = .ok (.iconst 0, 1) := by decide +kernel
theorem d2_159 : decode method_2_code 159 = .ok (.ireturn, 1) := by decide +kernel
theorem d2_0 : decode method_2_code 0 = .ok (.iload_n 0, 1) := by decide +kernel
theorem d2_1 : decode method_2_code 1 = .ok (.istore_n 1, 1) := by decide +kernel
theorem d2_2 : decode method_2_code 2 = .ok (.iload_n 1, 1) := by decide +kernel
theorem d2_3 : decode method_2_code 3 = .ok (.bipush 97, 2) := by decide +kernel
theorem d2_5 : decode method_2_code 5 = .ok (.if_icmp .lt 14, 3) := by decide +kernel
theorem d2_8 : decode method_2_code 8 = .ok (.iload_n 1, 1) := by decide +kernel
theorem d2_9 : decode method_2_code 9 = .ok (.bipush 122, 2) := by decide +kernel
theorem d2_11 : decode method_2_code 11 = .ok (.if_icmp .gt 8, 3) := by decide +kernel
theorem d2_14 : decode method_2_code 14 = .ok (.iload_n 1, 1) := by decide +kernel
theorem d2_15 : decode method_2_code 15 = .ok (.bipush 32, 2) := by decide +kernel
theorem d2_17 : decode method_2_code 17 = .ok (.isub, 1) := by decide +kernel
theorem d2_18 : decode method_2_code 18 = .ok (.istore_n 1, 1) := by decide +kernel
set_option maxRecDepth 65536 in
set_option maxHeartbeats 40000000 in
theorem rm2 (l : Launch) (Z : State) (a0 : Array Value) (hw : ∀ d ∈ tables_1, d.before a0 Z = true) (h0 : Heap) (p1 : Int32) : Con l Z (⟨"com/example/pathstone/pathstone/NucleotidesStatesPinLaw", "ref", "(C)I"⟩ : MethodName) method_2_code 2 (some .int) [] ({ frames := 0, cells := 0, slots := 0, locals := 0 } : Room) 0 0 #[(.int p1)] h0 (Pur (fun v => v = some (.int (own_ref (own_up p1)))) h0) := by
  refine Con.intro (plainFor_of_name pn_1) ?_
  intro p e s m below meth c s₁ X0 hx hby hml hZ hown hnm hret hlk e0 hs0
  refine Gl.of (fun _ k => castTop (ef_2 m p1) k) ?_
  have J19 : ∀ (T9 : State), Stand p l e ({ frames := 0, cells := 0, slots := 0, locals := 0 } : Room) s m #[(.int p1)] below meth c T9 [] 0 0 → T9.heap = h0 → ∀ (u : Int32), u = own_up p1 → Gl p e below (Gd s (Pur (fun v => v = some (.int (own_ref (own_up p1)))) h0) 0 0) (T9.setTop (mkF m 19 #[.val (.int p1), .val (.int u)] [])) := by
    intro T9 X9 e9 u hu
    show Gl p e below _ (T9.setTop (mkF m 19 #[.val (.int p1), .val (.int u)] []))
    refine Gl.of (fun _ k => XS.iloadN X9.here hx rfl (hb hby d2_19) rfl k) ?_
    show Gl p e below _ (T9.setTop (mkF m 20 #[.val (.int p1), .val (.int u)] [(.int u)]))
    refine Gl.of (fun _ k => XS.bipush X9.here hx rfl (hb hby d2_20) k) ?_
    show Gl p e below _ (T9.setTop (mkF m 22 #[.val (.int p1), .val (.int u)] [(.int (65 : Int32)), (.int u)]))
    by_cases hc22_2 : u = (65 : Int32)
    · refine Gl.of (fun _ k => XS.icmpNo X9.here hx rfl (hb hby d2_22) rfl (teq hc22_2).2 k) ?_
      show Gl p e below _ (T9.setTop (mkF m 25 #[.val (.int p1), .val (.int u)] []))
      refine Gl.of (fun _ k => XS.iconst X9.here hx rfl (hb hby d2_25) k) ?_
      show Gl p e below _ (T9.setTop (mkF m 26 #[.val (.int p1), .val (.int u)] [(.int (1 : Int32))]))
      exact Gl.retI X9 hx hlk hret (hb hby d2_26) e9 (⟨by rw [← hu]; simp [own_ref, hc22_2], rfl, rfl⟩) (by decide) (by decide)
    · refine Gl.of (fun _ k => XS.icmpYes X9.here hx rfl (pc0 := 22) (pc' := 27) rfl (hb hby d2_22) rfl (feq hc22_2).2 (by decide) (by decide) k) ?_
      show Gl p e below _ (T9.setTop (mkF m 27 #[.val (.int p1), .val (.int u)] []))
      refine Gl.of (fun _ k => XS.iloadN X9.here hx rfl (hb hby d2_27) rfl k) ?_
      show Gl p e below _ (T9.setTop (mkF m 28 #[.val (.int p1), .val (.int u)] [(.int u)]))
      refine Gl.of (fun _ k => XS.bipush X9.here hx rfl (hb hby d2_28) k) ?_
      show Gl p e below _ (T9.setTop (mkF m 30 #[.val (.int p1), .val (.int u)] [(.int (67 : Int32)), (.int u)]))
      by_cases hc30_3 : u = (67 : Int32)
      · refine Gl.of (fun _ k => XS.icmpNo X9.here hx rfl (hb hby d2_30) rfl (teq hc30_3).2 k) ?_
        show Gl p e below _ (T9.setTop (mkF m 33 #[.val (.int p1), .val (.int u)] []))
        refine Gl.of (fun _ k => XS.iconst X9.here hx rfl (hb hby d2_33) k) ?_
        show Gl p e below _ (T9.setTop (mkF m 34 #[.val (.int p1), .val (.int u)] [(.int (2 : Int32))]))
        exact Gl.retI X9 hx hlk hret (hb hby d2_34) e9 (⟨by rw [← hu]; simp [own_ref, hc22_2, hc30_3], rfl, rfl⟩) (by decide) (by decide)
      · refine Gl.of (fun _ k => XS.icmpYes X9.here hx rfl (pc0 := 30) (pc' := 35) rfl (hb hby d2_30) rfl (feq hc30_3).2 (by decide) (by decide) k) ?_
        show Gl p e below _ (T9.setTop (mkF m 35 #[.val (.int p1), .val (.int u)] []))
        refine Gl.of (fun _ k => XS.iloadN X9.here hx rfl (hb hby d2_35) rfl k) ?_
        show Gl p e below _ (T9.setTop (mkF m 36 #[.val (.int p1), .val (.int u)] [(.int u)]))
        refine Gl.of (fun _ k => XS.bipush X9.here hx rfl (hb hby d2_36) k) ?_
        show Gl p e below _ (T9.setTop (mkF m 38 #[.val (.int p1), .val (.int u)] [(.int (71 : Int32)), (.int u)]))
        by_cases hc38_4 : u = (71 : Int32)
        · refine Gl.of (fun _ k => XS.icmpNo X9.here hx rfl (hb hby d2_38) rfl (teq hc38_4).2 k) ?_
          show Gl p e below _ (T9.setTop (mkF m 41 #[.val (.int p1), .val (.int u)] []))
          refine Gl.of (fun _ k => XS.iconst X9.here hx rfl (hb hby d2_41) k) ?_
          show Gl p e below _ (T9.setTop (mkF m 42 #[.val (.int p1), .val (.int u)] [(.int (4 : Int32))]))
          exact Gl.retI X9 hx hlk hret (hb hby d2_42) e9 (⟨by rw [← hu]; simp [own_ref, hc22_2, hc30_3, hc38_4], rfl, rfl⟩) (by decide) (by decide)
        · refine Gl.of (fun _ k => XS.icmpYes X9.here hx rfl (pc0 := 38) (pc' := 43) rfl (hb hby d2_38) rfl (feq hc38_4).2 (by decide) (by decide) k) ?_
          show Gl p e below _ (T9.setTop (mkF m 43 #[.val (.int p1), .val (.int u)] []))
          refine Gl.of (fun _ k => XS.iloadN X9.here hx rfl (hb hby d2_43) rfl k) ?_
          show Gl p e below _ (T9.setTop (mkF m 44 #[.val (.int p1), .val (.int u)] [(.int u)]))
          refine Gl.of (fun _ k => XS.bipush X9.here hx rfl (hb hby d2_44) k) ?_
          show Gl p e below _ (T9.setTop (mkF m 46 #[.val (.int p1), .val (.int u)] [(.int (84 : Int32)), (.int u)]))
          by_cases hc46_5 : u = (84 : Int32)
          · refine Gl.of (fun _ k => XS.icmpNo X9.here hx rfl (hb hby d2_46) rfl (teq hc46_5).2 k) ?_
            show Gl p e below _ (T9.setTop (mkF m 49 #[.val (.int p1), .val (.int u)] []))
            refine Gl.of (fun _ k => XS.bipush X9.here hx rfl (hb hby d2_49) k) ?_
            show Gl p e below _ (T9.setTop (mkF m 51 #[.val (.int p1), .val (.int u)] [(.int (8 : Int32))]))
            exact Gl.retI X9 hx hlk hret (hb hby d2_51) e9 (⟨by rw [← hu]; simp [own_ref, hc22_2, hc30_3, hc38_4, hc46_5], rfl, rfl⟩) (by decide) (by decide)
          · refine Gl.of (fun _ k => XS.icmpYes X9.here hx rfl (pc0 := 46) (pc' := 52) rfl (hb hby d2_46) rfl (feq hc46_5).2 (by decide) (by decide) k) ?_
            show Gl p e below _ (T9.setTop (mkF m 52 #[.val (.int p1), .val (.int u)] []))
            refine Gl.of (fun _ k => XS.iloadN X9.here hx rfl (hb hby d2_52) rfl k) ?_
            show Gl p e below _ (T9.setTop (mkF m 53 #[.val (.int p1), .val (.int u)] [(.int u)]))
            refine Gl.of (fun _ k => XS.bipush X9.here hx rfl (hb hby d2_53) k) ?_
            show Gl p e below _ (T9.setTop (mkF m 55 #[.val (.int p1), .val (.int u)] [(.int (85 : Int32)), (.int u)]))
            by_cases hc55_6 : u = (85 : Int32)
            · refine Gl.of (fun _ k => XS.icmpNo X9.here hx rfl (hb hby d2_55) rfl (teq hc55_6).2 k) ?_
              show Gl p e below _ (T9.setTop (mkF m 58 #[.val (.int p1), .val (.int u)] []))
              refine Gl.of (fun _ k => XS.bipush X9.here hx rfl (hb hby d2_58) k) ?_
              show Gl p e below _ (T9.setTop (mkF m 60 #[.val (.int p1), .val (.int u)] [(.int (8 : Int32))]))
              exact Gl.retI X9 hx hlk hret (hb hby d2_60) e9 (⟨by rw [← hu]; simp [own_ref, hc22_2, hc30_3, hc38_4, hc46_5, hc55_6], rfl, rfl⟩) (by decide) (by decide)
            · refine Gl.of (fun _ k => XS.icmpYes X9.here hx rfl (pc0 := 55) (pc' := 61) rfl (hb hby d2_55) rfl (feq hc55_6).2 (by decide) (by decide) k) ?_
              show Gl p e below _ (T9.setTop (mkF m 61 #[.val (.int p1), .val (.int u)] []))
              refine Gl.of (fun _ k => XS.iloadN X9.here hx rfl (hb hby d2_61) rfl k) ?_
              show Gl p e below _ (T9.setTop (mkF m 62 #[.val (.int p1), .val (.int u)] [(.int u)]))
              refine Gl.of (fun _ k => XS.bipush X9.here hx rfl (hb hby d2_62) k) ?_
              show Gl p e below _ (T9.setTop (mkF m 64 #[.val (.int p1), .val (.int u)] [(.int (82 : Int32)), (.int u)]))
              by_cases hc64_7 : u = (82 : Int32)
              · refine Gl.of (fun _ k => XS.icmpNo X9.here hx rfl (hb hby d2_64) rfl (teq hc64_7).2 k) ?_
                show Gl p e below _ (T9.setTop (mkF m 67 #[.val (.int p1), .val (.int u)] []))
                refine Gl.of (fun _ k => XS.iconst X9.here hx rfl (hb hby d2_67) k) ?_
                show Gl p e below _ (T9.setTop (mkF m 68 #[.val (.int p1), .val (.int u)] [(.int (5 : Int32))]))
                exact Gl.retI X9 hx hlk hret (hb hby d2_68) e9 (⟨by rw [← hu]; simp [own_ref, hc22_2, hc30_3, hc38_4, hc46_5, hc55_6, hc64_7], rfl, rfl⟩) (by decide) (by decide)
              · refine Gl.of (fun _ k => XS.icmpYes X9.here hx rfl (pc0 := 64) (pc' := 69) rfl (hb hby d2_64) rfl (feq hc64_7).2 (by decide) (by decide) k) ?_
                show Gl p e below _ (T9.setTop (mkF m 69 #[.val (.int p1), .val (.int u)] []))
                refine Gl.of (fun _ k => XS.iloadN X9.here hx rfl (hb hby d2_69) rfl k) ?_
                show Gl p e below _ (T9.setTop (mkF m 70 #[.val (.int p1), .val (.int u)] [(.int u)]))
                refine Gl.of (fun _ k => XS.bipush X9.here hx rfl (hb hby d2_70) k) ?_
                show Gl p e below _ (T9.setTop (mkF m 72 #[.val (.int p1), .val (.int u)] [(.int (89 : Int32)), (.int u)]))
                by_cases hc72_8 : u = (89 : Int32)
                · refine Gl.of (fun _ k => XS.icmpNo X9.here hx rfl (hb hby d2_72) rfl (teq hc72_8).2 k) ?_
                  show Gl p e below _ (T9.setTop (mkF m 75 #[.val (.int p1), .val (.int u)] []))
                  refine Gl.of (fun _ k => XS.bipush X9.here hx rfl (hb hby d2_75) k) ?_
                  show Gl p e below _ (T9.setTop (mkF m 77 #[.val (.int p1), .val (.int u)] [(.int (10 : Int32))]))
                  exact Gl.retI X9 hx hlk hret (hb hby d2_77) e9 (⟨by rw [← hu]; simp [own_ref, hc22_2, hc30_3, hc38_4, hc46_5, hc55_6, hc64_7, hc72_8], rfl, rfl⟩) (by decide) (by decide)
                · refine Gl.of (fun _ k => XS.icmpYes X9.here hx rfl (pc0 := 72) (pc' := 78) rfl (hb hby d2_72) rfl (feq hc72_8).2 (by decide) (by decide) k) ?_
                  show Gl p e below _ (T9.setTop (mkF m 78 #[.val (.int p1), .val (.int u)] []))
                  refine Gl.of (fun _ k => XS.iloadN X9.here hx rfl (hb hby d2_78) rfl k) ?_
                  show Gl p e below _ (T9.setTop (mkF m 79 #[.val (.int p1), .val (.int u)] [(.int u)]))
                  refine Gl.of (fun _ k => XS.bipush X9.here hx rfl (hb hby d2_79) k) ?_
                  show Gl p e below _ (T9.setTop (mkF m 81 #[.val (.int p1), .val (.int u)] [(.int (83 : Int32)), (.int u)]))
                  by_cases hc81_9 : u = (83 : Int32)
                  · refine Gl.of (fun _ k => XS.icmpNo X9.here hx rfl (hb hby d2_81) rfl (teq hc81_9).2 k) ?_
                    show Gl p e below _ (T9.setTop (mkF m 84 #[.val (.int p1), .val (.int u)] []))
                    refine Gl.of (fun _ k => XS.bipush X9.here hx rfl (hb hby d2_84) k) ?_
                    show Gl p e below _ (T9.setTop (mkF m 86 #[.val (.int p1), .val (.int u)] [(.int (6 : Int32))]))
                    exact Gl.retI X9 hx hlk hret (hb hby d2_86) e9 (⟨by rw [← hu]; simp [own_ref, hc22_2, hc30_3, hc38_4, hc46_5, hc55_6, hc64_7, hc72_8, hc81_9], rfl, rfl⟩) (by decide) (by decide)
                  · refine Gl.of (fun _ k => XS.icmpYes X9.here hx rfl (pc0 := 81) (pc' := 87) rfl (hb hby d2_81) rfl (feq hc81_9).2 (by decide) (by decide) k) ?_
                    show Gl p e below _ (T9.setTop (mkF m 87 #[.val (.int p1), .val (.int u)] []))
                    refine Gl.of (fun _ k => XS.iloadN X9.here hx rfl (hb hby d2_87) rfl k) ?_
                    show Gl p e below _ (T9.setTop (mkF m 88 #[.val (.int p1), .val (.int u)] [(.int u)]))
                    refine Gl.of (fun _ k => XS.bipush X9.here hx rfl (hb hby d2_88) k) ?_
                    show Gl p e below _ (T9.setTop (mkF m 90 #[.val (.int p1), .val (.int u)] [(.int (87 : Int32)), (.int u)]))
                    by_cases hc90_10 : u = (87 : Int32)
                    · refine Gl.of (fun _ k => XS.icmpNo X9.here hx rfl (hb hby d2_90) rfl (teq hc90_10).2 k) ?_
                      show Gl p e below _ (T9.setTop (mkF m 93 #[.val (.int p1), .val (.int u)] []))
                      refine Gl.of (fun _ k => XS.bipush X9.here hx rfl (hb hby d2_93) k) ?_
                      show Gl p e below _ (T9.setTop (mkF m 95 #[.val (.int p1), .val (.int u)] [(.int (9 : Int32))]))
                      exact Gl.retI X9 hx hlk hret (hb hby d2_95) e9 (⟨by rw [← hu]; simp [own_ref, hc22_2, hc30_3, hc38_4, hc46_5, hc55_6, hc64_7, hc72_8, hc81_9, hc90_10], rfl, rfl⟩) (by decide) (by decide)
                    · refine Gl.of (fun _ k => XS.icmpYes X9.here hx rfl (pc0 := 90) (pc' := 96) rfl (hb hby d2_90) rfl (feq hc90_10).2 (by decide) (by decide) k) ?_
                      show Gl p e below _ (T9.setTop (mkF m 96 #[.val (.int p1), .val (.int u)] []))
                      refine Gl.of (fun _ k => XS.iloadN X9.here hx rfl (hb hby d2_96) rfl k) ?_
                      show Gl p e below _ (T9.setTop (mkF m 97 #[.val (.int p1), .val (.int u)] [(.int u)]))
                      refine Gl.of (fun _ k => XS.bipush X9.here hx rfl (hb hby d2_97) k) ?_
                      show Gl p e below _ (T9.setTop (mkF m 99 #[.val (.int p1), .val (.int u)] [(.int (75 : Int32)), (.int u)]))
                      by_cases hc99_11 : u = (75 : Int32)
                      · refine Gl.of (fun _ k => XS.icmpNo X9.here hx rfl (hb hby d2_99) rfl (teq hc99_11).2 k) ?_
                        show Gl p e below _ (T9.setTop (mkF m 102 #[.val (.int p1), .val (.int u)] []))
                        refine Gl.of (fun _ k => XS.bipush X9.here hx rfl (hb hby d2_102) k) ?_
                        show Gl p e below _ (T9.setTop (mkF m 104 #[.val (.int p1), .val (.int u)] [(.int (12 : Int32))]))
                        exact Gl.retI X9 hx hlk hret (hb hby d2_104) e9 (⟨by rw [← hu]; simp [own_ref, hc22_2, hc30_3, hc38_4, hc46_5, hc55_6, hc64_7, hc72_8, hc81_9, hc90_10, hc99_11], rfl, rfl⟩) (by decide) (by decide)
                      · refine Gl.of (fun _ k => XS.icmpYes X9.here hx rfl (pc0 := 99) (pc' := 105) rfl (hb hby d2_99) rfl (feq hc99_11).2 (by decide) (by decide) k) ?_
                        show Gl p e below _ (T9.setTop (mkF m 105 #[.val (.int p1), .val (.int u)] []))
                        refine Gl.of (fun _ k => XS.iloadN X9.here hx rfl (hb hby d2_105) rfl k) ?_
                        show Gl p e below _ (T9.setTop (mkF m 106 #[.val (.int p1), .val (.int u)] [(.int u)]))
                        refine Gl.of (fun _ k => XS.bipush X9.here hx rfl (hb hby d2_106) k) ?_
                        show Gl p e below _ (T9.setTop (mkF m 108 #[.val (.int p1), .val (.int u)] [(.int (77 : Int32)), (.int u)]))
                        by_cases hc108_12 : u = (77 : Int32)
                        · refine Gl.of (fun _ k => XS.icmpNo X9.here hx rfl (hb hby d2_108) rfl (teq hc108_12).2 k) ?_
                          show Gl p e below _ (T9.setTop (mkF m 111 #[.val (.int p1), .val (.int u)] []))
                          refine Gl.of (fun _ k => XS.iconst X9.here hx rfl (hb hby d2_111) k) ?_
                          show Gl p e below _ (T9.setTop (mkF m 112 #[.val (.int p1), .val (.int u)] [(.int (3 : Int32))]))
                          exact Gl.retI X9 hx hlk hret (hb hby d2_112) e9 (⟨by rw [← hu]; simp [own_ref, hc22_2, hc30_3, hc38_4, hc46_5, hc55_6, hc64_7, hc72_8, hc81_9, hc90_10, hc99_11, hc108_12], rfl, rfl⟩) (by decide) (by decide)
                        · refine Gl.of (fun _ k => XS.icmpYes X9.here hx rfl (pc0 := 108) (pc' := 113) rfl (hb hby d2_108) rfl (feq hc108_12).2 (by decide) (by decide) k) ?_
                          show Gl p e below _ (T9.setTop (mkF m 113 #[.val (.int p1), .val (.int u)] []))
                          refine Gl.of (fun _ k => XS.iloadN X9.here hx rfl (hb hby d2_113) rfl k) ?_
                          show Gl p e below _ (T9.setTop (mkF m 114 #[.val (.int p1), .val (.int u)] [(.int u)]))
                          refine Gl.of (fun _ k => XS.bipush X9.here hx rfl (hb hby d2_114) k) ?_
                          show Gl p e below _ (T9.setTop (mkF m 116 #[.val (.int p1), .val (.int u)] [(.int (66 : Int32)), (.int u)]))
                          by_cases hc116_13 : u = (66 : Int32)
                          · refine Gl.of (fun _ k => XS.icmpNo X9.here hx rfl (hb hby d2_116) rfl (teq hc116_13).2 k) ?_
                            show Gl p e below _ (T9.setTop (mkF m 119 #[.val (.int p1), .val (.int u)] []))
                            refine Gl.of (fun _ k => XS.bipush X9.here hx rfl (hb hby d2_119) k) ?_
                            show Gl p e below _ (T9.setTop (mkF m 121 #[.val (.int p1), .val (.int u)] [(.int (14 : Int32))]))
                            exact Gl.retI X9 hx hlk hret (hb hby d2_121) e9 (⟨by rw [← hu]; simp [own_ref, hc22_2, hc30_3, hc38_4, hc46_5, hc55_6, hc64_7, hc72_8, hc81_9, hc90_10, hc99_11, hc108_12, hc116_13], rfl, rfl⟩) (by decide) (by decide)
                          · refine Gl.of (fun _ k => XS.icmpYes X9.here hx rfl (pc0 := 116) (pc' := 122) rfl (hb hby d2_116) rfl (feq hc116_13).2 (by decide) (by decide) k) ?_
                            show Gl p e below _ (T9.setTop (mkF m 122 #[.val (.int p1), .val (.int u)] []))
                            refine Gl.of (fun _ k => XS.iloadN X9.here hx rfl (hb hby d2_122) rfl k) ?_
                            show Gl p e below _ (T9.setTop (mkF m 123 #[.val (.int p1), .val (.int u)] [(.int u)]))
                            refine Gl.of (fun _ k => XS.bipush X9.here hx rfl (hb hby d2_123) k) ?_
                            show Gl p e below _ (T9.setTop (mkF m 125 #[.val (.int p1), .val (.int u)] [(.int (68 : Int32)), (.int u)]))
                            by_cases hc125_14 : u = (68 : Int32)
                            · refine Gl.of (fun _ k => XS.icmpNo X9.here hx rfl (hb hby d2_125) rfl (teq hc125_14).2 k) ?_
                              show Gl p e below _ (T9.setTop (mkF m 128 #[.val (.int p1), .val (.int u)] []))
                              refine Gl.of (fun _ k => XS.bipush X9.here hx rfl (hb hby d2_128) k) ?_
                              show Gl p e below _ (T9.setTop (mkF m 130 #[.val (.int p1), .val (.int u)] [(.int (13 : Int32))]))
                              exact Gl.retI X9 hx hlk hret (hb hby d2_130) e9 (⟨by rw [← hu]; simp [own_ref, hc22_2, hc30_3, hc38_4, hc46_5, hc55_6, hc64_7, hc72_8, hc81_9, hc90_10, hc99_11, hc108_12, hc116_13, hc125_14], rfl, rfl⟩) (by decide) (by decide)
                            · refine Gl.of (fun _ k => XS.icmpYes X9.here hx rfl (pc0 := 125) (pc' := 131) rfl (hb hby d2_125) rfl (feq hc125_14).2 (by decide) (by decide) k) ?_
                              show Gl p e below _ (T9.setTop (mkF m 131 #[.val (.int p1), .val (.int u)] []))
                              refine Gl.of (fun _ k => XS.iloadN X9.here hx rfl (hb hby d2_131) rfl k) ?_
                              show Gl p e below _ (T9.setTop (mkF m 132 #[.val (.int p1), .val (.int u)] [(.int u)]))
                              refine Gl.of (fun _ k => XS.bipush X9.here hx rfl (hb hby d2_132) k) ?_
                              show Gl p e below _ (T9.setTop (mkF m 134 #[.val (.int p1), .val (.int u)] [(.int (72 : Int32)), (.int u)]))
                              by_cases hc134_15 : u = (72 : Int32)
                              · refine Gl.of (fun _ k => XS.icmpNo X9.here hx rfl (hb hby d2_134) rfl (teq hc134_15).2 k) ?_
                                show Gl p e below _ (T9.setTop (mkF m 137 #[.val (.int p1), .val (.int u)] []))
                                refine Gl.of (fun _ k => XS.bipush X9.here hx rfl (hb hby d2_137) k) ?_
                                show Gl p e below _ (T9.setTop (mkF m 139 #[.val (.int p1), .val (.int u)] [(.int (11 : Int32))]))
                                exact Gl.retI X9 hx hlk hret (hb hby d2_139) e9 (⟨by rw [← hu]; simp [own_ref, hc22_2, hc30_3, hc38_4, hc46_5, hc55_6, hc64_7, hc72_8, hc81_9, hc90_10, hc99_11, hc108_12, hc116_13, hc125_14, hc134_15], rfl, rfl⟩) (by decide) (by decide)
                              · refine Gl.of (fun _ k => XS.icmpYes X9.here hx rfl (pc0 := 134) (pc' := 140) rfl (hb hby d2_134) rfl (feq hc134_15).2 (by decide) (by decide) k) ?_
                                show Gl p e below _ (T9.setTop (mkF m 140 #[.val (.int p1), .val (.int u)] []))
                                refine Gl.of (fun _ k => XS.iloadN X9.here hx rfl (hb hby d2_140) rfl k) ?_
                                show Gl p e below _ (T9.setTop (mkF m 141 #[.val (.int p1), .val (.int u)] [(.int u)]))
                                refine Gl.of (fun _ k => XS.bipush X9.here hx rfl (hb hby d2_141) k) ?_
                                show Gl p e below _ (T9.setTop (mkF m 143 #[.val (.int p1), .val (.int u)] [(.int (86 : Int32)), (.int u)]))
                                by_cases hc143_16 : u = (86 : Int32)
                                · refine Gl.of (fun _ k => XS.icmpNo X9.here hx rfl (hb hby d2_143) rfl (teq hc143_16).2 k) ?_
                                  show Gl p e below _ (T9.setTop (mkF m 146 #[.val (.int p1), .val (.int u)] []))
                                  refine Gl.of (fun _ k => XS.bipush X9.here hx rfl (hb hby d2_146) k) ?_
                                  show Gl p e below _ (T9.setTop (mkF m 148 #[.val (.int p1), .val (.int u)] [(.int (7 : Int32))]))
                                  exact Gl.retI X9 hx hlk hret (hb hby d2_148) e9 (⟨by rw [← hu]; simp [own_ref, hc22_2, hc30_3, hc38_4, hc46_5, hc55_6, hc64_7, hc72_8, hc81_9, hc90_10, hc99_11, hc108_12, hc116_13, hc125_14, hc134_15, hc143_16], rfl, rfl⟩) (by decide) (by decide)
                                · refine Gl.of (fun _ k => XS.icmpYes X9.here hx rfl (pc0 := 143) (pc' := 149) rfl (hb hby d2_143) rfl (feq hc143_16).2 (by decide) (by decide) k) ?_
                                  show Gl p e below _ (T9.setTop (mkF m 149 #[.val (.int p1), .val (.int u)] []))
                                  refine Gl.of (fun _ k => XS.iloadN X9.here hx rfl (hb hby d2_149) rfl k) ?_
                                  show Gl p e below _ (T9.setTop (mkF m 150 #[.val (.int p1), .val (.int u)] [(.int u)]))
                                  refine Gl.of (fun _ k => XS.bipush X9.here hx rfl (hb hby d2_150) k) ?_
                                  show Gl p e below _ (T9.setTop (mkF m 152 #[.val (.int p1), .val (.int u)] [(.int (78 : Int32)), (.int u)]))
                                  by_cases hc152_17 : u = (78 : Int32)
                                  · refine Gl.of (fun _ k => XS.icmpNo X9.here hx rfl (hb hby d2_152) rfl (teq hc152_17).2 k) ?_
                                    show Gl p e below _ (T9.setTop (mkF m 155 #[.val (.int p1), .val (.int u)] []))
                                    refine Gl.of (fun _ k => XS.bipush X9.here hx rfl (hb hby d2_155) k) ?_
                                    show Gl p e below _ (T9.setTop (mkF m 157 #[.val (.int p1), .val (.int u)] [(.int (15 : Int32))]))
                                    exact Gl.retI X9 hx hlk hret (hb hby d2_157) e9 (⟨by rw [← hu]; simp [own_ref, hc22_2, hc30_3, hc38_4, hc46_5, hc55_6, hc64_7, hc72_8, hc81_9, hc90_10, hc99_11, hc108_12, hc116_13, hc125_14, hc134_15, hc143_16, hc152_17], rfl, rfl⟩) (by decide) (by decide)
                                  · refine Gl.of (fun _ k => XS.icmpYes X9.here hx rfl (pc0 := 152) (pc' := 158) rfl (hb hby d2_152) rfl (feq hc152_17).2 (by decide) (by decide) k) ?_
                                    show Gl p e below _ (T9.setTop (mkF m 158 #[.val (.int p1), .val (.int u)] []))
                                    refine Gl.of (fun _ k => XS.iconst X9.here hx rfl (hb hby d2_158) k) ?_
                                    show Gl p e below _ (T9.setTop (mkF m 159 #[.val (.int p1), .val (.int u)] [(.int (0 : Int32))]))
                                    exact Gl.retI X9 hx hlk hret (hb hby d2_159) e9 (⟨by rw [← hu]; simp [own_ref, hc22_2, hc30_3, hc38_4, hc46_5, hc55_6, hc64_7, hc72_8, hc81_9, hc90_10, hc99_11, hc108_12, hc116_13, hc125_14, hc134_15, hc143_16, hc152_17], rfl, rfl⟩) (by decide) (by decide)
  show Gl p e below _ (s₁.setTop (mkF m 0 #[.val (.int p1), .unset] []))
  refine Gl.of (fun _ k => XS.iloadN X0.here hx rfl (hb hby d2_0) rfl k) ?_
  show Gl p e below _ (s₁.setTop (mkF m 1 #[.val (.int p1), .unset] [(.int p1)]))
  refine Gl.of (fun _ k => XS.istoreN X0.here hx rfl (hb hby d2_1) rfl (l' := #[.val (.int p1), .val (.int p1)]) rfl k) ?_
  show Gl p e below _ (s₁.setTop (mkF m 2 #[.val (.int p1), .val (.int p1)] []))
  refine Gl.of (fun _ k => XS.iloadN X0.here hx rfl (hb hby d2_2) rfl k) ?_
  show Gl p e below _ (s₁.setTop (mkF m 3 #[.val (.int p1), .val (.int p1)] [(.int p1)]))
  refine Gl.of (fun _ k => XS.bipush X0.here hx rfl (hb hby d2_3) k) ?_
  show Gl p e below _ (s₁.setTop (mkF m 5 #[.val (.int p1), .val (.int p1)] [(.int (97 : Int32)), (.int p1)]))
  by_cases hc5_18 : p1 < (97 : Int32)
  · refine Gl.of (fun _ k => XS.icmpYes X0.here hx rfl (pc0 := 5) (pc' := 19) rfl (hb hby d2_5) rfl (tlt hc5_18).1 (by decide) (by decide) k) ?_
    show Gl p e below _ (s₁.setTop (mkF m 19 #[.val (.int p1), .val (.int p1)] []))
    exact J19 _ X0 e0 _ (by simp [own_up, hc5_18])
  · refine Gl.of (fun _ k => XS.icmpNo X0.here hx rfl (hb hby d2_5) rfl (flt hc5_18).1 k) ?_
    show Gl p e below _ (s₁.setTop (mkF m 8 #[.val (.int p1), .val (.int p1)] []))
    refine Gl.of (fun _ k => XS.iloadN X0.here hx rfl (hb hby d2_8) rfl k) ?_
    show Gl p e below _ (s₁.setTop (mkF m 9 #[.val (.int p1), .val (.int p1)] [(.int p1)]))
    refine Gl.of (fun _ k => XS.bipush X0.here hx rfl (hb hby d2_9) k) ?_
    show Gl p e below _ (s₁.setTop (mkF m 11 #[.val (.int p1), .val (.int p1)] [(.int (122 : Int32)), (.int p1)]))
    by_cases hc11_19 : (122 : Int32) < p1
    · refine Gl.of (fun _ k => XS.icmpYes X0.here hx rfl (pc0 := 11) (pc' := 19) rfl (hb hby d2_11) rfl (tlt hc11_19).2.2.1 (by decide) (by decide) k) ?_
      show Gl p e below _ (s₁.setTop (mkF m 19 #[.val (.int p1), .val (.int p1)] []))
      exact J19 _ X0 e0 _ (by simp [own_up, hc5_18, hc11_19])
    · refine Gl.of (fun _ k => XS.icmpNo X0.here hx rfl (hb hby d2_11) rfl (flt hc11_19).2.2.1 k) ?_
      show Gl p e below _ (s₁.setTop (mkF m 14 #[.val (.int p1), .val (.int p1)] []))
      refine Gl.of (fun _ k => XS.iloadN X0.here hx rfl (hb hby d2_14) rfl k) ?_
      show Gl p e below _ (s₁.setTop (mkF m 15 #[.val (.int p1), .val (.int p1)] [(.int p1)]))
      refine Gl.of (fun _ k => XS.bipush X0.here hx rfl (hb hby d2_15) k) ?_
      show Gl p e below _ (s₁.setTop (mkF m 17 #[.val (.int p1), .val (.int p1)] [(.int (32 : Int32)), (.int p1)]))
      refine Gl.of (fun _ k => XS.isub X0.here hx rfl (hb hby d2_17) rfl k) ?_
      show Gl p e below _ (s₁.setTop (mkF m 18 #[.val (.int p1), .val (.int p1)] [(.int (p1 - (32 : Int32)))]))
      refine Gl.of (fun _ k => XS.istoreN X0.here hx rfl (hb hby d2_18) rfl (l' := #[.val (.int p1), .val (.int (p1 - (32 : Int32)))]) rfl k) ?_
      show Gl p e below _ (s₁.setTop (mkF m 19 #[.val (.int p1), .val (.int (p1 - (32 : Int32)))] []))
      exact J19 _ X0 e0 _ (by simp [own_up, hc5_18, hc11_19])
theorem own_chr (x : Int32) : ¬ (x.toUInt32.toUInt16.toUInt32.toInt32) < 0 := by
  have h : ∀ u : UInt16, (u.toUInt32.toInt32).toInt = u.toNat := fun u => by
    have hu := u.toNat_lt
    have e : u.toUInt32.toInt32.toInt = (u.toUInt32.toBitVec).toInt := rfl
    have e2 : u.toUInt32.toBitVec.toNat = u.toNat := UInt16.toNat_toUInt32 u
    rw [e, BitVec.toInt_eq_toNat_of_lt (by rw [e2]; omega), e2]
  rw [Int32.lt_iff_toInt_lt, h]
  have e : (0 : Int32).toInt = 0 := rfl
  omega
theorem ef_3 (m : MethodId) (x0 : Int32) (x1 : Int32) : entryFrame m #[(.int x0), (.int x1)] maxLocals = mkF m 0 #[.val (.int x0), .val (.int x1), .unset] [] := by first | (simp [entryFrame, mkF, argsToLocals, Value.category, maxLocals]; done) | rfl
theorem pd_0 : parseMethodDescriptor "(C)I" = some ⟨[.char], some .int⟩ := by decide +kernel
theorem w0 {Z : State} {a0 : Array Value} (hw : ∀ d ∈ tables_1, d.before a0 Z = true) : (Jvm.Cond.methodLink "com/example/pathstone/pathstone/NucleotidesStatesPinLaw" (7 : Nat) ({ cls := "com/example/pathstone/pathstone/Nucleotides", name := "states", desc := "(C)I" } : Jvm.MethodName)).before a0 Z = true := hw _ (List.mem_of_getElem? (i := 0) rfl)
theorem w1 {Z : State} {a0 : Array Value} (hw : ∀ d ∈ tables_1, d.before a0 Z = true) : (Jvm.Cond.static ({ cls := "com/example/pathstone/pathstone/Nucleotides", name := "states", desc := "(C)I" } : Jvm.MethodName)).before a0 Z = true := hw _ (List.mem_of_getElem? (i := 1) rfl)
theorem w2 {Z : State} {a0 : Array Value} (hw : ∀ d ∈ tables_1, d.before a0 Z = true) : (Jvm.Cond.initialized "com/example/pathstone/pathstone/Nucleotides").before a0 Z = true := hw _ (List.mem_of_getElem? (i := 2) rfl)
theorem w3 {Z : State} {a0 : Array Value} (hw : ∀ d ∈ tables_1, d.before a0 Z = true) : (Jvm.Cond.code ({ cls := "com/example/pathstone/pathstone/Nucleotides", name := "states", desc := "(C)I" } : Jvm.MethodName) prog_15_method_2_code (1 : Nat) (Option.some Jvm.ClassFile.FieldType.int)).before a0 Z = true := hw _ (List.mem_of_getElem? (i := 3) rfl)
theorem w6 {Z : State} {a0 : Array Value} (hw : ∀ d ∈ tables_1, d.before a0 Z = true) : (Jvm.Cond.methodLink "com/example/pathstone/pathstone/NucleotidesStatesPinLaw" (13 : Nat) ({ cls := "com/example/pathstone/pathstone/NucleotidesStatesPinLaw", name := "ref", desc := "(C)I" } : Jvm.MethodName)).before a0 Z = true := hw _ (List.mem_of_getElem? (i := 6) rfl)
theorem w7 {Z : State} {a0 : Array Value} (hw : ∀ d ∈ tables_1, d.before a0 Z = true) : (Jvm.Cond.static ({ cls := "com/example/pathstone/pathstone/NucleotidesStatesPinLaw", name := "ref", desc := "(C)I" } : Jvm.MethodName)).before a0 Z = true := hw _ (List.mem_of_getElem? (i := 7) rfl)
theorem w8 {Z : State} {a0 : Array Value} (hw : ∀ d ∈ tables_1, d.before a0 Z = true) : (Jvm.Cond.initialized "com/example/pathstone/pathstone/NucleotidesStatesPinLaw").before a0 Z = true := hw _ (List.mem_of_getElem? (i := 8) rfl)
theorem w9 {Z : State} {a0 : Array Value} (hw : ∀ d ∈ tables_1, d.before a0 Z = true) : (Jvm.Cond.code ({ cls := "com/example/pathstone/pathstone/NucleotidesStatesPinLaw", name := "ref", desc := "(C)I" } : Jvm.MethodName) method_2_code (2 : Nat) (Option.some Jvm.ClassFile.FieldType.int)).before a0 Z = true := hw _ (List.mem_of_getElem? (i := 9) rfl)
set_option maxRecDepth 65536 in
set_option maxHeartbeats 40000000 in
theorem rm0 (l : Launch) (Z : State) (a0 : Array Value) (hw : ∀ d ∈ tables_1, d.before a0 Z = true) (ws : List Jvm.Cond) (h0 : Heap) (p1 : Int32) (p2 : Int32) (a1 : Addr) (cl1 : Cell) (S1 : Sta Z h0 "com/example/pathstone/pathstone/Nucleotides" "STATES" "[B" (.ref a1)) (A1 : Arr Z h0 a1 cl1 .byte) (sz : cl1.slots.size = (128 : Int32).toNatClampNeg) (hv : ∀ j : Nat, j < 128 → cl1.slots[j]? = some (.int (own_tbl j))) : Con l Z x code maxLocals ret ws room_1 0 0 #[(.int p1), (.int p2)] h0 (Pur (fun v => v = some (.int 1)) h0) := by
  refine Con.intro (plainFor_of_name pn_1) ?_
  intro p e s m below meth c s₁ X0 hx hby hml hZ hown hnm hret hlk e0 hs0
  refine Gl.of (fun _ k => castTop (ef_3 m p1 p2) k) ?_
  have J18 : ∀ (T9 : State), Stand p l e room_1 s m #[(.int p1), (.int p2)] below meth c T9 [] 0 0 → T9.heap = h0 → ∀ (u : Int32), ¬ u < 0 → Gl p e below (Gd s (Pur (fun v => v = some (.int 1)) h0) 0 0) (T9.setTop (mkF m 18 #[.val (.int p1), .val (.int p2), .val (.int u)] [])) := by
    intro T9 X9 e9 u hu
    show Gl p e below _ (T9.setTop (mkF m 18 #[.val (.int p1), .val (.int p2), .val (.int u)] []))
    refine Gl.of (fun _ k => XS.iloadN X9.here hx rfl (hb hby at_18) rfl k) ?_
    show Gl p e below _ (T9.setTop (mkF m 19 #[.val (.int p1), .val (.int p2), .val (.int u)] [(.int u)]))
    refine Gl.callS0 X9 hx hZ (y := (⟨"com/example/pathstone/pathstone/Nucleotides", "states", "(C)I"⟩ : MethodName)) hown (w0 hw) (w1 hw) (w2 hw) (w3 hw) (desc_ne (by decide)) (argsL := [(.int u)]) (rest := []) (rm1 l Z a0 hw h0 u a1 cl1 S1 A1 sz hv hu) 0 (by decide) (by decide) e9 (pc := 19) (Ls := #[.val (.int p1), .val (.int p2), .val (.int u)]) (st := [(.int u)]) (by rw [hml]; rfl) pd_0 rfl rfl (Nat.le_of_eq rfl) (hb hby at_19) (by decide) (by decide) ?_
    intro v1 T1 X1 e1 hv1
    subst hv1
    show Gl p e below _ (T1.setTop (mkF m 22 #[.val (.int p1), .val (.int p2), .val (.int u)] [(.int (own_states u))]))
    refine Gl.of (fun _ k => XS.iloadN X1.here hx rfl (hb hby at_22) rfl k) ?_
    show Gl p e below _ (T1.setTop (mkF m 23 #[.val (.int p1), .val (.int p2), .val (.int u)] [(.int u), (.int (own_states u))]))
    refine Gl.callS0 X1 hx hZ (y := (⟨"com/example/pathstone/pathstone/NucleotidesStatesPinLaw", "ref", "(C)I"⟩ : MethodName)) hown (w6 hw) (w7 hw) (w8 hw) (w9 hw) (desc_ne (by decide)) (argsL := [(.int u)]) (rest := [(.int (own_states u))]) (rm2 l Z a0 hw h0 u) 1 (by decide) (by decide) e1 (pc := 23) (Ls := #[.val (.int p1), .val (.int p2), .val (.int u)]) (st := [(.int u), (.int (own_states u))]) (by rw [hml]; rfl) pd_0 rfl rfl (Nat.le_of_eq rfl) (hb hby at_23) (by decide) (by decide) ?_
    intro v2 T2 X2 e2 hv2
    subst hv2
    show Gl p e below _ (T2.setTop (mkF m 26 #[.val (.int p1), .val (.int p2), .val (.int u)] [(.int (own_ref (own_up u))), (.int (own_states u))]))
    refine Gl.of (fun _ k => XS.icmpNo X2.here hx rfl (hb hby at_26) rfl (teq (own_eq u hu : (own_states u) = (own_ref (own_up u)))).2 k) ?_
    show Gl p e below _ (T2.setTop (mkF m 29 #[.val (.int p1), .val (.int p2), .val (.int u)] []))
    refine Gl.of (fun _ k => XS.iconst X2.here hx rfl (hb hby at_29) k) ?_
    show Gl p e below _ (T2.setTop (mkF m 30 #[.val (.int p1), .val (.int p2), .val (.int u)] [(.int (1 : Int32))]))
    refine Gl.of (fun _ k => XS.goto X2.here hx rfl (pc0 := 30) (pc' := 34) rfl (hb hby at_30) (by decide) (by decide) k) ?_
    show Gl p e below _ (T2.setTop (mkF m 34 #[.val (.int p1), .val (.int p2), .val (.int u)] [(.int (1 : Int32))]))
    exact Gl.retN X2 hx hlk hret (by simp) (hb hby at_34) e2 (⟨rfl, rfl, rfl⟩) (by decide) (by decide)
  show Gl p e below _ (s₁.setTop (mkF m 0 #[.val (.int p1), .val (.int p2), .unset] []))
  refine Gl.of (fun _ k => XS.iloadN X0.here hx rfl (hb hby at_0) rfl k) ?_
  show Gl p e below _ (s₁.setTop (mkF m 1 #[.val (.int p1), .val (.int p2), .unset] [(.int p2)]))
  refine Gl.of (fun _ k => XS.iconst X0.here hx rfl (hb hby at_1) k) ?_
  show Gl p e below _ (s₁.setTop (mkF m 2 #[.val (.int p1), .val (.int p2), .unset] [(.int (1 : Int32)), (.int p2)]))
  refine Gl.of (fun _ k => XS.iand X0.here hx rfl (hb hby at_2) rfl k) ?_
  show Gl p e below _ (s₁.setTop (mkF m 3 #[.val (.int p1), .val (.int p2), .unset] [(.int (p2 &&& (1 : Int32)))]))
  by_cases hc3_3 : (p2 &&& (1 : Int32)) = (0 : Int32)
  · refine Gl.of (fun _ k => XS.ifYes X0.here hx rfl (pc0 := 3) (pc' := 15) rfl (hb hby at_3) rfl ((if0 _ _).trans (teq hc3_3).1) (by decide) (by decide) k) ?_
    show Gl p e below _ (s₁.setTop (mkF m 15 #[.val (.int p1), .val (.int p2), .unset] []))
    refine Gl.of (fun _ k => XS.iloadN X0.here hx rfl (hb hby at_15) rfl k) ?_
    show Gl p e below _ (s₁.setTop (mkF m 16 #[.val (.int p1), .val (.int p2), .unset] [(.int p1)]))
    refine Gl.of (fun _ k => XS.i2c X0.here hx rfl (hb hby at_16) rfl k) ?_
    show Gl p e below _ (s₁.setTop (mkF m 17 #[.val (.int p1), .val (.int p2), .unset] [(.int (p1.toUInt32.toUInt16.toUInt32.toInt32))]))
    refine Gl.of (fun _ k => XS.istoreN X0.here hx rfl (hb hby at_17) rfl (l' := #[.val (.int p1), .val (.int p2), .val (.int (p1.toUInt32.toUInt16.toUInt32.toInt32))]) rfl k) ?_
    show Gl p e below _ (s₁.setTop (mkF m 18 #[.val (.int p1), .val (.int p2), .val (.int (p1.toUInt32.toUInt16.toUInt32.toInt32))] []))
    exact J18 _ X0 e0 _ (own_chr _)
  · refine Gl.of (fun _ k => XS.ifNo X0.here hx rfl (hb hby at_3) rfl ((if0 _ _).trans (feq hc3_3).1) k) ?_
    show Gl p e below _ (s₁.setTop (mkF m 6 #[.val (.int p1), .val (.int p2), .unset] []))
    refine Gl.of (fun _ k => XS.iloadN X0.here hx rfl (hb hby at_6) rfl k) ?_
    show Gl p e below _ (s₁.setTop (mkF m 7 #[.val (.int p1), .val (.int p2), .unset] [(.int p1)]))
    refine Gl.of (fun _ k => XS.bipush X0.here hx rfl (hb hby at_7) k) ?_
    show Gl p e below _ (s₁.setTop (mkF m 9 #[.val (.int p1), .val (.int p2), .unset] [(.int (127 : Int32)), (.int p1)]))
    refine Gl.of (fun _ k => XS.iand X0.here hx rfl (hb hby at_9) rfl k) ?_
    show Gl p e below _ (s₁.setTop (mkF m 10 #[.val (.int p1), .val (.int p2), .unset] [(.int (p1 &&& (127 : Int32)))]))
    refine Gl.of (fun _ k => XS.i2c X0.here hx rfl (hb hby at_10) rfl k) ?_
    show Gl p e below _ (s₁.setTop (mkF m 11 #[.val (.int p1), .val (.int p2), .unset] [(.int ((p1 &&& (127 : Int32)).toUInt32.toUInt16.toUInt32.toInt32))]))
    refine Gl.of (fun _ k => XS.istoreN X0.here hx rfl (hb hby at_11) rfl (l' := #[.val (.int p1), .val (.int p2), .val (.int ((p1 &&& (127 : Int32)).toUInt32.toUInt16.toUInt32.toInt32))]) rfl k) ?_
    show Gl p e below _ (s₁.setTop (mkF m 12 #[.val (.int p1), .val (.int p2), .val (.int ((p1 &&& (127 : Int32)).toUInt32.toUInt16.toUInt32.toInt32))] []))
    refine Gl.of (fun _ k => XS.goto X0.here hx rfl (pc0 := 12) (pc' := 18) rfl (hb hby at_12) (by decide) (by decide) k) ?_
    show Gl p e below _ (s₁.setTop (mkF m 18 #[.val (.int p1), .val (.int p2), .val (.int ((p1 &&& (127 : Int32)).toUInt32.toUInt16.toUInt32.toInt32))] []))
    exact J18 _ X0 e0 _ (own_chr _)
theorem own_elem {args : Array Value} {s : State} {t : Term} {a : Addr} {c : Cell} {k v : Int32} (h : (Jvm.Cond.eq (.elem t (.int k)) (.int v)).value args s none s [] = some true) (ht : t.eval args s none [] s = some (.ref a)) (hc : s.heap[a]? = some c) : c.slots[k.toNatClampNeg]? = some (.int v) :=
  (elem_in (eq_at h) ht (Term.int_eval k) hc).2
theorem own_all {args : Array Value} {s : State} {t : Term} {a : Addr} {c : Cell} {D : Jvm.Cond} (ha : s.arrayAt? a = some c) (hc : s.heap[a]? = some c) (ht : ∀ idx, t.eval args s none idx s = some (.ref a)) (h : (Jvm.Cond.all t D).value args s none s [] = some true) {k : Nat} (hk : k < c.slots.size) : D.value args s none s [k] = some true := Cond.all_elim (ht []) ha h k hk
theorem own_or {args : Array Value} {s : State} {idx : List Nat} {c d : Jvm.Cond} (h1 : c.value args s none s idx = some false) (h : (Jvm.Cond.or c d).value args s none s idx = some true) : d.value args s none s idx = some true := by rw [Cond.or_of_right h1] at h; exact h
theorem own_i {k : Nat} (hk : k < 128) : k.toInt32.toInt = k := len_toInt (by omega)
theorem w5 {Z : State} {a0 : Array Value} (hw : ∀ d ∈ tables_1, d.before a0 Z = true) : (Jvm.Cond.laysStatic "com/example/pathstone/pathstone/Nucleotides" "STATES" "[B").before a0 Z = true := hw _ (List.mem_of_getElem? (i := 5) rfl)
set_option maxRecDepth 65536 in
set_option maxHeartbeats 40000000 in
theorem comes_1 {Post : Tables → Env → Array Value → State → Outcome → State → Prop} (hpost : ∀ tb e args s v u, (limb_1_1.after args s (.returned v) u = true ∧ limb_1_2.after args s (.returned v) u = true ∧ True) → FrameEnd s (.returned v) u (Jvm.fieldLocs frame_1_writes args s ++ Jvm.arrayLocs frame_1_arrays args s ++ Jvm.staticLocs frame_1_statics s) 0 0 → Post tb e args s (.returned v) u) :
    ArmFor flags0 classFile x code maxLocals ret World_1 tables_1 room_1 Calls_1 rest_1 Pre_1 Post := by
  intro l hfl _ _ p e ha hc hk s m args below hf hA hF happ hP
  obtain ⟨hcalls, hrest, hpre⟩ := hP
  obtain ⟨-, -, -, hnamed, -, -, -, hat⟩ := (Spec.applies_iff hf).mp happ
  obtain ⟨hg, hn⟩ := and_e (Cond.before_iff.mp (show (Jvm.Cond.and given_1 narrow_1).before args s = true from hpre))
  obtain ⟨g_c, q_g_c⟩ := and_e hg
  obtain ⟨g_0, q_g_0⟩ := and_e q_g_c
  have g_1 := q_g_0
  obtain ⟨w_0, w_1, rfl⟩ : ∃ w_0 w_1 : Value, args = #[w_0, w_1] := by
    have hs : args.size = 2 := by simpa [Cond.value, given_1] using g_c
    obtain ⟨L⟩ := args
    match L, hs with
    | [w_0, w_1], _ => exact ⟨w_0, w_1, rfl⟩
  have hw := fun d (hd : d ∈ tables_1) => atoms_spec (ws := Jvm.Cond.code x code maxLocals ret :: tables_1) hat d (List.mem_cons_of_mem _ hd)
  have hfit : Fit s := fun {y c} hc i hi => by
    obtain ⟨ha, rfl⟩ := Array.getElem?_eq_some_iff.mp hc
    have q := List.all_eq_true.mp ((Array.all_eq_true_iff_forall_mem.mp hF) _ (Array.getElem_mem ha)) i (List.mem_range.mpr hi)
    simpa [Array.getElem?_eq_getElem hi] using q
  obtain ⟨p1, ei0⟩ := is_v g_0
  obtain rfl : w_0 = (.int p1) := Option.some.inj ei0
  obtain ⟨p2, ei1⟩ := is_v g_1
  obtain rfl : w_1 = (.int p2) := Option.some.inj ei1
  obtain ⟨n0, q_n0⟩ := and_e hn
  obtain ⟨n1, q_n1⟩ := and_e q_n0
  obtain ⟨n2, q_n2⟩ := and_e q_n1
  obtain ⟨n3, q_n3⟩ := and_e q_n2
  obtain ⟨n4, q_n4⟩ := and_e q_n3
  obtain ⟨n5, q_n5⟩ := and_e q_n4
  obtain ⟨n6, q_n6⟩ := and_e q_n5
  obtain ⟨n7, q_n7⟩ := and_e q_n6
  obtain ⟨n8, q_n8⟩ := and_e q_n7
  obtain ⟨n9, q_n9⟩ := and_e q_n8
  obtain ⟨n10, q_n10⟩ := and_e q_n9
  obtain ⟨n11, q_n11⟩ := and_e q_n10
  obtain ⟨n12, q_n12⟩ := and_e q_n11
  obtain ⟨n13, q_n13⟩ := and_e q_n12
  obtain ⟨n14, q_n14⟩ := and_e q_n13
  obtain ⟨n15, q_n15⟩ := and_e q_n14
  obtain ⟨n16, q_n16⟩ := and_e q_n15
  obtain ⟨n17, q_n17⟩ := and_e q_n16
  obtain ⟨n18, q_n18⟩ := and_e q_n17
  obtain ⟨n19, q_n19⟩ := and_e q_n18
  obtain ⟨n20, q_n20⟩ := and_e q_n19
  obtain ⟨n21, q_n21⟩ := and_e q_n20
  obtain ⟨n22, q_n22⟩ := and_e q_n21
  obtain ⟨n23, q_n23⟩ := and_e q_n22
  obtain ⟨n24, q_n24⟩ := and_e q_n23
  obtain ⟨n25, q_n25⟩ := and_e q_n24
  obtain ⟨n26, q_n26⟩ := and_e q_n25
  obtain ⟨n27, q_n27⟩ := and_e q_n26
  obtain ⟨n28, q_n28⟩ := and_e q_n27
  obtain ⟨n29, q_n29⟩ := and_e q_n28
  obtain ⟨n30, q_n30⟩ := and_e q_n29
  obtain ⟨n31, q_n31⟩ := and_e q_n30
  obtain ⟨n32, q_n32⟩ := and_e q_n31
  obtain ⟨n33, q_n33⟩ := and_e q_n32
  obtain ⟨n34, q_n34⟩ := and_e q_n33
  obtain ⟨n35, q_n35⟩ := and_e q_n34
  obtain ⟨n36, q_n36⟩ := and_e q_n35
  obtain ⟨n37, q_n37⟩ := and_e q_n36
  obtain ⟨n38, q_n38⟩ := and_e q_n37
  obtain ⟨n39, q_n39⟩ := and_e q_n38
  obtain ⟨n40, q_n40⟩ := and_e q_n39
  obtain ⟨n41, q_n41⟩ := and_e q_n40
  obtain ⟨n42, q_n42⟩ := and_e q_n41
  obtain ⟨n43, q_n43⟩ := and_e q_n42
  obtain ⟨n44, q_n44⟩ := and_e q_n43
  obtain ⟨n45, q_n45⟩ := and_e q_n44
  obtain ⟨n46, q_n46⟩ := and_e q_n45
  obtain ⟨n47, q_n47⟩ := and_e q_n46
  obtain ⟨n48, q_n48⟩ := and_e q_n47
  obtain ⟨n49, q_n49⟩ := and_e q_n48
  obtain ⟨n50, q_n50⟩ := and_e q_n49
  obtain ⟨n51, q_n51⟩ := and_e q_n50
  obtain ⟨n52, q_n52⟩ := and_e q_n51
  obtain ⟨n53, q_n53⟩ := and_e q_n52
  have n54 := q_n53
  obtain ⟨a1, ea⟩ := arr_v n0
  obtain ⟨cl1, A1⟩ := Arr.start ea n0
  have S1 := Sta.start ea (Or.inr ⟨(w2 hw), (w5 hw)⟩)
  have af := A1.fin (Vm.Alike.refl _)
  have ea' : ∀ idx, (Term.static "com/example/pathstone/pathstone/Nucleotides" "STATES" "[B").eval #[.int p1, .int p2] s none idx s = some (.ref a1) := fun idx => ea
  obtain ⟨z1, z2⟩ := len_at (eq_at n1) ea af
  have sz := len_sz z1 z2
  have sz' : cl1.slots.size = 128 := sz
  have hv : ∀ j : Nat, j < 128 → cl1.slots[j]? = some (.int (own_tbl j)) := by
    intro j hj
    have ij := own_i hj
    by_cases c1 : j < 65
    · have q1 := own_or (nay (Cond.le_ints (Term.int_eval _) (Term.index_eval j)) (by rw [Int32.le_iff_toInt_le, ij]; simp; omega)) (own_all af A1.1 ea' n2 (k := j) (by omega))
      have q2 := eq_at q1
      have q3 := (elem_in q2 (ea' _) (Term.index_eval j) A1.1).2
      rw [show j.toInt32.toNatClampNeg = j by simp only [Int32.toNatClampNeg, ij]; rfl] at q3
      rw [q3]
      have : ∀ k : Fin 128, (0 ≤ k.val ∧ k.val < 65) → own_tbl k.val = 0 := by decide +kernel
      rw [this ⟨j, hj⟩ ⟨(by omega : 0 ≤ j), (by omega : j < 65)⟩]
    by_cases c2 : j < 90
    · obtain ⟨i, rfl⟩ : ∃ i, j = 65 + i := ⟨j - 65, by omega⟩
      rcases (show i = 0 ∨ i = 1 ∨ i = 2 ∨ i = 3 ∨ i = 4 ∨ i = 5 ∨ i = 6 ∨ i = 7 ∨ i = 8 ∨ i = 9 ∨ i = 10 ∨ i = 11 ∨ i = 12 ∨ i = 13 ∨ i = 14 ∨ i = 15 ∨ i = 16 ∨ i = 17 ∨ i = 18 ∨ i = 19 ∨ i = 20 ∨ i = 21 ∨ i = 22 ∨ i = 23 ∨ i = 24 by omega) with rfl | rfl | rfl | rfl | rfl | rfl | rfl | rfl | rfl | rfl | rfl | rfl | rfl | rfl | rfl | rfl | rfl | rfl | rfl | rfl | rfl | rfl | rfl | rfl | rfl
      · exact own_elem n3 ea A1.1
      · exact own_elem n4 ea A1.1
      · exact own_elem n5 ea A1.1
      · exact own_elem n6 ea A1.1
      · exact own_elem n7 ea A1.1
      · exact own_elem n8 ea A1.1
      · exact own_elem n9 ea A1.1
      · exact own_elem n10 ea A1.1
      · exact own_elem n11 ea A1.1
      · exact own_elem n12 ea A1.1
      · exact own_elem n13 ea A1.1
      · exact own_elem n14 ea A1.1
      · exact own_elem n15 ea A1.1
      · exact own_elem n16 ea A1.1
      · exact own_elem n17 ea A1.1
      · exact own_elem n18 ea A1.1
      · exact own_elem n19 ea A1.1
      · exact own_elem n20 ea A1.1
      · exact own_elem n21 ea A1.1
      · exact own_elem n22 ea A1.1
      · exact own_elem n23 ea A1.1
      · exact own_elem n24 ea A1.1
      · exact own_elem n25 ea A1.1
      · exact own_elem n26 ea A1.1
      · exact own_elem n27 ea A1.1
    by_cases c3 : j < 97
    · have q0 := own_or (nay (Cond.lt_ints (Term.index_eval j) (Term.int_eval _)) (by rw [Int32.lt_iff_toInt_lt, ij]; simp; omega)) (own_all af A1.1 ea' n28 (k := j) (by omega))
      have q1 := own_or (nay (Cond.le_ints (Term.int_eval _) (Term.index_eval j)) (by rw [Int32.le_iff_toInt_le, ij]; simp; omega)) q0
      have q2 := eq_at q1
      have q3 := (elem_in q2 (ea' _) (Term.index_eval j) A1.1).2
      rw [show j.toInt32.toNatClampNeg = j by simp only [Int32.toNatClampNeg, ij]; rfl] at q3
      rw [q3]
      have : ∀ k : Fin 128, (90 ≤ k.val ∧ k.val < 97) → own_tbl k.val = 0 := by decide +kernel
      rw [this ⟨j, hj⟩ ⟨(by omega : 90 ≤ j), (by omega : j < 97)⟩]
    by_cases c4 : j < 122
    · obtain ⟨i, rfl⟩ : ∃ i, j = 97 + i := ⟨j - 97, by omega⟩
      rcases (show i = 0 ∨ i = 1 ∨ i = 2 ∨ i = 3 ∨ i = 4 ∨ i = 5 ∨ i = 6 ∨ i = 7 ∨ i = 8 ∨ i = 9 ∨ i = 10 ∨ i = 11 ∨ i = 12 ∨ i = 13 ∨ i = 14 ∨ i = 15 ∨ i = 16 ∨ i = 17 ∨ i = 18 ∨ i = 19 ∨ i = 20 ∨ i = 21 ∨ i = 22 ∨ i = 23 ∨ i = 24 by omega) with rfl | rfl | rfl | rfl | rfl | rfl | rfl | rfl | rfl | rfl | rfl | rfl | rfl | rfl | rfl | rfl | rfl | rfl | rfl | rfl | rfl | rfl | rfl | rfl | rfl
      · exact own_elem n29 ea A1.1
      · exact own_elem n30 ea A1.1
      · exact own_elem n31 ea A1.1
      · exact own_elem n32 ea A1.1
      · exact own_elem n33 ea A1.1
      · exact own_elem n34 ea A1.1
      · exact own_elem n35 ea A1.1
      · exact own_elem n36 ea A1.1
      · exact own_elem n37 ea A1.1
      · exact own_elem n38 ea A1.1
      · exact own_elem n39 ea A1.1
      · exact own_elem n40 ea A1.1
      · exact own_elem n41 ea A1.1
      · exact own_elem n42 ea A1.1
      · exact own_elem n43 ea A1.1
      · exact own_elem n44 ea A1.1
      · exact own_elem n45 ea A1.1
      · exact own_elem n46 ea A1.1
      · exact own_elem n47 ea A1.1
      · exact own_elem n48 ea A1.1
      · exact own_elem n49 ea A1.1
      · exact own_elem n50 ea A1.1
      · exact own_elem n51 ea A1.1
      · exact own_elem n52 ea A1.1
      · exact own_elem n53 ea A1.1
    have q1 := own_or (nay (Cond.lt_ints (Term.index_eval j) (Term.int_eval _)) (by rw [Int32.lt_iff_toInt_lt, ij]; simp; omega)) (own_all af A1.1 ea' n54 (k := j) (by omega))
    have q2 := eq_at q1
    have q3 := (elem_in q2 (ea' _) (Term.index_eval j) A1.1).2
    rw [show j.toInt32.toNatClampNeg = j by simp only [Int32.toNatClampNeg, ij]; rfl] at q3
    rw [q3]
    have : ∀ k : Fin 128, (122 ≤ k.val ∧ k.val < 128) → own_tbl k.val = 0 := by decide +kernel
    rw [this ⟨j, hj⟩ ⟨(by omega : 122 ≤ j), (by omega : j < 128)⟩]
  obtain ⟨n, o, h1, h2, h3, _, L, rfl, hQ, hq⟩ := rm0 l s _ hw tables_1 s.heap p1 p2 a1 cl1 S1 A1 sz hv p e ha hc hk s m _ below hf ((Spec.applies_iff_loose hf).mp happ).1 ⟨rfl, State.Warmed39.refl s, rfl⟩ trivial
  obtain ⟨rfl, -, rfl⟩ := hQ
  have N := Fr.nil s.heap.size
  exact ⟨n, _, h1, h2, h3, hpost _ _ _ _ _ _ ⟨Cond.after_iff.mpr rfl, Cond.after_iff.mpr (eq_i res_at (Term.int_eval (1)) rfl), trivial⟩ ⟨hq.1, hq.2.1, (hq.2.2.sift fun y hy => Or.inr (N y hy)).mono (by decide) (by decide)⟩⟩
theorem main_1_1 : Claimed_1_1 := comes_1 fun _ _ _ _ _ _ h hF => ⟨h.1, hF⟩
theorem main_1_2 : Claimed_1_2 := comes_1 fun _ _ _ _ _ _ h hF => ⟨h.2.1, hF⟩
end Jvm.Pilot.@@N@@
namespace Jvm.Pilot.@@N@@
open Jvm Jvm.ClassFile Sem Op Lib Jvm.Free Jvm.Stand Jvm.Pilot.@@N@@.Jvm.D
/-! MADE BY PROGRAM (witnessworld.py) out of the Statement's table words and the real class files: 7 classes; the members and pool entries that the words name. The judged class is class 1, her method 2. -/
namespace start1
open Jvm.ClassFile
def u (s : String) : CpInfo := .utf8 (stringToUtf16 s)
/-- a pool by its gaps: so many unusable entries, then the entry; so many at the end -/
def gap : Nat → List CpInfo → List CpInfo
  | 0, r => r
  | n + 1, r => .unusable :: gap n r
def poolList (es : List (Nat × CpInfo)) (last : Nat) : List CpInfo := es.foldr (fun e r => gap e.1 (e.2 :: r)) (gap last [])
def pool (es : List (Nat × CpInfo)) (last : Nat) : Array CpInfo := ⟨poolList es last⟩
def fileOf (pool : Array CpInfo) (this : Nat) (attrs : Array Attribute := #[]) (ms : Array MethodInfo := #[]) (fl : Nat := 33) (sup : Nat := 0) (ifs : Array Nat := #[]) (fds : Array FieldInfo := #[]) : ClassFile where
  minorVersion := 0
  majorVersion := 65
  constantPool := pool
  accessFlags := fl
  thisClass := this
  superClass := sup
  interfaces := ifs
  fields := fds
  methods := ms
  attributes := attrs
def plain (name : String) (sup : Option ClassId) : Class where
  name := name
  kind := .ordinary
  loader := none
  accessFlags := 33
  super := sup
  interfaces := #[]
  cf := none
  fields := #[]
  methods := #[]
  instanceTypes := #[]
  staticTypes := #[]
  resolved := #[]
  callSites := []
  init := .initialized
  statics := none
  mirror := none

def pool0 : Array CpInfo := pool [(5, u "<init>"), (0, u "()V"), (1, .class_ 10), (1, u "java/lang/Object")] 113

def k0m0 : Method := { name := "<init>", desc := "()V", sig := { parameters := [], returnType := none }, accessFlags := 1, code := none }
/-- java/lang/Object -/
def k0 : Class := { plain "java/lang/Object" none with
  accessFlags := 33
  interfaces := #[]
  cf := some (fileOf pool0 8 #[] #[{ accessFlags := 1, nameIndex := 5, descriptorIndex := 6, attributes := #[] }] 33 0 #[] #[])
  fields := #[]
  methods := #[k0m0]
  instanceTypes := #[]
  staticTypes := #[]
  resolved := Array.replicate 124 none
  statics := none }

def pool1 : Array CpInfo := pool [(2, .class_ 4), (1, u "java/lang/Object"), (0, u "<init>"), (0, u "()V"), (0, .methodref 8 9), (0, .class_ 10), (0, .nameAndType 11 12), (0, u "com/example/pathstone/pathstone/Nucleotides"), (0, u "states"), (0, u "(C)I"), (0, .methodref 14 15), (0, .class_ 16), (0, .nameAndType 17 12), (0, u "com/example/pathstone/pathstone/NucleotidesStatesPinLaw"), (0, u "ref"), (3, u "law"), (0, u "(II)Z")] 2

def k1m0 : Method := { name := "<init>", desc := "()V", sig := { parameters := [], returnType := none }, accessFlags := 2, code := none }
def k1c1 : Code := { maxStack := 2, maxLocals := 2, code := method_2_code, exceptionTable := #[], attributes := #[] }
def k1m1 : Method := { name := "ref", desc := "(C)I", sig := { parameters := [.char], returnType := some .int }, accessFlags := 10, code := some k1c1 }
def k1c2 : Code := { maxStack := 2, maxLocals := 3, code := code, exceptionTable := #[], attributes := #[] }
def k1m2 : Method := { name := "law", desc := "(II)Z", sig := { parameters := [.int, .int], returnType := some .boolean }, accessFlags := 9, code := some k1c2 }
/-- com/example/pathstone/pathstone/NucleotidesStatesPinLaw -/
def k1 : Class := { plain "com/example/pathstone/pathstone/NucleotidesStatesPinLaw" (some 0) with
  accessFlags := 49
  interfaces := #[]
  cf := some (fileOf pool1 14 #[] #[{ accessFlags := 2, nameIndex := 5, descriptorIndex := 6, attributes := #[] }, { accessFlags := 10, nameIndex := 17, descriptorIndex := 12, attributes := #[] }, { accessFlags := 9, nameIndex := 21, descriptorIndex := 22, attributes := #[] }] 49 2 #[] #[])
  fields := #[]
  methods := #[k1m0, k1m1, k1m2]
  instanceTypes := #[]
  staticTypes := #[]
  resolved := Array.replicate 25 none
  statics := none }

def pool2 : Array CpInfo := pool [(2, .class_ 4), (1, u "java/lang/Object"), (0, u "<init>"), (0, u "()V"), (0, .fieldref 8 9), (0, .class_ 10), (0, .nameAndType 11 12), (0, u "com/example/pathstone/pathstone/Nucleotides"), (0, u "STATES"), (0, u "[B"), (18, u "BASES"), (0, u "I"), (2, u "ANY"), (1, u "UNKNOWN"), (1, u "A"), (1, u "C"), (1, u "G"), (0, u "T"), (3, u "states"), (0, u "(C)I")] 6

def k2m0 : Method := { name := "<init>", desc := "()V", sig := { parameters := [], returnType := none }, accessFlags := 2, code := none }
def k2c1 : Code := { maxStack := 2, maxLocals := 1, code := prog_15_method_2_code, exceptionTable := #[], attributes := #[] }
def k2m1 : Method := { name := "states", desc := "(C)I", sig := { parameters := [.char], returnType := some .int }, accessFlags := 8, code := some k2c1 }
/-- com/example/pathstone/pathstone/Nucleotides -/
def k2 : Class := { plain "com/example/pathstone/pathstone/Nucleotides" (some 0) with
  accessFlags := 48
  interfaces := #[]
  cf := some (fileOf pool2 8 #[] #[{ accessFlags := 2, nameIndex := 5, descriptorIndex := 6, attributes := #[] }, { accessFlags := 8, nameIndex := 48, descriptorIndex := 49, attributes := #[] }] 48 2 #[] #[{ accessFlags := 24, nameIndex := 31, descriptorIndex := 32, attributes := #[] }, { accessFlags := 24, nameIndex := 35, descriptorIndex := 32, attributes := #[] }, { accessFlags := 24, nameIndex := 37, descriptorIndex := 32, attributes := #[] }, { accessFlags := 26, nameIndex := 39, descriptorIndex := 32, attributes := #[] }, { accessFlags := 26, nameIndex := 41, descriptorIndex := 32, attributes := #[] }, { accessFlags := 26, nameIndex := 43, descriptorIndex := 32, attributes := #[] }, { accessFlags := 26, nameIndex := 44, descriptorIndex := 32, attributes := #[] }, { accessFlags := 26, nameIndex := 11, descriptorIndex := 12, attributes := #[] }])
  fields := #[{ name := "BASES", type := .int, accessFlags := 24, slot := 0, constantValue := 0 }, { name := "ANY", type := .int, accessFlags := 24, slot := 1, constantValue := 0 }, { name := "UNKNOWN", type := .int, accessFlags := 24, slot := 2, constantValue := 0 }, { name := "A", type := .int, accessFlags := 26, slot := 3, constantValue := 0 }, { name := "C", type := .int, accessFlags := 26, slot := 4, constantValue := 0 }, { name := "G", type := .int, accessFlags := 26, slot := 5, constantValue := 0 }, { name := "T", type := .int, accessFlags := 26, slot := 6, constantValue := 0 }, { name := "STATES", type := (.array .byte), accessFlags := 26, slot := 7, constantValue := 0 }]
  methods := #[k2m0, k2m1]
  instanceTypes := #[]
  staticTypes := #[.int, .int, .int, .int, .int, .int, .int, (.array .byte)]
  resolved := Array.replicate 56 none
  statics := some 0 }

def pool3 : Array CpInfo := pool [(1, u "java/lang/Cloneable"), (0, .class_ 1), (0, u "java/lang/Object"), (0, .class_ 3)] 3

/-- java/lang/Cloneable -/
def k3 : Class := { plain "java/lang/Cloneable" (some 0) with
  accessFlags := 1537
  interfaces := #[]
  cf := some (fileOf pool3 2 #[] #[] 1537 4 #[] #[])
  fields := #[]
  methods := #[]
  instanceTypes := #[]
  staticTypes := #[]
  resolved := Array.replicate 8 none
  statics := none }

def pool4 : Array CpInfo := pool [(1, u "java/io/Serializable"), (0, .class_ 1), (0, u "java/lang/Object"), (0, .class_ 3)] 3

/-- java/io/Serializable -/
def k4 : Class := { plain "java/io/Serializable" (some 0) with
  accessFlags := 1537
  interfaces := #[]
  cf := some (fileOf pool4 2 #[] #[] 1537 4 #[] #[])
  fields := #[]
  methods := #[]
  instanceTypes := #[]
  staticTypes := #[]
  resolved := Array.replicate 8 none
  statics := none }

/-- the primitive byte -/
def k5 : Class := { plain "byte" none with kind := .primitive 'B', accessFlags := 0x411 }
/-- [B -/
def k6 : Class := { plain "[B" (some 0) with kind := .array 5 .byte, interfaces := #[3, 4], accessFlags := 1041 }

def heap : Heap := #[{ cls := 2, slots := #[.int 0, .int 0, .int 0, .int 0, .int 0, .int 0, .int 0, .ref 1], vm := .statics 2 },
  { cls := 6, slots := #[.int 0, .int 0, .int 0, .int 0, .int 0, .int 0, .int 0, .int 0, .int 0, .int 0, .int 0, .int 0, .int 0, .int 0, .int 0, .int 0, .int 0, .int 0, .int 0, .int 0, .int 0, .int 0, .int 0, .int 0, .int 0, .int 0, .int 0, .int 0, .int 0, .int 0, .int 0, .int 0, .int 0, .int 0, .int 0, .int 0, .int 0, .int 0, .int 0, .int 0, .int 0, .int 0, .int 0, .int 0, .int 0, .int 0, .int 0, .int 0, .int 0, .int 0, .int 0, .int 0, .int 0, .int 0, .int 0, .int 0, .int 0, .int 0, .int 0, .int 0, .int 0, .int 0, .int 0, .int 0, .int 0, .int 1, .int 14, .int 2, .int 13, .int 0, .int 0, .int 4, .int 11, .int 0, .int 0, .int 12, .int 0, .int 3, .int 15, .int 0, .int 0, .int 0, .int 5, .int 6, .int 8, .int 8, .int 7, .int 9, .int 0, .int 10, .int 0, .int 0, .int 0, .int 0, .int 0, .int 0, .int 0, .int 1, .int 14, .int 2, .int 13, .int 0, .int 0, .int 4, .int 11, .int 0, .int 0, .int 12, .int 0, .int 3, .int 15, .int 0, .int 0, .int 0, .int 5, .int 6, .int 8, .int 8, .int 7, .int 9, .int 0, .int 10, .int 0, .int 0, .int 0, .int 0, .int 0, .int 0], vm := .none }]
def classes : Array Class := #[k0, k1, k2, k3, k4, k5, k6]
def interned : List (Array UInt16 × Addr) := []
def slotsUsed : Nat := 136
def theMethod : MethodId := ⟨1, 2⟩
def args0 : Array Value := #[.int 65, .int 1]
def aboutOver (below : List Frame) : State where
  vm := { classes := classes, interned := interned.toArray }
  heap := heap
  slotsUsed := slotsUsed
  threads := #[{ frames := .invoking theMethod args0 :: below }]
def below0 : List Frame := [.native { method := ⟨0, 0⟩, args := #[] }]
def about1 : State := aboutOver below0
def p0 : Program := .bare "" "" ""
def e0 : Env := launch0.env 0 0 0
theorem w_frames : about1.frames = Frame.invoking theMethod args0 :: below0 := rfl
set_option maxRecDepth 65536 in
theorem w_args : argsFit about1.vm theMethod args0 = true := by decide +kernel
set_option maxRecDepth 65536 in
theorem w_heap : heapFits about1 = true := by decide +kernel
set_option maxRecDepth 65536 in
theorem w_runnable : about1.curStatus? = some .runnable := by decide +kernel
set_option maxRecDepth 65536 in
theorem w_alone : about1.alone = true := by decide +kernel
set_option maxRecDepth 65536 in
theorem w_named : about1.methodNamed? x = some theMethod := by decide +kernel
set_option maxRecDepth 65536 in
theorem w_hears : about1.hears theMethod below0 = true := by decide +kernel
set_option maxRecDepth 65536 in
theorem w_ripe : about1.ripe theMethod args0 below0 = true := by decide +kernel
theorem w_running : about1.status = .running := rfl
set_option maxRecDepth 65536 in
theorem w_room : about1.hasRoom e0.platform room_1 = true :=
  launch0.hasRoom_least _ room_1 (by decide +kernel) (by decide +kernel) (by decide +kernel) (by decide +kernel) (by decide +kernel) (by decide +kernel)
theorem allAtoms_all (ts : List Jvm.Cond) (a : Array Jvm.Value) (st : Jvm.State) : (allAtoms ts).before a st = ts.all (fun c => c.before a st) := by
  induction ts with
  | nil => rfl
  | cons c t ih =>
    show (Jvm.Cond.and c (allAtoms t)).before a st = _
    rw [Jvm.Cond.before_and, ih, List.all_cons]
def words1 : List Jvm.Cond := Jvm.Cond.code x code maxLocals ret :: tables_1
/-- a 'code' word, met by the world's own term for the bytes: nothing is compared byte by byte -/
theorem code_word {y : MethodName} {bytes : ByteArray} {mx : Nat} {rt : Option FieldType} {a : Array Value} {s : State} {m : MethodId} {meth : Method} {c : Code} (h1 : s.methodNamed? y = some m) (h2 : s.vm.method? m = some meth) (h3 : meth.code = some c) (h4 : c.code = bytes)
    (h5 : (c.maxLocals == mx && c.exceptionTable.isEmpty && decide (c.maxStack ≤ mostOperands) && decide (meth.sig.returnType = rt) && !meth.locks && decide (parseMethodDescriptor y.desc = some meth.sig)) = true) : (Jvm.Cond.code y bytes mx rt).before a s = true := by
  simp only [Bool.and_eq_true, beq_iff_eq, Bool.not_eq_true', decide_eq_true_eq] at h5
  obtain ⟨⟨⟨⟨⟨g1, g2⟩, g3⟩, g4⟩, g5⟩, g6⟩ := h5
  simp [Cond.before, Cond.holds, Cond.value, h1, h2, h3, h4, g1, g2, g3, g4, g5, g6]
def isCode : Jvm.Cond → Bool
  | .code _ _ _ _ => true
  | _ => false
theorem all_split {L : List Jvm.Cond} {P : Jvm.Cond → Bool} (h1 : L.all (fun c => isCode c || P c) = true) (h2 : ∀ c ∈ L.filter isCode, P c = true) : L.all P = true := by
  refine List.all_eq_true.mpr fun c hc => ?_
  have h := List.all_eq_true.mp h1 c hc
  rcases Bool.eq_false_or_eq_true (isCode c) with hi | hi
  · exact h2 c (List.mem_filter.mpr ⟨hc, hi⟩)
  · simpa [hi] using h
set_option maxRecDepth 65536 in
theorem w_c0 : (Jvm.Cond.code x code maxLocals ret).before args0 about1 = true := code_word (m := ⟨1, 2⟩) (meth := k1m2) (c := k1c2) (by decide +kernel) rfl rfl rfl (by decide +kernel)
set_option maxRecDepth 65536 in
theorem w_c1 : (Jvm.Cond.code ({ cls := "com/example/pathstone/pathstone/Nucleotides", name := "states", desc := "(C)I" } : Jvm.MethodName) prog_15_method_2_code (1 : Nat) (Option.some Jvm.ClassFile.FieldType.int)).before args0 about1 = true := code_word (m := ⟨2, 1⟩) (meth := k2m1) (c := k2c1) (by decide +kernel) rfl rfl rfl (by decide +kernel)
set_option maxRecDepth 65536 in
theorem w_c2 : (Jvm.Cond.code ({ cls := "com/example/pathstone/pathstone/NucleotidesStatesPinLaw", name := "ref", desc := "(C)I" } : Jvm.MethodName) method_2_code (2 : Nat) (Option.some Jvm.ClassFile.FieldType.int)).before args0 about1 = true := code_word (m := ⟨1, 1⟩) (meth := k1m1) (c := k1c1) (by decide +kernel) rfl rfl rfl (by decide +kernel)
def codes1 : List Jvm.Cond := [Jvm.Cond.code x code maxLocals ret, Jvm.Cond.code ({ cls := "com/example/pathstone/pathstone/Nucleotides", name := "states", desc := "(C)I" } : Jvm.MethodName) prog_15_method_2_code (1 : Nat) (Option.some Jvm.ClassFile.FieldType.int), Jvm.Cond.code ({ cls := "com/example/pathstone/pathstone/NucleotidesStatesPinLaw", name := "ref", desc := "(C)I" } : Jvm.MethodName) method_2_code (2 : Nat) (Option.some Jvm.ClassFile.FieldType.int)]
set_option maxRecDepth 65536 in
theorem codes_eq : words1.filter isCode = codes1 := rfl
theorem w_codes : ∀ c ∈ words1.filter isCode, c.before args0 about1 = true := by
  rw [codes_eq]
  intro c hc
  simp only [codes1, List.mem_cons, List.not_mem_nil, or_false] at hc
  rcases hc with rfl | rfl | rfl
  · exact w_c0
  · exact w_c1
  · exact w_c2
set_option maxRecDepth 65536 in
theorem w_t1 : words1.all (fun c => isCode c || c.before args0 about1) = true := by decide +kernel
theorem w_tables : (allAtoms (Jvm.Cond.code x code maxLocals ret :: tables_1)).before args0 about1 = true := by
  rw [allAtoms_all]
  show words1.all (fun c => c.before args0 about1) = true
  refine all_split ?_ w_codes
  rw [w_t1]
set_option maxRecDepth 65536 in
theorem w_case : (Jvm.Cond.and given_1 narrow_1).before args0 about1 = true := by decide +kernel
theorem w_applies : (headSpec (Jvm.Cond.code x code maxLocals ret :: tables_1) room_1).applies x e0.platform about1 = true :=
  (Spec.applies_iff w_frames).mpr ⟨w_running, w_runnable, w_alone, w_named, w_hears, w_ripe, w_room, w_tables⟩
theorem atStart : AtStart classFile x code maxLocals ret World_1 tables_1 room_1 Calls_1 rest_1 Pre_1 launch0 p0 e0 about1 theMethod args0 below0 :=
  ⟨lists_1, trivial, launch0.admits_env _ _ _, launch0.least_env, fairChoices_fair.cas, fairChoices_fair.clock, w_frames, w_args, w_heap, w_applies, trivial, trivial, w_case⟩
end start1
theorem witness_1 : WitnessClaimed_1 := ⟨start1.p0, start1.e0, start1.about1, start1.theMethod, start1.args0, start1.below0, start1.atStart⟩
end Jvm.Pilot.@@N@@
